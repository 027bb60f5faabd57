import PyProof.Rows.All
import Wide.All
import OpenK.AllK
import Wide.FinOn
import PySem.Challenge.RW_nb0168_01
open PySem PySem.W PyProof.Rows
set_option Elab.async false
namespace Mine
set_option maxRecDepth 100000 in
set_option maxHeartbeats 8000000 in
open_top hd for PySem.Challenge.rw_nb0168_01
end Mine

namespace Mine
section
open PySem PySem.Builtin PySem.Builtin.Str
set_option autoImplicit false
/-- a text of its signs' numbers -/
def T (l : List Nat) : Str := ⟨l.toArray⟩
theorem T_list (l : List Nat) : (T l).cps.toList = l := rfl
theorem T_of (x : Str) : T x.cps.toList = x := by obtain ⟨a⟩ := x; simp [T]
theorem T_len (l : List Nat) : (T l).length = l.length := by simp [T, Str.length]
theorem T_inj {a b : List Nat} (h : T a = T b) : a = b := congrArg (fun x : Str => x.cps.toList) h
theorem T_append (a b : List Nat) : T a ++ T b = T (a ++ b) := Str.ext' (by simp [T, Str.cps_append])

def rep (c : Nat) (z : List Nat) (d : Nat) : List Nat := if d = c then z else [d]
theorem rep_free {c : Nat} {z : List Nat} : ∀ {l : List Nat}, c ∉ l → l.flatMap (rep c z) = l
  | [], _ => rfl
  | d :: l, h => by
    have h1 : ¬ d = c := fun e => h (e ▸ List.mem_cons_self ..)
    rw [List.flatMap_cons, rep_free (fun m => h (List.mem_cons_of_mem _ m)), rep, if_neg h1]; rfl
theorem rep_join (c : Nat) (z : Str) : ∀ parts : List Str, (∀ p ∈ parts, c ∉ p.cps.toList) → (Str.join ⟨#[c]⟩ parts).cps.toList.flatMap (rep c z.cps.toList) = (Str.join z parts).cps.toList
  | [], _ => rfl
  | [p], h => rep_free (h p (List.mem_singleton.mpr rfl))
  | p :: q :: r, h => by
    have ih := rep_join c z (q :: r) fun a ha => h a (List.mem_cons_of_mem _ ha)
    show (p ++ ⟨#[c]⟩ ++ Str.join ⟨#[c]⟩ (q :: r)).cps.toList.flatMap _ = (p ++ z ++ Str.join z (q :: r)).cps.toList
    simp only [Str.cps_append, Array.toList_append, List.flatMap_append]
    rw [ih, rep_free (h p (List.mem_cons_self ..))]
    simp [rep]
theorem replace_flat (l : List Nat) (c : Nat) (z : List Nat) : Txt.replace (T l) ⟨#[c]⟩ (T z) = T (l.flatMap (rep c z)) := by
  rw [StrLaws.replace_one]
  have h := rep_join c (T z) (Txt.split (T l) ⟨#[c]⟩) (StrLaws.split_free _ _)
  rw [StrLaws.join_split] at h
  rw [← T_of (Str.join (T z) (Txt.split (T l) ⟨#[c]⟩)), ← h]
  rfl
theorem contains_one (l : List Nat) (c : Nat) : Txt.contains (T l) ⟨#[c]⟩ = decide (c ∈ l) := StrLaws.found_one (T l) c

/-- what the escapes write -/
def look (refs : List (Nat × List Nat)) (d : Nat) : List Nat := (refs.lookup d).getD [d]
def spell (refs : List (Nat × List Nat)) (l : List Nat) : List Nat := l.flatMap (look refs)
theorem spell_nil (l : List Nat) : spell [] l = l := by
  unfold spell look
  induction l with
  | nil => rfl
  | cons d l ih => rw [List.flatMap_cons, ih]; rfl
theorem lookup_mem {α : Type} : ∀ {refs : List (Nat × α)} {d : Nat} {v : α}, refs.lookup d = some v → (d, v) ∈ refs
  | (k, u) :: r, d, v, h => by
    rw [List.lookup_cons] at h
    by_cases hk : d = k
    · subst hk; simp at h; subst h; exact List.mem_cons_self ..
    · have : (d == k) = false := by simpa using hk
      rw [this] at h; exact List.mem_cons_of_mem _ (lookup_mem h)
theorem spell_snoc {refs : List (Nat × List Nat)} {c : Nat} {z : List Nat} (h : ∀ p ∈ refs, c ∉ p.2) (l : List Nat) : (spell refs l).flatMap (rep c z) = spell (refs ++ [(c, z)]) l := by
  unfold spell
  rw [List.flatMap_assoc]
  congr 1
  funext d
  unfold look
  rw [List.lookup_append]
  cases he : refs.lookup d with
  | some v => simp only [Option.getD_some, Option.some_or]; exact rep_free (h _ (lookup_mem he))
  | none =>
    simp only [Option.getD_none, Option.none_or, List.flatMap_cons, List.flatMap_nil, List.append_nil, rep, List.lookup_cons, List.lookup_nil]
    by_cases hd : d = c
    · simp [hd]
    · have : (d == c) = false := by simpa using hd
      simp [this, hd]
theorem look_len {refs : List (Nat × List Nat)} (h : ∀ p ∈ refs, p.2.length ≤ 6) (d : Nat) : (look refs d).length ≤ 6 := by
  unfold look
  cases he : refs.lookup d with
  | some v => exact h _ (lookup_mem he)
  | none => simp
theorem spell_len {refs : List (Nat × List Nat)} (h : ∀ p ∈ refs, p.2.length ≤ 6) : ∀ l : List Nat, (spell refs l).length ≤ 6 * l.length
  | [] => by simp [spell]
  | d :: l => by
    have := spell_len h l
    have h1 := look_len h d
    show (List.flatMap (look refs) (d :: l)).length ≤ _
    rw [List.flatMap_cons, List.length_append, List.length_cons]
    unfold spell at this; omega

/-- the pairs of _iter_escaped_chars -/
def iterE : Nat → Bool → List Nat → List (Nat × List Nat)
  | p, true, [] => [(p - 1, [92])]
  | _, false, [] => []
  | p, true, c :: r => (p, [92, c]) :: iterE (p + 1) false r
  | p, false, c :: r => if c = 92 then iterE (p + 1) true r else (p, [c]) :: iterE (p + 1) false r
end
end Mine

namespace Mine
section
open PySem PySem.W PyProof.Rows
noncomputable abbrev KP (P : Params) : Frag := hd.heap_39 P

structure Gl (P : Params) (h : Heap) : Prop where
  K : (KP P).In h
  b : ∃ mb, h.Ns builtinsNs mb ∧ ∀ x : Str, x ≠ "__name__" → mb x = bootBuiltins x
  g : ∃ mg, h.Ns mainGlobals mg

theorem Gl.keeps {P : Params} {h h' : Heap} (G : Gl P h) (hk : ∀ b o, h.get? b = some o → h'.get? b = some o) : Gl P h' :=
  ⟨fun a o e => hk _ _ (G.K a o e), let ⟨mb, x, y⟩ := G.b; ⟨mb, x.keeps hk, y⟩, let ⟨mg, x⟩ := G.g; ⟨mg, x.keeps hk⟩⟩

theorem Gl.statics {P : Params} {h : Heap} (G : Gl P h) : h.Ns cStatics (fun _ => none) :=
  ⟨{ cls := .none, data := .dict #[] }, #[], 0, G.K cStatics _ (by kernel_rfl), rfl, fun _ he => by simp at he, fun _ => rfl⟩
theorem Gl.nolimit {P : Params} {h : Heap} (G : Gl P h) : h.NoLimit := ⟨_, G.statics, rfl⟩
theorem Gl.booked {P : Params} {h : Heap} (G : Gl P h) : NoneBooked h := ⟨_, G.statics, rfl⟩

section
variable {P : Params} {M : Model} {A : Around} {E : Value → Shared → Prop} {s : Shared} {env : Env} {x : Str} {pos : Pos} {v : Value} {Q : Value → Shared → Prop}
theorem nm_glob (G : Gl P s.heap) (e : nsIn (KP P) mainGlobals x = some (some v)) (h : Q v s) (hk : env.scope.kind = .function := by rfl) (hx : env.kindOf x = some .globalImplicit := by rfl) (hg : env.globals = mainGlobals := by rfl) (hd : (x == ("__debug__" : Str)) = false := by decide) :
    wpAny M A (eval (.Name x pos) env) Q E s := by
  obtain ⟨mg, hn⟩ := G.g
  exact Calls.Name_function_global hk hx (Calls.loadGlobal_global (hg ▸ hn) (mg_of G.K hn e) h) hd
theorem nm_blt (G : Gl P s.heap) (e : nsIn (KP P) mainGlobals x = some none) (hv : bootBuiltins x = some v) (hn : x ≠ "__name__") (h : Q v s) (hk : env.scope.kind = .function := by rfl) (hx : env.kindOf x = some .globalImplicit := by rfl)
    (hg : env.globals = mainGlobals := by rfl) (hb : env.builtins = builtinsNs := by rfl) (hd : (x == ("__debug__" : Str)) = false := by decide) : wpAny M A (eval (.Name x pos) env) Q E s := by
  obtain ⟨mg, hgn⟩ := G.g
  obtain ⟨mb, hbn, hb'⟩ := G.b
  exact Calls.Name_function_global hk hx (Calls.loadGlobal_builtin (hg ▸ hgn) (mg_none_of G.K hgn e) (hb ▸ hbn) ((hb' x hn).trans hv) h) hd
end

/-- the room around a call -/
structure Rm (A : Around) (d : Nat) : Prop where
  hand : A.handled = none
  depth : A.depth + d < 900
  units : A.units + 20 * d < 9000
theorem Rm.less {A : Around} {d d' : Nat} (r : Rm A d) (h : d' ≤ d) : Rm A d' := ⟨r.hand, by have := r.depth; omega, by have := r.units; omega⟩
theorem Rm.deeper {A : Around} {d : Nat} {env : Env} (r : Rm A (d + 1)) : Rm (A.deeper env) d :=
  ⟨r.hand, by have := r.depth; show A.depth + 1 + d < 900; omega, by have := r.units; show A.units + 3 + 20 * d < 9000; omega⟩
theorem Rm.in1 {A : Around} {d : Nat} (r : Rm A (d + 1)) : Rm A.in1 d :=
  ⟨r.hand, by have := r.depth; show A.depth + d < 900; omega, by have := r.units; show A.units + 1 + 20 * d < 9000; omega⟩
theorem Rm.room {A : Around} {d : Nat} (r : Rm A d) : A.depth < recursionLimit := by have := r.depth; show A.depth < 1000; omega
theorem Rm.c {A : Around} {d : Nat} (r : Rm A d) : A.units < cLine := by have := r.units; show A.units < 9900; omega

abbrev put (m : Str → Option Value) (x : Str) (v : Value) : Str → Option Value := fun y => if y = x then some v else m y
theorem put_eq {m : Str → Option Value} {x : Str} {v : Value} : put m x v x = some v := if_pos rfl
theorem put_ne {m : Str → Option Value} {x y : Str} {v : Value} (h : (y == x) = false) : put m x v y = m y := if_neg (by simpa using h)
theorem put_of {m : Str → Option Value} {x y : Str} {v u : Value} (h : (y == x) = false) (e : m y = some u) : put m x v y = some u := (put_ne h).trans e

section
variable {prog : Program} {w : World} {A : Around} {E : Value → Shared → Prop} {s : Shared} {env : Env}

theorem on1 {T id : String} {name : Str} {ov : Value} {pos : Pos} {a : Sem Value} {Q : Value → Shared → Prop} (pa : PlainAttrs T) (slot : Slot T name id) (ty : typeOf (.builtin id) = pure (.type "method_descriptor")) (hT : s.TypeIs ov T)
    (hd : ∀ a, ov = .ref a → ∃ ob, s.heap.get? a = some ob ∧ ob.dict = none) (h : wpAny (model prog w) A a (fun v s₁ => wpAny (model prog w) A (call (.builtin id) [ov, v]) Q E s₁) E s) : MethodOnS prog w A E name ov pos [(false, a)] Q s :=
  ⟨T, id, pa, slot, ty, hT, hd, Calls.callWith_builtin rfl (Calls.evalArgs_plain (Calls.spliced_cons (wpAny_mono h (fun _ _ h₁ => Calls.spliced_nil h₁) fun _ _ e => e)))⟩
theorem on2 {T id : String} {name : Str} {ov : Value} {pos : Pos} {a b : Sem Value} {Q : Value → Shared → Prop} (pa : PlainAttrs T) (slot : Slot T name id) (ty : typeOf (.builtin id) = pure (.type "method_descriptor")) (hT : s.TypeIs ov T)
    (hd : ∀ a, ov = .ref a → ∃ ob, s.heap.get? a = some ob ∧ ob.dict = none) (h : wpAny (model prog w) A a (fun v s₁ => wpAny (model prog w) A b (fun u s₂ => wpAny (model prog w) A (call (.builtin id) [ov, v, u]) Q E s₂) E s₁) E s) :
    MethodOnS prog w A E name ov pos [(false, a), (false, b)] Q s :=
  ⟨T, id, pa, slot, ty, hT, hd, Calls.callWith_builtin rfl (Calls.evalArgs_plain (Calls.spliced_cons (wpAny_mono h (fun _ _ h₁ => Calls.spliced_cons (wpAny_mono h₁ (fun _ _ h₂ => Calls.spliced_nil h₂) fun _ _ e => e)) fun _ _ e => e)))⟩
end

/-- what a call leaves: all that stood stands -/
structure Ok (s s' : Shared) : Prop where
  keep : ∀ b o, s.heap.get? b = some o → s'.heap.get? b = some o
  os : s'.os = s.os
  bare : AllBare s.gens → AllBare s'.gens
  gens : ∀ (i : Nat) (g : GenState), s.gens[i]? = some g → s'.gens[i]? = some g
theorem Ok.refl (s : Shared) : Ok s s := ⟨fun _ _ e => e, rfl, fun h => h, fun _ _ e => e⟩
theorem Ok.trans {s s' s'' : Shared} (a : Ok s s') (b : Ok s' s'') : Ok s s'' := ⟨fun x o e => b.keep x o (a.keep x o e), b.os.trans a.os, fun h => b.bare (a.bare h), fun i g e => b.gens i g (a.gens i g e)⟩
theorem Ok.of {s : Shared} {h' : Heap} {k : Nat} (hk : ∀ b o, s.heap.get? b = some o → h'.get? b = some o) : Ok s { s with heap := h', toks := k } := ⟨hk, rfl, fun h => h, fun _ _ e => e⟩
end
end Mine

namespace Mine
section
open PySem PySem.W PyProof.Rows PySem.Builtin PySem.Builtin.Str
set_option autoImplicit false
section
variable {prog : Program} {w : World} {A : Around} {E : Value → Shared → Prop} {s : Shared}

theorem esc_step {name : Str} {scope : Scope} {L a : Addr} {cd : Value} {h₀ : Heap} {m : Str → Option Value} {refs : List (Nat × List Nat)} {l z : List Nat} {c : Nat} {y z' : Str} {t : Tok} {k1 k2 k3 : Nat} {p1 p2 p3 p4 p5 p6 p7 p8 p9 p10 p11 : Pos} {Q : Flow → Shared → Prop}
    (fr : Fr h₀ L s.heap m) (hm : m "text" = some (.str (T (spell refs l)) t)) (hy : y = ⟨#[c]⟩) (hz : z' = T z) (hyz : (y == z') = false) (hl : l.length ≤ 1000) (hb : ∀ p ∈ refs, p.2.length ≤ 6) (hz6 : z.length ≤ 6) (hf : ∀ p ∈ refs, c ∉ p.2)
    (h : ∀ h' m' t' k, Fr h₀ L h' m' → m' "text" = some (.str (T (spell (refs ++ [(c, z)]) l)) t') → Q .next { s with heap := h', toks := k })
    (hk : scope.kind = .function := by rfl) (hl : (envOf name scope L a cd).kindOf "text" = some .local := by rfl) (hline : (p6.endLine == p7.line) = true := by rfl) :
    wpAny (model prog w) A (exec (.If (.Compare (.Constant (.str y) k1 p1) [.In] [.Name "text" p2] p3) [.Assign [.Name "text" p4] (.Call (.Attribute (.Name "text" p5) "replace" p6) [.Constant (.str y) k2 p8, .Constant (.str z') k3 p9] [] p7) p10] [] p11) (envOf name scope L a cd)) Q E s := by
  refine wpAny_If (wpAny_isTrue_Compare1 (wpAny_Constant_str (ld fr hm ?_ hk hl)))
  refine SB.contains (wpAny_truthy_bool ?_)
  subst hy; subst hz
  rw [contains_one]
  have hlen := spell_len hb l
  by_cases hcon : c ∈ spell refs l
  · rw [if_pos (decide_eq_true hcon)]
    refine wpAny_execs_cons (wpAny_Assign_Name (Call_method2 rfl rfl hline (ld fr hm ?_ hk hl)) rfl)
    refine on2 F.plainAttrs_str F.slot_str_replace F.type_str_replace (typeIs_str _ _ _) (fun _ e => nomatch e) ?_
    refine wpAny_Constant_str (wpAny_Constant_str ?_)
    refine SC.replace (by show s.toks + 1 ≠ 0; omega) (by show s.toks + 1 + 1 ≠ 0; omega) (by show s.toks + 1 ≠ s.toks + 1 + 1; omega) hyz ?_ fun t' k => ?_
    · rw [T_len, T_len]
      have : ((spell refs l).length + 1) * z.length ≤ 6001 * 6 := Nat.mul_le_mul (by omega) hz6
      omega
    · refine st fr (fun h' fr' => wpAny_execs_nil ?_) hk hl
      refine h h' _ t' _ fr' ?_
      rw [replace_flat, spell_snoc hf]; exact put_eq
  · rw [if_neg (by simpa using hcon)]
    refine wpAny_execs_nil (h _ _ t _ fr ?_)
    rw [hm, ← spell_snoc hf, rep_free hcon]

end

def rCdata : List (Nat × List Nat) := [(38, [38, 97, 109, 112, 59]), (60, [38, 108, 116, 59]), (62, [38, 103, 116, 59])]
def rAttrib : List (Nat × List Nat) := rCdata ++ [(34, [38, 113, 117, 111, 116, 59]), (13, [38, 35, 49, 51, 59]), (10, [38, 35, 49, 48, 59]), (9, [38, 35, 48, 57, 59])]
def rHtml : List (Nat × List Nat) := [(38, [38, 97, 109, 112, 59]), (62, [38, 103, 116, 59]), (34, [38, 113, 117, 111, 116, 59])]
def rCdataC : List (Nat × List Nat) := rCdata ++ [(13, [38, 35, 120, 68, 59])]
def rAttribC : List (Nat × List Nat) := [(38, [38, 97, 109, 112, 59]), (60, [38, 108, 116, 59]), (34, [38, 113, 117, 111, 116, 59]), (9, [38, 35, 120, 57, 59]), (10, [38, 35, 120, 65, 59]), (13, [38, 35, 120, 68, 59])]

section
variable {prog : Program} {w : World} {A : Around} {s : Shared} {R : Result → Shared → Prop}
set_option maxRecDepth 100000 in
theorem cdata_spec {l : List Nat} {t : Tok} (G : Gl w.params s.heap) (r : Rm A 2) (hl : l.length ≤ 1000)
    (hR : ∀ t' s', Ok s s' → R (.ok (.ret (.str (T (spell rCdata l)) t'))) s') : codeAny (model prog w) A (.call (.ref 49) ⟨[.str (T l) t], []⟩) R s := by
  refine call_pos_ret r.room (G.K 49 _ rfl) rfl G.nolimit (codeRec_of G.K (by kernel_rfl)) rfl (locs (by kernel_rfl)) (fun h₁ fr => ?_)
  refine wpAny_execs_cons (wpAny_Try_except ?_)
  refine wpAny_execs_cons (esc_step (refs := []) (c := 38) (z := [38, 97, 109, 112, 59]) fr (t := t) (by rw [spell_nil]; rfl) (by decide +kernel) (by decide +kernel) (by decide +kernel) hl (by decide) (by decide) (by decide) fun h' m' t' k fr' hm' => ?_)
  refine wpAny_execs_cons (esc_step (c := 60) (z := [38, 108, 116, 59]) fr' hm' (by decide +kernel) (by decide +kernel) (by decide +kernel) hl (by decide) (by decide) (by decide) fun h' m' t' k fr' hm' => ?_)
  refine wpAny_execs_cons (esc_step (c := 62) (z := [38, 103, 116, 59]) fr' hm' (by decide +kernel) (by decide +kernel) (by decide +kernel) hl (by decide) (by decide) (by decide) fun h' m' t' k fr' hm' => ?_)
  refine wpAny_execs_cons (wpAny_Return_some (ld fr' hm' ?_))
  exact hR _ _ (Ok.of fr'.keep)
set_option maxRecDepth 100000 in
theorem attrib_spec {l : List Nat} {t : Tok} (G : Gl w.params s.heap) (r : Rm A 2) (hl : l.length ≤ 1000)
    (hR : ∀ t' s', Ok s s' → R (.ok (.ret (.str (T (spell rAttrib l)) t'))) s') : codeAny (model prog w) A (.call (.ref 56) ⟨[.str (T l) t], []⟩) R s := by
  refine call_pos_ret r.room (G.K 56 _ rfl) rfl G.nolimit (codeRec_of G.K (by kernel_rfl)) rfl (locs (by kernel_rfl)) (fun h₁ fr => ?_)
  refine wpAny_execs_cons (wpAny_Try_except ?_)
  refine wpAny_execs_cons (esc_step (refs := []) (c := 38) (z := [38, 97, 109, 112, 59]) fr (t := t) (by rw [spell_nil]; rfl) (by decide +kernel) (by decide +kernel) (by decide +kernel) hl (by decide) (by decide) (by decide) fun h' m' t' k fr' hm' => ?_)
  refine wpAny_execs_cons (esc_step (c := 60) (z := [38, 108, 116, 59]) fr' hm' (by decide +kernel) (by decide +kernel) (by decide +kernel) hl (by decide) (by decide) (by decide) fun h' m' t' k fr' hm' => ?_)
  refine wpAny_execs_cons (esc_step (c := 62) (z := [38, 103, 116, 59]) fr' hm' (by decide +kernel) (by decide +kernel) (by decide +kernel) hl (by decide) (by decide) (by decide) fun h' m' t' k fr' hm' => ?_)
  refine wpAny_execs_cons (esc_step (c := 34) (z := [38, 113, 117, 111, 116, 59]) fr' hm' (by decide +kernel) (by decide +kernel) (by decide +kernel) hl (by decide) (by decide) (by decide) fun h' m' t' k fr' hm' => ?_)
  refine wpAny_execs_cons (esc_step (c := 13) (z := [38, 35, 49, 51, 59]) fr' hm' (by decide +kernel) (by decide +kernel) (by decide +kernel) hl (by decide) (by decide) (by decide) fun h' m' t' k fr' hm' => ?_)
  refine wpAny_execs_cons (esc_step (c := 10) (z := [38, 35, 49, 48, 59]) fr' hm' (by decide +kernel) (by decide +kernel) (by decide +kernel) hl (by decide) (by decide) (by decide) fun h' m' t' k fr' hm' => ?_)
  refine wpAny_execs_cons (esc_step (c := 9) (z := [38, 35, 48, 57, 59]) fr' hm' (by decide +kernel) (by decide +kernel) (by decide +kernel) hl (by decide) (by decide) (by decide) fun h' m' t' k fr' hm' => ?_)
  refine wpAny_execs_cons (wpAny_Return_some (ld fr' hm' ?_))
  exact hR _ _ (Ok.of fr'.keep)
set_option maxRecDepth 100000 in
theorem html_spec {l : List Nat} {t : Tok} (G : Gl w.params s.heap) (r : Rm A 2) (hl : l.length ≤ 1000)
    (hR : ∀ t' s', Ok s s' → R (.ok (.ret (.str (T (spell rHtml l)) t'))) s') : codeAny (model prog w) A (.call (.ref 63) ⟨[.str (T l) t], []⟩) R s := by
  refine call_pos_ret r.room (G.K 63 _ rfl) rfl G.nolimit (codeRec_of G.K (by kernel_rfl)) rfl (locs (by kernel_rfl)) (fun h₁ fr => ?_)
  refine wpAny_execs_cons (wpAny_Try_except ?_)
  refine wpAny_execs_cons (esc_step (refs := []) (c := 38) (z := [38, 97, 109, 112, 59]) fr (t := t) (by rw [spell_nil]; rfl) (by decide +kernel) (by decide +kernel) (by decide +kernel) hl (by decide) (by decide) (by decide) fun h' m' t' k fr' hm' => ?_)
  refine wpAny_execs_cons (esc_step (c := 62) (z := [38, 103, 116, 59]) fr' hm' (by decide +kernel) (by decide +kernel) (by decide +kernel) hl (by decide) (by decide) (by decide) fun h' m' t' k fr' hm' => ?_)
  refine wpAny_execs_cons (esc_step (c := 34) (z := [38, 113, 117, 111, 116, 59]) fr' hm' (by decide +kernel) (by decide +kernel) (by decide +kernel) hl (by decide) (by decide) (by decide) fun h' m' t' k fr' hm' => ?_)
  refine wpAny_execs_cons (wpAny_Return_some (ld fr' hm' ?_))
  exact hR _ _ (Ok.of fr'.keep)
set_option maxRecDepth 100000 in
theorem cdataC_spec {l : List Nat} {t : Tok} (G : Gl w.params s.heap) (r : Rm A 2) (hl : l.length ≤ 1000)
    (hR : ∀ t' s', Ok s s' → R (.ok (.ret (.str (T (spell rCdataC l)) t'))) s') : codeAny (model prog w) A (.call (.ref 70) ⟨[.str (T l) t], []⟩) R s := by
  refine call_pos_ret r.room (G.K 70 _ rfl) rfl G.nolimit (codeRec_of G.K (by kernel_rfl)) rfl (locs (by kernel_rfl)) (fun h₁ fr => ?_)
  refine wpAny_execs_cons (wpAny_Try_except ?_)
  refine wpAny_execs_cons (esc_step (refs := []) (c := 38) (z := [38, 97, 109, 112, 59]) fr (t := t) (by rw [spell_nil]; rfl) (by decide +kernel) (by decide +kernel) (by decide +kernel) hl (by decide) (by decide) (by decide) fun h' m' t' k fr' hm' => ?_)
  refine wpAny_execs_cons (esc_step (c := 60) (z := [38, 108, 116, 59]) fr' hm' (by decide +kernel) (by decide +kernel) (by decide +kernel) hl (by decide) (by decide) (by decide) fun h' m' t' k fr' hm' => ?_)
  refine wpAny_execs_cons (esc_step (c := 62) (z := [38, 103, 116, 59]) fr' hm' (by decide +kernel) (by decide +kernel) (by decide +kernel) hl (by decide) (by decide) (by decide) fun h' m' t' k fr' hm' => ?_)
  refine wpAny_execs_cons (esc_step (c := 13) (z := [38, 35, 120, 68, 59]) fr' hm' (by decide +kernel) (by decide +kernel) (by decide +kernel) hl (by decide) (by decide) (by decide) fun h' m' t' k fr' hm' => ?_)
  refine wpAny_execs_cons (wpAny_Return_some (ld fr' hm' ?_))
  exact hR _ _ (Ok.of fr'.keep)
set_option maxRecDepth 100000 in
theorem attribC_spec {l : List Nat} {t : Tok} (G : Gl w.params s.heap) (r : Rm A 2) (hl : l.length ≤ 1000)
    (hR : ∀ t' s', Ok s s' → R (.ok (.ret (.str (T (spell rAttribC l)) t'))) s') : codeAny (model prog w) A (.call (.ref 77) ⟨[.str (T l) t], []⟩) R s := by
  refine call_pos_ret r.room (G.K 77 _ rfl) rfl G.nolimit (codeRec_of G.K (by kernel_rfl)) rfl (locs (by kernel_rfl)) (fun h₁ fr => ?_)
  refine wpAny_execs_cons (wpAny_Try_except ?_)
  refine wpAny_execs_cons (esc_step (refs := []) (c := 38) (z := [38, 97, 109, 112, 59]) fr (t := t) (by rw [spell_nil]; rfl) (by decide +kernel) (by decide +kernel) (by decide +kernel) hl (by decide) (by decide) (by decide) fun h' m' t' k fr' hm' => ?_)
  refine wpAny_execs_cons (esc_step (c := 60) (z := [38, 108, 116, 59]) fr' hm' (by decide +kernel) (by decide +kernel) (by decide +kernel) hl (by decide) (by decide) (by decide) fun h' m' t' k fr' hm' => ?_)
  refine wpAny_execs_cons (esc_step (c := 34) (z := [38, 113, 117, 111, 116, 59]) fr' hm' (by decide +kernel) (by decide +kernel) (by decide +kernel) hl (by decide) (by decide) (by decide) fun h' m' t' k fr' hm' => ?_)
  refine wpAny_execs_cons (esc_step (c := 9) (z := [38, 35, 120, 57, 59]) fr' hm' (by decide +kernel) (by decide +kernel) (by decide +kernel) hl (by decide) (by decide) (by decide) fun h' m' t' k fr' hm' => ?_)
  refine wpAny_execs_cons (esc_step (c := 10) (z := [38, 35, 120, 65, 59]) fr' hm' (by decide +kernel) (by decide +kernel) (by decide +kernel) hl (by decide) (by decide) (by decide) fun h' m' t' k fr' hm' => ?_)
  refine wpAny_execs_cons (esc_step (c := 13) (z := [38, 35, 120, 68, 59]) fr' hm' (by decide +kernel) (by decide +kernel) (by decide +kernel) hl (by decide) (by decide) (by decide) fun h' m' t' k fr' hm' => ?_)
  refine wpAny_execs_cons (wpAny_Return_some (ld fr' hm' ?_))
  exact hR _ _ (Ok.of fr'.keep)
end
end
end Mine

namespace Mine
section
open PySem PySem.W PyProof.Rows
set_option autoImplicit false
section
variable {M : Model} {A : Around} {R : GenEnd} {Y : Protocol} {n : Nat} {s₀ : Shared} {c : Code} {fs : List Frame} {s : Shared} {env : Env}
  {K : Flow → Sem Fin} {H : Value → Sem Fin} {gd : Bool → Bool} {lv : List Value → List Value}

/-- a part that does not yield -/
theorem seg_part {α : Type} {m : Sem α} {K : α → Sem Fin} {H : Value → Sem Fin} (h : wpAny M (A.over c fs) m (fun a s' => Seg M A R Y n s₀ c (K a) fs s') (fun _ _ => False) s) : Seg M A R Y n s₀ c (m.wrap K H gd lv) fs s :=
  seg_wrap (wpAny_mono h (fun _ _ x => x) fun _ _ x => x.elim)
theorem seg_then {α β : Type} {m : Sem α} {k : α → Sem β} {K : β → Sem Fin} {H : Value → Sem Fin} (h : wpAny M (A.over c fs) m (fun a s' => Seg M A R Y n s₀ c ((k a).wrap K H gd lv) fs s') (fun _ _ => False) s) : Seg M A R Y n s₀ c ((m >>= k).wrap K H gd lv) fs s :=
  seg_bind_wrap (wpAny_mono h (fun _ _ x => x) fun _ _ x => x.elim)

theorem seg_stmt {st : Stmt} {rest : List Stmt} (h : wpAny M (A.over c fs) (exec st env) (fun f s' => f = .next ∧ Seg M A R Y n s₀ c ((execs rest env).wrap K H gd lv) fs s') (fun _ _ => False) s) :
    Seg M A R Y n s₀ c ((execs (st :: rest) env).wrap K H gd lv) fs s := by
  refine seg_execs_cons (seg_part (wpAny_mono h (fun f s' hf => ?_) fun _ _ x => x))
  obtain ⟨rfl, hf⟩ := hf
  exact hf

theorem seg_If {test : Expr} {body orelse : List Stmt} {pos : Pos}
    (h : wpAny M (A.over c fs) (isTrue test env (eval test env)) (fun b s' => if b then Seg M A R Y n s₀ c ((execs body env).wrap K H gd lv) fs s' else Seg M A R Y n s₀ c ((execs orelse env).wrap K H gd lv) fs s') (fun _ _ => False) s) :
    Seg M A R Y n s₀ c ((exec (.If test body orelse pos) env).wrap K H gd lv) fs s := by
  rw [exec_If]
  refine seg_then (wpAny_standAt (seg_then (wpAny_mono h (fun b s' hb => ?_) fun _ _ x => x)))
  cases b <;> exact hb

/-- where the loop's end is handed on -/
def kont (env : Env) (K : Flow → Sem Fin) (H : Value → Sem Fin) (gd : Bool → Bool) (lv : List Value → List Value) : Result → Sem Fin := fun r =>
  ((match r with | .ok f => (.pure f : Sem Flow) | .error e => .raise e).onRaise fun (x : Value) => do
    if (← field x 1) == Value.none then unsupported "frame.own-activation:exception-without-traceback"
    setFlight x env.frame).wrap K H gd lv

theorem seg_For {target iter : Expr} {body orelse : List Stmt} {pos : Pos}
    (h : wpAny M (A.over c fs) (eval iter env) (fun x s₁ => wpAny M (A.over c fs) (pyIter x) (fun it s₂ => ∀ p, Seg M A R Y n s₀ (.forLoop target it body orelse env) (M.den (.forLoop target it body orelse env))
      (.ret (kont env K H gd lv) none (gd false) (lv []) c p [] :: fs) s₂) (fun _ _ => False) s₁) (fun _ _ => False) s)
    (hs : ∀ x, foldedSetIterable iter env x = pure x := by intro _; rfl) :
    Seg M A R Y n s₀ c ((exec (.For target iter body orelse pos) env).wrap K H gd lv) fs s := by
  rw [exec_For]
  refine seg_then (wpAny_standAt (seg_then (wpAny_mono h (fun x s₁ h₁ => seg_then (wpAny_of_eq (hs x) (seg_then (wpAny_standAt (seg_then (wpAny_holding (wpAny_mono h₁ (fun it s₂ h₂ => ?_) fun _ _ x => x))))))) fun _ _ x => x)))
  exact seg_call h₂

end

section
variable {prog : Program} {w : World} {A : Around} {R : GenEnd} {Y : Protocol} {n : Nat} {s₀ : Shared} {fs : List Frame} {s : Shared} {env : Env}

def loopK (target : Expr) (it : Value) (body orelse : List Stmt) (env : Env) : Flow → Sem Fin := fun f => match f with
  | .next | .cont => .pure (.again (.forLoop target it body orelse env))
  | .brk => .pure (.done .next)
  | .ret v => .pure (.done (.ret v))
def loopH (env : Env) : Value → Sem Fin := fun e => (do noteFrame e env; theTreesLotGoes e : Sem Unit).bind (fun _ => .raise e)

theorem seg_forLoop {target : Expr} {it : Value} {body orelse : List Stmt}
    (h : wpAny (model prog w) (A.over (.forLoop target it body orelse env) fs) (pyNext it) (fun r s₁ => match r with
        | none => Seg (model prog w) A R Y n s₀ (.block orelse env) ((model prog w).den (.block orelse env)) fs s₁
        | some v => wpAny (model prog w) (A.over (.forLoop target it body orelse env) fs) (letOwnedTupleGo target it v) (fun _ s₂ => wpAny (model prog w) (A.over (.forLoop target it body orelse env) fs) (assign target env v)
            (fun _ s₃ => Seg (model prog w) A R Y n s₀ (.forLoop target it body orelse env) ((execs body env).wrap (loopK target it body orelse env) (loopH env) id id) fs s₃) (fun _ _ => False) s₂) (fun _ _ => False) s₁) (fun _ _ => False) s) :
    Seg (model prog w) A R Y n s₀ (.forLoop target it body orelse env) ((model prog w).den (.forLoop target it body orelse env)) fs s := by
  show Seg _ A R Y n s₀ _ ((forTurn target it body orelse env).onRaise (fun x => do noteFrame x env; theTreesLotGoes x)) fs s
  unfold forTurn
  rw [Sem.onRaise_eq_wrap]
  refine seg_then (wpAny_standAt (seg_then (wpAny_onRaise (wpAny_mono h (fun r s₁ h₁ => ?_) fun _ _ x => x.elim))))
  cases r with
  | none => exact seg_again rfl h₁
  | some v =>
    refine seg_then (wpAny_mono h₁ (fun _ s₂ h₂ => seg_then (wpAny_mono h₂ (fun _ s₃ h₃ => ?_) fun _ _ x => x)) fun _ _ x => x)
    rw [Sem.bind_eq_wrap', Sem.wrap_wrap]
    rw [Sem.wrap_congr (execs body env) _ _ (K' := loopK target it body orelse env) (H' := loopH env) (fun f => by cases f <;> rfl) (fun e => by rfl)]
    exact h₃

theorem seg_block_nil (h : Seg (model prog w) A R Y n s₀ (.block [] env) (leafOf (.ok .next)) fs s) : Seg (model prog w) A R Y n s₀ (.block [] env) ((model prog w).den (.block [] env)) fs s := h
end
end
end Mine

namespace Mine
section
open PySem PySem.W PyProof.Rows PySem.Builtin PySem.Builtin.Str
set_option autoImplicit false
section
variable {prog : Program} {w : World} {A : Around} {E : Value → Shared → Prop} {s : Shared}
theorem ldN {M : Model} {env : Env} {x : Str} {pos : Pos} {v : Value} {m : Str → Option Value} {Q : Value → Shared → Prop} (hn : s.heap.Ns env.locals m) (hv : m x = some v) (h : Q v s)
    (hk : env.scope.kind = .function := by rfl) (hl : env.kindOf x = some .local := by rfl) (hd : (x == ("__debug__" : Str)) = false := by decide) : wpAny M A (eval (.Name x pos) env) Q E s :=
  wpAny_Name (wpAny_loadName_local hk hl hn hv h) hd

theorem assign_pair {env : Env} {xi xv : Str} {pi pv pt : Pos} {k : Nat} {a : Addr} {u v : Value} {m : Str → Option Value} {Q : Unit → Shared → Prop} (hh : A.handled = none) (ht : s.heap.IsTuple a #[u, v]) (hn : s.heap.Ns env.locals m)
    (hxi : env.kindOf xi = some .local) (hxv : env.kindOf xv = some .local) (hk : env.scope.kind = .function)
    (h : ∀ h' tk, h'.Ns env.locals (put (put m xi u) xv v) → (∀ b o, b ≠ env.locals → s.heap.get? b = some o → h'.get? b = some o) → Q () { s with heap := h', toks := tk }) :
    wpAny (model prog w) A (assign (.Tuple [.Name xi pi, .Name xv pv] k pt) env (.ref a)) Q E s := by
  have hp : (env.scope.kind == .class || (env.scope.kind == .module && env.locals != env.globals)) = false := by rw [hk]; rfl
  refine wpAny_assign_Tuple hh ht rfl rfl fun h₃ hx₃ => ?_
  have old : ∀ b o, s.heap.get? b = some o → h₃.get? b = some o := fun b o e => hx₃ b o (Nat.ne_of_lt (Heap.lt_size e)) e
  show wpAny _ A (do holding [v] (assign (.Name xi pi) env u); do holding [] (assign (.Name xv pv) env v); pure ()) _ _ _
  refine wpAny_bind (wpAny_holding (wpAny_assign_Name (wpAny_storeName_local hxi (hn.keeps old) (fun h₄ hn₄ hs₄ => ?_) hp)))
  refine wpAny_bind (wpAny_holding (wpAny_assign_Name (wpAny_storeName_local hxv hn₄ (fun h₅ hn₅ hs₅ => wpAny_pure ?_) hp)))
  exact h h₅ _ hn₅ fun b o hb e => hs₅.extBut b o hb (hs₄.extBut b o hb (old b o e))
end

/-- the iterators that a generator drives -/
def Itr (o : Obj) : Prop := (o.cls = .type "enumerate" ∨ o.cls = .type "str_iterator" ∨ o.cls = .type "str_ascii_iterator") ∧ ∃ vs, o.data = .fields vs
def Prv (C b : Addr) (o : Obj) : Prop := b = C ∨ (C < b ∧ Itr o)
def Out (C : Addr) (h h' : Heap) : Prop := ∀ b o, ¬ Prv C b o → h.get? b = some o → h'.get? b = some o
def Inn (C : Addr) (h h' : Heap) : Prop := ∀ b o, Prv C b o → h.get? b = some o → h'.get? b = some o
theorem Out.refl (C : Addr) (h : Heap) : Out C h h := fun _ _ _ e => e
theorem Out.trans {C : Addr} {h h' h'' : Heap} (a : Out C h h') (b : Out C h' h'') : Out C h h'' := fun x o n e => b x o n (a x o n e)
theorem Out.of_keep {C : Addr} {h h' : Heap} (hk : ∀ b o, h.get? b = some o → h'.get? b = some o) : Out C h h' := fun b o _ e => hk b o e
theorem Inn.of_keep {C : Addr} {h h' : Heap} (hk : ∀ b o, h.get? b = some o → h'.get? b = some o) : Inn C h h' := fun b o _ e => hk b o e

structure Mv (C : Addr) (s₀ s : Shared) : Prop where
  out : Out C s₀.heap s.heap
  gens : s.gens = s₀.gens
  os : s.os = s₀.os
theorem Mv.refl (C : Addr) (s : Shared) : Mv C s s := ⟨.refl _ _, rfl, rfl⟩
theorem Mv.step {C : Addr} {s₀ s : Shared} {h' : Heap} {k : Nat} (x : Mv C s₀ s) (h : Out C s.heap h') : Mv C s₀ { s with heap := h', toks := k } := ⟨x.out.trans h, x.gens, x.os⟩

def IsU (h : Heap) (v : Value) (u : Nat × List Nat) : Prop := ∃ a t1 t2, v = .ref a ∧ h.get? a = some { cls := .type "tuple", data := .seq #[.int u.1 t1, .str (T u.2) t2] }

def gY (P : Params) (C : Addr) (us : List (Nat × List Nat)) : Protocol := fun m s₀ v s kap =>
  (∃ u, us[us.length - 1 - m]? = some u ∧ IsU s.heap v u ∧ v ≠ .ref C) ∧ Mv C s₀ s ∧ ∀ s'' : Shared, Gl P s''.heap → Inn C s.heap s''.heap → kap (.send .none) s''
def gR (C : Addr) : GenEnd := fun n s₀ r s₁ => r = .ok (.ret .none) ∧ n = 0 ∧ Mv C s₀ s₁

theorem draws_str {prog : Program} {w : World} {A : Around} (hh : A.handled = none) (it : Addr) (x : Str) (t : Tok) :
    Draws prog w A it [it] x.cps.size (fun i v => ∃ c u, x.cps[i]? = some c ∧ v = .str ⟨#[c]⟩ u) (fun i h => h.IsStrIter it (strIterType x) x t i) := by
  unfold strIterType
  split
  · exact Draws.strAscii hh it x t
  · exact Draws.strWide hh it x t

noncomputable def gDef : List Stmt × Scope := match PySem.Challenge.pw_nb0168_01.main.body with
  | _ :: .FunctionDef _ _ b _ _ _ sc _ _ _ :: _ => (b, sc)
  | _ => ([], default)
noncomputable def gBody : List Stmt := gDef.1
noncomputable def gScope : Scope := gDef.2
noncomputable def gEnv (C : Addr) : Env := envOf "_iter_escaped_chars" gScope C 21 (.ref 20)
noncomputable def gLoop : List Stmt := match gBody with
  | [_, _, .For _ _ b _ _, _] => b
  | _ => []
noncomputable def gTgt : Expr := match gBody with
  | [_, _, .For t _ _ _ _, _] => t
  | _ => .Constant .none 0 default

theorem g_tgt : ∃ p1 p2 k p3, gTgt = .Tuple [.Name "pos" p1, .Name "ch" p2] k p3 := ⟨_, _, _, _, rfl⟩

structure Low (P : Params) (C : Addr) : Prop where
  K : ∀ a o, (KP P).lookup a = some o → a < C
  b : builtinsNs < C
  g : mainGlobals < C
theorem Gl.low {P : Params} {h : Heap} {C : Addr} (G : Gl P h) (hC : h.objs.size ≤ C) : Low P C :=
  ⟨fun a o e => Nat.lt_of_lt_of_le (Heap.lt_size (G.K a o e)) hC, let ⟨_, x, _⟩ := G.b; Nat.lt_of_lt_of_le x.lt hC, let ⟨_, x⟩ := G.g; Nat.lt_of_lt_of_le x.lt hC⟩
theorem not_prv {C b : Addr} {o : Obj} (h : b < C) : ¬ Prv C b o := fun p => by
  rcases p with p | p
  · exact Nat.ne_of_lt h p
  · exact Nat.lt_asymm h p.1
theorem Gl.out {P : Params} {h h' : Heap} {C : Addr} (G : Gl P h) (lo : Low P C) (x : Out C h h') : Gl P h' :=
  ⟨fun a o e => x a o (not_prv (lo.K a o e)) (G.K a o e), let ⟨mb, y, z⟩ := G.b; ⟨mb, y.at' fun o e => x _ o (not_prv lo.b) e, z⟩, let ⟨mg, y⟩ := G.g; ⟨mg, y.at' fun o e => x _ o (not_prv lo.g) e⟩⟩

structure LS (l : List Nat) (t : Tok) (C e it : Addr) (i : Nat) (esc : Bool) (m : Str → Option Value) (h : Heap) : Prop where
  ns : h.Ns C m
  en : ∃ old, IsEnum h e it i old
  si : h.IsStrIter it (strIterType (T l)) (T l) t i
  mE : m "escape" = some (.bool esc)
  mP : ∃ tk, m "pos" = some (.int ((i - 1 : Nat) : Int) tk)
  ci : C < it
  ie : it < e

theorem itr_strIter {h : Heap} {it : Addr} {x : Str} {t : Tok} {i : Nat} (y : h.IsStrIter it (strIterType x) x t i) : ∃ o, h.get? it = some o ∧ Itr o := by
  obtain ⟨o, ho, hc, hd⟩ := y
  refine ⟨o, ho, ?_, _, hd⟩
  unfold strIterType at hc
  split at hc
  · exact .inr (.inr hc)
  · exact .inr (.inl hc)

theorem LS.inn {l : List Nat} {t : Tok} {C e it : Addr} {i : Nat} {esc : Bool} {m : Str → Option Value} {h h' : Heap} (x : LS l t C e it i esc m h) (hi : Inn C h h') : LS l t C e it i esc m h' where
  ns := x.ns.at' fun o e => hi _ o (.inl rfl) e
  en := let ⟨old, he⟩ := x.en; ⟨old, hi _ _ (.inr ⟨Nat.lt_trans x.ci x.ie, .inl rfl, _, rfl⟩) he⟩
  si := by
    obtain ⟨o', ho', hi'⟩ := itr_strIter x.si
    obtain ⟨o, ho, r⟩ := x.si
    rw [ho] at ho'; obtain rfl := Option.some.inj ho'
    exact ⟨o, hi _ o (.inr ⟨x.ci, hi'⟩) ho, r⟩
  mE := x.mE
  mP := x.mP
  ci := x.ci
  ie := x.ie
theorem LS.setE {l : List Nat} {t : Tok} {C e it : Addr} {i : Nat} {esc b : Bool} {m : Str → Option Value} {h h' : Heap} (x : LS l t C e it i esc m h) (hn : h'.Ns C (put m "escape" (.bool b))) (hs : Heap.SameBut C h h') : LS l t C e it i b (put m "escape" (.bool b)) h' where
  ns := hn
  en := let ⟨old, he⟩ := x.en; ⟨old, (hs.2 _ (Nat.ne_of_gt (Nat.lt_trans x.ci x.ie))).trans he⟩
  si := let ⟨o, ho, r⟩ := x.si; ⟨o, (hs.2 _ (Nat.ne_of_gt x.ci)).trans ho, r⟩
  mE := put_eq
  mP := let ⟨tk, h⟩ := x.mP; ⟨tk, put_of (by decide +kernel) h⟩
  ci := x.ci
  ie := x.ie
theorem out_same {C : Addr} {h h' : Heap} (hs : Heap.SameBut C h h') : Out C h h' := fun b o hb e => (hs.2 b fun q => hb (.inl q)).trans e

section
variable {prog : Program} {w : World} {A : Around} {R : GenEnd} {Y : Protocol} {n : Nat} {s₀ : Shared} {c : Code} {fs : List Frame} {s : Shared}
  {K : Flow → Sem Fin} {H : Value → Sem Fin} {gd : Bool → Bool} {lv : List Value → List Value}
/-- escape = b, as the last step of a way -/
theorem seg_setE {C : Addr} {m : Str → Option Value} {b : Bool} {k : Nat} {p1 p2 p3 : Pos} (hn : s.heap.Ns C m)
    (h : ∀ h' tk, h'.Ns C (put m "escape" (.bool b)) → Heap.SameBut C s.heap h' → Seg (model prog w) A R Y n s₀ c (K .next) fs { s with heap := h', toks := tk }) :
    Seg (model prog w) A R Y n s₀ c ((execs [.Assign [.Name "escape" p1] (.Constant (.bool b) k p2) p3] (gEnv C)).wrap K H gd lv) fs s := by
  refine seg_stmt (wpAny_Assign_Name (wpAny_Constant_bool (wpAny_storeName_local (env := gEnv C) (by kernel_rfl) hn (fun h' hn' hs' => ⟨rfl, seg_execs_nil ?_⟩) (by kernel_rfl))) rfl)
  exact h h' _ hn' hs'
end

section
variable {prog : Program} {w : World} {A : Around} {n : Nat} {s₀ : Shared} {c : Code} {fs : List Frame} {s : Shared}
  {K : Flow → Sem Fin} {H : Value → Sem Fin}
theorem Inn.push {C : Addr} {h h' : Heap} {o : Obj} (x : Inn C (h.push o) h') : Inn C h h' := fun b o' hb e => x b o' hb (Heap.get?_push_of_some _ e)
/-- yield (pos, x) -/
theorem seg_yieldU {C : Addr} {us : List (Nat × List Nat)} {m : Str → Option Value} {i : Nat} {cs : List Nat} {tk : Tok} {x : Expr} {k : Nat} {p1 p2 p3 p4 : Pos} (hn : s.heap.Ns C m) (hp : m "pos" = some (.int i tk))
    (hx : ∀ E, wpAny (model prog w) (A.over c fs) (eval x (gEnv C)) (fun v s' => ∃ t' k', v = .str (T cs) t' ∧ s' = { s with toks := k' }) E s) (hst : starEach [x] (gEnv C) = [(false, eval x (gEnv C))]) (hfs : splitAtGen fs = none) (hfg : fs.any Frame.guarded = false)
    (hus : us[us.length - 1 - n]? = some (i, cs)) (mv : Mv C s₀ s) (hgo : ∀ s'', Gl w.params s''.heap → Inn C s.heap s''.heap → Seg (model prog w) A (gR C) (gY w.params C us) n s'' c (K .next) fs s'') :
    Seg (model prog w) A (gR C) (gY w.params C us) (n + 1) s₀ c ((exec (.Expr (.Yield (some (.Tuple [.Name "pos" p1, x] k p2)) p3) p4) (gEnv C)).wrap K H id id) fs s := by
  refine seg_Expr_Yield hfs rfl hfg (wpAny_Tuple (wpAny_items_cons (ldN (env := gEnv C) hn hp (wpAny_items_cons (wpAny_mono (hx _) (fun v s' hv => wpAny_items_nil ?_) fun _ _ e => e) hst) (by kernel_rfl) (by kernel_rfl)) rfl)) (by kernel_rfl) (by kernel_rfl)
  obtain ⟨t', k', rfl, rfl⟩ := hv
  refine ⟨by show 2 ≤ sizeLine; decide, fun kap hkap => ⟨⟨(i, cs), hus, ⟨_, _, _, rfl, Heap.get?_push_size _ rfl⟩, fun e => Nat.ne_of_gt hn.lt (by injection e)⟩, mv.step (.of_keep fun b o q => Heap.get?_push_of_some _ q), fun s'' G'' inn'' => hkap .none s'' (hgo s'' G'' inn''.push)⟩⟩

theorem gen_turn {l : List Nat} {t : Tok} {C e it : Addr} {us pre : List (Nat × List Nat)} {m : Str → Option Value} {i cc : Nat} {r : List Nat} {esc : Bool} {tk u : Tok} (lo : Low w.params C) (hfs : splitAtGen fs = none) (hfg : fs.any Frame.guarded = false)
    (ls : LS l t C e it (i + 1) esc m s.heap) (mP : m "pos" = some (.int i tk)) (mC : m "ch" = some (.str ⟨#[cc]⟩ u)) (mv : Mv C s₀ s) (G : Gl w.params s.heap) (hus : us = pre ++ iterE i esc (cc :: r))
    (hk : ∀ (esc' : Bool) (pre' : List (Nat × List Nat)) (s₀' s' : Shared) (m' : Str → Option Value), us = pre' ++ iterE (i + 1) esc' r → LS l t C e it (i + 1) esc' m' s'.heap → Mv C s₀' s' → Gl w.params s'.heap →
      Seg (model prog w) A (gR C) (gY w.params C us) (iterE (i + 1) esc' r).length s₀' c (K .next) fs s') :
    Seg (model prog w) A (gR C) (gY w.params C us) (iterE i esc (cc :: r)).length s₀ c ((execs gLoop (gEnv C)).wrap K H id id) fs s := by
  refine seg_execs_cons (seg_If (wpAny_isTrue_value (ldN (env := gEnv C) ls.ns ls.mE (wpAny_truthy_bool ?_) (by kernel_rfl) (by kernel_rfl)) rfl))
  cases esc with
  | true =>
    rw [if_pos rfl]
    have hn1 : iterE i true (cc :: r) = (i, [92, cc]) :: iterE (i + 1) false r := rfl
    rw [hn1] at hus ⊢
    rw [List.length_cons]
    refine seg_execs_cons (seg_yieldU ls.ns mP (cs := [92, cc]) (fun E => ?_) rfl hfs hfg (by rw [hus]; simp) mv fun s'' G'' inn'' => ?_)
    · refine wpAny_BinOp (wpAny_Constant_str (ldN (env := gEnv C) ls.ns mC (SB.add (fun t' k' => ⟨t', k', ?_, rfl⟩) ?_) (by kernel_rfl) (by kernel_rfl)))
      · rw [show (Str.ofString "\\" : Str) = T [92] by decide +kernel, show (⟨#[cc]⟩ : Str) = T [cc] from rfl, T_append]; rfl
      · show (Str.ofString "\\").length + 1 ≤ sizeLine
        decide +kernel
    · have ls'' := ls.inn inn''
      refine seg_setE ls''.ns fun h₅ tk₅ hn₅ hs₅ => seg_execs_nil ?_
      exact hk false (pre ++ [(i, [92, cc])]) s'' _ _ (by rw [hus]; simp) (ls''.setE hn₅ hs₅) ((Mv.refl C s'').step (out_same hs₅)) (G''.out lo (out_same hs₅))
  | false =>
    rw [if_neg Bool.false_ne_true]
    refine seg_execs_cons (seg_If (wpAny_isTrue_Compare1 (ldN (env := gEnv C) ls.ns mC (wpAny_Constant_str (P.eq_str (wpAny_truthy_bool ?_))) (by kernel_rfl) (by kernel_rfl)) rfl))
    have hb : ((⟨#[cc]⟩ : Str).cps.toList == (Str.ofString "\\").cps.toList) = decide (cc = 92) := by
      rw [show (Str.ofString "\\" : Str) = T [92] by decide +kernel]
      by_cases h : cc = 92 <;> simp [T, h]
    rw [hb]
    by_cases h92 : cc = 92
    · rw [if_pos (decide_eq_true h92)]
      have hn1 : iterE i false (cc :: r) = iterE (i + 1) true r := if_pos h92
      rw [hn1] at hus ⊢
      refine seg_setE ls.ns fun h₅ tk₅ hn₅ hs₅ => seg_execs_nil (seg_execs_nil ?_)
      exact hk true pre s₀ _ _ hus (ls.setE hn₅ hs₅) (mv.step (out_same hs₅)) (G.out lo (out_same hs₅))
    · rw [if_neg (by simpa using h92)]
      have hn1 : iterE i false (cc :: r) = (i, [cc]) :: iterE (i + 1) false r := if_neg h92
      rw [hn1] at hus ⊢
      rw [List.length_cons]
      refine seg_execs_cons (seg_yieldU (s := { s with toks := s.toks + 1 }) ls.ns mP (cs := [cc]) (fun E => ldN (env := gEnv C) ls.ns mC ⟨u, s.toks + 1, rfl, rfl⟩ (by kernel_rfl) (by kernel_rfl)) rfl hfs hfg (by rw [hus]; simp) (mv.step (.refl _ _)) fun s'' G'' inn'' => ?_)
      exact seg_execs_nil (seg_execs_nil (seg_execs_nil (hk false (pre ++ [(i, [cc])]) s'' _ _ (by rw [hus]; simp) (ls.inn inn'') (Mv.refl C s'') G'')))
end

section
variable {prog : Program} {w : World} {A : Around}
set_option maxRecDepth 100000
theorem gen_loop {l : List Nat} {t : Tok} {C e it : Addr} {us : List (Nat × List Nat)} {c : Code} {K : Flow → Sem Fin} {H : Value → Sem Fin} (hh : A.handled = none) (lo : Low w.params C)
    (hafter : ∀ (esc : Bool) (s₀ s : Shared) (m : Str → Option Value) (pre : List (Nat × List Nat)), us = pre ++ iterE l.length esc [] → s.heap.Ns C m → m "escape" = some (.bool esc) → (∃ tk, m "pos" = some (.int ((l.length - 1 : Nat) : Int) tk)) → Mv C s₀ s →
      Seg (model prog w) A (gR C) (gY w.params C us) (iterE l.length esc []).length s₀ c (K .next) [] s) :
    ∀ (k i : Nat) (esc : Bool) (pre : List (Nat × List Nat)) (s₀ s : Shared) (m : Str → Option Value), l.length - i = k → i ≤ l.length → us = pre ++ iterE i esc (l.drop i) → LS l t C e it i esc m s.heap → Mv C s₀ s → Gl w.params s.heap → ∀ p,
      Seg (model prog w) A (gR C) (gY w.params C us) (iterE i esc (l.drop i)).length s₀ (.forLoop gTgt (.ref e) gLoop [] (gEnv C)) ((model prog w).den (.forLoop gTgt (.ref e) gLoop [] (gEnv C)))
        [.ret (kont (gEnv C) K H id id) none false [] c p []] s := by
  intro k
  induction k with
  | zero =>
    intro i esc pre s₀ s m hk hi hus ls mv G p
    have hil : i = l.length := by omega
    subst hil
    rw [List.drop_length] at hus ⊢
    have hh' : (A.over (.forLoop gTgt (.ref e) gLoop [] (gEnv C)) [.ret (kont (gEnv C) K H id id) none false [] c p []]).handled = none := hh
    have D := draws_str (prog := prog) (w := w) (A := Around.in1 (A.over (.forLoop gTgt (.ref e) gLoop [] (gEnv C)) [.ret (kont (gEnv C) K H id id) none false [] c p []])) hh' it (T l) t
    refine seg_forLoop (wpAny_pyNext_enum_endD D ls.en.choose_spec ?_ fun h' hx => ?_)
    · have : (T l).cps.size = l.length := by simp [T]
      rw [this]; exact ls.si
    · have hxo : Out C s.heap h' := fun b o hb e => hx b o (fun q => by
        subst q
        obtain ⟨o', ho', hi'⟩ := itr_strIter ls.si
        rw [e] at ho'; obtain rfl := Option.some.inj ho'
        exact hb (.inr ⟨ls.ci, hi'⟩)) e
      refine seg_block_nil (seg_leaf (.ok .next) ?_)
      exact hafter esc s₀ _ m pre hus (ls.ns.at' fun o e => hx _ o (Nat.ne_of_lt ls.ci) e) ls.mE ls.mP (mv.step (k := s.toks) hxo)
  | succ k ih =>
    intro i esc pre s₀ s m hk hi hus ls mv G p
    have hlt : i < l.length := by omega
    have hdr : l.drop i = l[i] :: l.drop (i + 1) := List.drop_eq_getElem_cons hlt
    have hsz : (T l).cps.size = l.length := by simp [T]
    obtain ⟨old, hen⟩ := ls.en
    have hh' : (A.over (.forLoop gTgt (.ref e) gLoop [] (gEnv C)) [.ret (kont (gEnv C) K H id id) none false [] c p []]).handled = none := hh
    have D := draws_str (prog := prog) (w := w) (A := Around.in1 (A.over (.forLoop gTgt (.ref e) gLoop [] (gEnv C)) [.ret (kont (gEnv C) K H id id) none false [] c p []])) hh' it (T l) t
    refine seg_forLoop (wpAny_pyNext_enum_itemD D hen ls.si (by rw [hsz]; exact hlt) (Nat.ne_of_gt ls.ie) (fun q => Nat.ne_of_gt ls.ie (List.mem_singleton.mp q)) fun x h₁ tk hP heo hsi₁ hT₁ hz₁ hk₁ => ?_)
    obtain ⟨cc, u, hcc, rfl⟩ := hP
    have hcc' : cc = l[i] := by
      have : (T l).cps[i]? = some l[i] := by simp [T, hlt]
      rw [this] at hcc; exact (Option.some.inj hcc).symm
    refine wpAny_letOwnedTupleGo_enum heo fun h₂ he₂ hs₂ => ?_
    have hC : C < s.heap.objs.size := ls.ns.lt
    have hCe : C < e := Nat.lt_trans ls.ci ls.ie
    have hel : e < s.heap.objs.size := Heap.lt_size hen
    have hil : it < s.heap.objs.size := Nat.lt_trans ls.ie hel
    refine assign_pair (env := gEnv C) (m := m) hh' (a := s.heap.objs.size) (u := .int i tk) (v := .str ⟨#[cc]⟩ u) ⟨_, (hs₂.2 _ (Nat.ne_of_gt hel)).trans hT₁, rfl, _, rfl⟩ ?_ (by kernel_rfl) (by kernel_rfl) (by kernel_rfl) fun h₃ tk₃ hn₃ hk₃ => ?_
    · exact (ls.ns.at' fun o e' => hk₁ _ o (Nat.ne_of_lt hCe) (Nat.ne_of_lt ls.ci) e').sameBut hs₂ (Nat.ne_of_lt hCe)
    have out₃ : Out C s.heap h₃ := fun b o hb e' => by
      have hbe : b ≠ e := fun q => by subst q; rw [hen] at e'; obtain rfl := Option.some.inj e'; exact hb (.inr ⟨hCe, .inl rfl, _, rfl⟩)
      have hbi : b ≠ it := fun q => by
        subst q
        obtain ⟨o', ho', hi'⟩ := itr_strIter ls.si
        rw [e'] at ho'; obtain rfl := Option.some.inj ho'
        exact hb (.inr ⟨ls.ci, hi'⟩)
      exact hk₃ b o (fun q => hb (.inl q)) ((hs₂.2 b hbe).trans (hk₁ b o hbe hbi e'))
    have en₃ : IsEnum h₃ e it ((i + 1 : Nat) : Int) (.str ⟨#[cc]⟩ u) := by
      have : ((i + 1 : Nat) : Int) = (i : Int) + 1 := by push_cast; rfl
      rw [this]; exact hk₃ e _ (Nat.ne_of_gt hCe) he₂
    have si₃ : h₃.IsStrIter it (strIterType (T l)) (T l) t (i + 1) := by
      obtain ⟨o, ho, r⟩ := hsi₁
      exact ⟨o, hk₃ it o (Nat.ne_of_gt ls.ci) ((hs₂.2 it (Nat.ne_of_lt ls.ie)).trans ho), r⟩
    have mv₃ : Mv C s₀ { s with heap := h₃, toks := tk₃ } := mv.step out₃
    have G₃ : Gl w.params h₃ := G.out lo out₃
    have mE₃ : put (put m "pos" (.int i tk)) "ch" (.str ⟨#[cc]⟩ u) "escape" = some (.bool esc) := put_of (by decide +kernel) (put_of (by decide +kernel) ls.mE)
    have mP₃ : put (put m "pos" (.int i tk)) "ch" (.str ⟨#[cc]⟩ u) "pos" = some (.int i tk) := put_of (by decide +kernel) put_eq
    have mC₃ : put (put m "pos" (.int i tk)) "ch" (.str ⟨#[cc]⟩ u) "ch" = some (.str ⟨#[cc]⟩ u) := put_eq
    have ls₃ : LS l t C e it (i + 1) esc (put (put m "pos" (.int i tk)) "ch" (.str ⟨#[cc]⟩ u)) h₃ := ⟨hn₃, ⟨_, en₃⟩, si₃, mE₃, ⟨tk, mP₃⟩, ls.ci, ls.ie⟩
    rw [hdr] at hus
    rw [hdr]
    rw [← hcc'] at hus ⊢
    exact gen_turn lo rfl rfl ls₃ mP₃ mC₃ mv₃ G₃ hus fun esc' pre' s₀' s' m' hus' ls' mv' G' => seg_again rfl (ih (i + 1) esc' pre' s₀' s' m' (by omega) hlt hus' ls' mv' G' p)
end
end
end Mine

namespace Mine
section
open PySem PySem.W PyProof.Rows PySem.Builtin PySem.Builtin.Str
set_option autoImplicit false
structure GMv (g : Nat) (C : Addr) (s s' : Shared) : Prop where
  out : Out C s.heap s'.heap
  gens : GenOnlyQ g s.gens s'.gens
  os : s'.os = s.os

structure GSt (prog : Program) (w : World) (A : Around) (a : Addr) (g : Nat) (C : Addr) (us : List (Nat × List Nat)) (j : Nat) (s : Shared) : Prop where
  isg : s.heap.IsGen a g
  lo : Low w.params C
  G : Gl w.params s.heap
  ac : a ≠ C
  st : ∃ gs, s.gens[g]? = some gs ∧ ∀ s'' : Shared, Gl w.params s''.heap → Inn C s.heap s''.heap → gs.Goes (model prog w) A.in1 (gR C) (gY w.params C us) (us.length - j) (.send .none) s''

theorem isGen_npr {h : Heap} {a g : Nat} {C : Addr} {o : Obj} (x : h.IsGen a g) (ho : h.get? a = some o) (hc : a ≠ C) : ¬ Prv C a o := by
  obtain ⟨o', nm, qn, ho', hcl, _⟩ := x
  rw [ho] at ho'; obtain rfl := Option.some.inj ho'
  rintro (p | ⟨_, p, _⟩)
  · exact hc p
  · rcases p with p | p | p <;> (rw [hcl] at p; exact absurd p (by decide))
theorem IsGen.out {h h' : Heap} {a g : Nat} {C : Addr} (x : h.IsGen a g) (hc : a ≠ C) (hx : Out C h h') : h'.IsGen a g := by
  obtain ⟨o, nm, qn, ho, r⟩ := id x
  exact ⟨o, nm, qn, hx a o (isGen_npr x ho hc) ho, r⟩

section
variable {prog : Program} {w : World} {A : Around} {E : Value → Shared → Prop} {s : Shared} {a g : Nat} {C : Addr} {us : List (Nat × List Nat)} {j : Nat}

theorem GSt.frame {s' : Shared} (x : GSt prog w A a g C us j s) (G : Gl w.params s'.heap) (hi : Inn C s.heap s'.heap) (ha : ∀ o, s.heap.get? a = some o → s'.heap.get? a = some o) (hg : s'.gens[g]? = s.gens[g]?) : GSt prog w A a g C us j s' where
  isg := let ⟨o, nm, qn, ho, r⟩ := x.isg; ⟨o, nm, qn, ha o ho, r⟩
  lo := x.lo
  G := G
  ac := x.ac
  st := let ⟨gs, hgs, hgo⟩ := x.st; ⟨gs, hg.trans hgs, fun s'' G'' i'' => hgo s'' G'' fun b o hb e => i'' b o hb (hi b o hb e)⟩

theorem gen_wake {gs : GenState} {n : Nat} {R : Nat → Shared → Shared → Prop} {Y : Protocol} {Q : Option Value → Shared → Prop} (hh : A.handled = none) (hl : s.heap.NoLimit) (hroom : A.depth < recursionLimit) (hg : s.heap.IsGen a g) (hgs : s.gens[g]? = some gs)
    (hgo : gs.Goes (model prog w) A.in1 (fun n s₀ r s₁ => r = .ok (.ret .none) ∧ R n s₀ s₁) Y n (.send .none) (s.setGen g .running))
    (hY : ∀ v s₁ gs', gs'.bare = true → Y (n - 1) (s.setGen g .running) v s₁ (fun r' s'' => match n with | 0 => False | m + 1 => gs'.Goes (model prog w) A.in1 (fun n s₀ r s₁ => r = .ok (.ret .none) ∧ R n s₀ s₁) Y m r' s'') → Q (some v) (s₁.setGen g gs'))
    (hR : ∀ s₁, R n (s.setGen g .running) s₁ → ∀ h', (∀ b o, s₁.heap.get? b = some o → h'.get? b = some o) → Q none { s₁.setGen g .finished with heap := h' }) :
    wpAny (model prog w) A (pyNext (.ref a)) Q E s := by
  unfold pyNext
  refine wpAny_bind (wpAny_attempt (wpAny_callSpecial?_slot (name := Str.ofString "__next__") hg.typeIs slot_gen_next (wpAny_call_entry slot_gen_next hg.typeIs entry_gen_next ?_ (args_gen_next _))))
  show wpAny _ A.in1 (Builtin.Generator.genWake (.ref a) (.send .none)) _ _ s
  unfold Builtin.Generator.genWake
  refine wpAny_bind (wpAny_holding (wpAny_genNumber hg (wpAny_bind (wpAny_genState hgs ?_))))
  have fin : ∀ (gs : GenState), gs.Goes (model prog w) A.in1 (fun n s₀ r s₁ => r = .ok (.ret .none) ∧ R n s₀ s₁) Y n (.send .none) (s.setGen g .running) → gs.status = .fresh ∨ gs.status = .suspended := by
    intro gs h
    cases gs <;> first | exact .inl rfl | exact .inr rfl | exact h.elim
  rcases fin gs hgo with hst | hst <;> rw [hst] <;>
  · refine wpAny_bind (wpAny_roomToWake hl hroom ?_)
    show wpAny _ A.in1 (.resume g (.send .none) [] _) _ _ s
    refine wpAny_resumeQ hgs hgo (fun x s₁ hx => ?_) (fun v s₁ gs' hb hv => wpAny_pure ⟨v, rfl, wpAny_pure (hY v s₁ gs' hb hv)⟩)
    obtain ⟨rfl, hp⟩ := hx
    show wpAny _ A.in1 (newExc (.type "StopIteration") [] >>= _) _ _ _
    refine wpAny_bind ?_
    simp only [newExc, newTuple]
    refine wpAny_bind (wpAny_newObj_type ?_ (by size_fits))
    refine wpAny_bind (m := firstArgMember _ _) (wpAny_of_eq (a := Value.none) (by first | rfl | (simp only [firstArgMember]; rfl)) ?_)
    refine wpAny_newObj_type ?_ (by size_fits)
    simp only [raiseNew]
    refine wpAny_bind (wpAny_bind (wpAny_handled ?_))
    rw [show A.in1.handled = none from hh]
    refine wpAny_throw (wpAny_bind (wpAny_isInstance (T := "StopIteration") (b := true) ⟨_, Heap.get?_push_size _ rfl, rfl⟩ isSubtype_stop ?_))
    exact wpAny_pure (hR s₁ hp _ fun b o hb => Heap.get?_push_of_some _ (Heap.get?_push_of_some _ hb))

theorem gen_item {Q : Option Value → Shared → Prop} {d : Nat} (r : Rm A d) (x : GSt prog w A a g C us j s) (hj : j < us.length)
    (hQ : ∀ v s' u, us[j]? = some u → IsU s'.heap v u → GSt prog w A a g C us (j + 1) s' → GMv g C s s' → v ≠ .ref C → Q (some v) s') : wpAny (model prog w) A (pyNext (.ref a)) Q E s := by
  obtain ⟨gs, hgs, hgo⟩ := x.st
  obtain ⟨m, hm⟩ : ∃ m, us.length - j = m + 1 := ⟨us.length - j - 1, by omega⟩
  rw [hm] at hgo
  refine gen_wake (R := fun n s₀ s₁ => n = 0 ∧ Mv C s₀ s₁) r.hand x.G.nolimit r.room x.isg hgs (hgo (s.setGen g .running) x.G fun _ _ _ e => e) (fun v s₁ gs' hb hv => ?_) (fun s₁ hp h' hk => absurd hp.1 (Nat.succ_ne_zero m))
  obtain ⟨⟨u, hu, hU, hvC⟩, mv, hkap⟩ := hv
  have hidx : us.length - 1 - (m + 1 - 1) = j := by omega
  rw [hidx] at hu
  have hge : s₁.gens = (s.setGen g .running).gens := mv.gens
  have hg1 : s₁.gens[g]? = some .running := by rw [hge]; exact setGen_self hgs
  refine hQ v _ u hu hU ⟨IsGen.out x.isg x.ac mv.out, x.lo, x.G.out x.lo mv.out, x.ac, gs', setGen_self hg1, fun s'' G'' i'' => ?_⟩ ⟨mv.out, ?_, mv.os⟩ hvC
  · have e : us.length - (j + 1) = m := by omega
    rw [e]; exact hkap s'' G'' i''
  · have h1 : GenOnly g s.gens s₁.gens := by rw [hge]; exact GenOnly.setGen s g .running
    exact GenOnlyQ.of (h1.trans (GenOnly.setGen s₁ g gs')) (setGen_self hg1) hb

theorem gen_done {Q : Option Value → Shared → Prop} {d : Nat} (r : Rm A d) (x : GSt prog w A a g C us us.length s) (hQ : ∀ s', GMv g C s s' → Gl w.params s'.heap → Q none s') : wpAny (model prog w) A (pyNext (.ref a)) Q E s := by
  obtain ⟨gs, hgs, hgo⟩ := x.st
  rw [Nat.sub_self] at hgo
  refine gen_wake (R := fun n s₀ s₁ => n = 0 ∧ Mv C s₀ s₁) r.hand x.G.nolimit r.room x.isg hgs (hgo (s.setGen g .running) x.G fun _ _ _ e => e) (fun v s₁ gs' hb hv => ?_) (fun s₁ hp h' hk => ?_)
  · obtain ⟨_, mv, hkap⟩ := hv
    exact (hkap s₁ (x.G.out x.lo mv.out) fun _ _ _ e => e).elim
  · obtain ⟨_, mv⟩ := hp
    have hge : s₁.gens = (s.setGen g .running).gens := mv.gens
    have hg1 : s₁.gens[g]? = some .running := by rw [hge]; exact setGen_self hgs
    have ho : Out C s.heap h' := fun b o hb e => hk b o (mv.out b o hb e)
    have h1 : GenOnly g s.gens s₁.gens := by rw [hge]; exact GenOnly.setGen s g .running
    exact hQ _ ⟨ho, GenOnlyQ.of (h1.trans (GenOnly.setGen s₁ g .finished)) (setGen_self hg1) rfl, mv.os⟩ (x.G.out x.lo ho)
end
end
end Mine

namespace Mine
section
open PySem PySem.W PyProof.Rows PySem.Builtin PySem.Builtin.Str
set_option autoImplicit false
section
variable {prog : Program} {w : World} {A : Around} {s₀ s : Shared}
set_option maxRecDepth 100000

theorem gen_tail {C : Addr} {l : List Nat} {us pre : List (Nat × List Nat)} {m : Str → Option Value} {esc : Bool} {c : Code} {K : Flow → Sem Fin} {H : Value → Sem Fin} {rest : List Stmt} {p1 p2 p3 p4 p5 p6 p7 : Pos} {k1 k2 : Nat}
    (hr : rest = [.If (.Name "escape" p1) [.Expr (.Yield (some (.Tuple [.Name "pos" p2, .Constant (.str "\\") k1 p3] k2 p4)) p5) p6] [] p7])
    (hus : us = pre ++ iterE l.length esc []) (hn : s.heap.Ns C m) (mE : m "escape" = some (.bool esc)) (mP : ∃ tk, m "pos" = some (.int ((l.length - 1 : Nat) : Int) tk)) (mv : Mv C s₀ s)
    (hK : ∀ s₀ s, Mv C s₀ s → Seg (model prog w) A (gR C) (gY w.params C us) 0 s₀ c (K .next) [] s) :
    Seg (model prog w) A (gR C) (gY w.params C us) (iterE l.length esc []).length s₀ c ((execs rest (gEnv C)).wrap K H id id) [] s := by
  subst hr
  obtain ⟨tk, mP⟩ := mP
  refine seg_execs_cons (seg_If (wpAny_isTrue_value (ldN (env := gEnv C) hn mE (wpAny_truthy_bool ?_) (by kernel_rfl) (by kernel_rfl)) rfl))
  cases esc with
  | true =>
    rw [if_pos rfl]
    refine seg_execs_cons (seg_yieldU hn mP (cs := [92]) (fun E => wpAny_Constant_str ⟨s.toks, s.toks + 1, by rw [show (Str.ofString "\\" : Str) = T [92] by decide +kernel], rfl⟩) rfl rfl rfl ?_ mv fun s'' G'' inn'' => seg_execs_nil (seg_execs_nil (hK s'' s'' (Mv.refl C s''))))
    rw [hus]; simp [iterE]
  | false =>
    rw [if_neg Bool.false_ne_true]
    exact seg_execs_nil (seg_execs_nil (hK s₀ s mv))

theorem gen_seg {C : Addr} {l : List Nat} {t : Tok} (hh : A.handled = none) (lo : Low w.params C) (G : Gl w.params s.heap) {m₀ : Str → Option Value} (hn : s.heap.Ns C m₀) (mA : m₀ "addr" = some (.str (T l) t)) (mv : Mv C s₀ s) :
    Seg (model prog w) A (gR C) (gY w.params C (iterE 0 false l)) (iterE 0 false l).length s₀ (.func gBody (gEnv C)) ((model prog w).den (.func gBody (gEnv C))) [] s := by
  refine seg_func ?_
  have hh' : (A.over (.func gBody (gEnv C)) []).handled = none := hh
  refine seg_stmt (wpAny_Assign_Name (wpAny_Constant_int (wpAny_storeName_local (env := gEnv C) (by kernel_rfl) hn (fun h₁ hn₁ hs₁ => ⟨rfl, ?_⟩) (by kernel_rfl))) rfl)
  refine seg_stmt (wpAny_Assign_Name (wpAny_Constant_bool (wpAny_storeName_local (env := gEnv C) (by kernel_rfl) hn₁ (fun h₂ hn₂ hs₂ => ⟨rfl, ?_⟩) (by kernel_rfl))) rfl)
  have hn₂' : h₂.Ns C (put (put m₀ "pos" (.int 0 s.toks)) "escape" (.bool false)) := hn₂
  have out₂ : Out C s.heap h₂ := (out_same hs₁).trans (out_same hs₂)
  have G₂ : Gl w.params h₂ := G.out lo out₂
  refine seg_execs_cons (seg_For (Call_name1 rfl (nm_blt (P := w.params) G₂ (by kernel_rfl) boot_enumerate (by decide +kernel) (callWith_type1 (ldN (env := gEnv C) (v := .str (T l) t) hn₂' (put_of (by decide +kernel) (put_of (by decide +kernel) mA)) (call_enumerate_str fun h₃ he₃ hi₃ hz₃ hk₃ => ?_) (by kernel_rfl) (by kernel_rfl))) (by kernel_rfl) (by kernel_rfl) (by kernel_rfl) (by kernel_rfl))) ?_)
  · refine wpAny_pyIter_enum he₃ fun p => ?_
    have hC : C < h₂.objs.size := hn₂.lt
    refine gen_loop (e := h₂.objs.size + 1) (it := h₂.objs.size) (t := t) (m := _) hh lo ?_ l.length 0 false [] s₀ _ (by omega) (Nat.zero_le _) rfl ⟨hn₂'.keeps hk₃, ⟨_, he₃⟩, hi₃, ?_, ?_, hC, Nat.lt_succ_self _⟩ ?_ (G₂.keeps hk₃) p
    · intro esc s₀' s' m' pre' hus' hn' mE' mP' mv'
      exact gen_tail rfl hus' hn' mE' mP' mv' fun s₀'' s'' mv'' => seg_end (.ok (.ret .none)) ⟨rfl, rfl, mv''⟩
    · exact put_eq
    · exact ⟨_, put_of (by decide +kernel) put_eq⟩
    · exact mv.step (out₂.trans (.of_keep hk₃))
  · intro _; rfl
end
section
variable {prog : Program} {w : World} {A : Around} {s : Shared} {R : Result → Shared → Prop}
set_option maxRecDepth 100000
/-- a call of _iter_escaped_chars makes a generator that stands at its start -/
theorem iter_spec {l : List Nat} {t : Tok} (G : Gl w.params s.heap) (r : Rm A 2)
    (hR : ∀ a g C s', s.heap.objs.size ≤ C → C < a → g = s.gens.size → Ok s s' → (∀ A' : Around, A'.handled = none → GSt prog w A' a g C (iterE 0 false l) 0 s') → R (.ok (.ret (.ref a))) s') :
    codeAny (model prog w) A (.call (.ref 21) ⟨[.str (T l) t], []⟩) R s := by
  refine codeAny_call_generator r.room (G.K 21 _ rfl) rfl rfl rfl rfl (codeRec_of G.K (by kernel_rfl)) ?_
  refine wpAny_of_eq (a := [(Str.ofString "addr", Value.str (T l) t)]) rfl ?_
  refine wpAny_newFunctionEnv (by decide +kernel) (locs (by kernel_rfl)) (fun h' hns hsb => ?_) rfl
  have keep : ∀ b o, s.heap.get? b = some o → h'.get? b = some o := fun b o e => hsb.extBut b o (Nat.ne_of_lt (Heap.lt_size e)) (Heap.get?_push_of_some _ e)
  have hsz : h'.objs.size = s.heap.objs.size + 1 := by rw [hsb.1, Heap.size_push]
  have keep' : ∀ (ob : Obj) b o, s.heap.get? b = some o → (h'.push ob).get? b = some o := fun ob b o e => Heap.get?_push_of_some _ (keep b o e)
  refine ⟨G.nolimit.keeps keep, hR _ s.gens.size s.heap.objs.size _ (Nat.le_refl _) ?_ rfl ⟨keep' _, rfl, ?_, ?_⟩ fun A' hh => ?_⟩
  · show s.heap.objs.size < h'.objs.size
    omega
  · exact fun h => h.push rfl
  · intro i g hg
    have hi : i < s.gens.size := (Array.getElem?_eq_some_iff.mp hg).1
    show (s.gens.push _)[i]? = some g
    rw [Array.getElem?_push, if_neg (Nat.ne_of_lt hi)]; exact hg
  · have G' := G.keeps (keep' { cls := .type "generator", data := .fields #[.int s.gens.size 0, .str "_iter_escaped_chars" (s.toks + 1), .str "_iter_escaped_chars" (s.toks + 1 + 1)] })
    refine ⟨⟨_, _, _, Heap.get?_push_size _ rfl, rfl, rfl, rfl⟩, G.low (Nat.le_refl _), G', ?_, _, Array.getElem?_push_size .., fun s'' G'' i'' => ⟨rfl, ?_⟩⟩
    · show h'.objs.size ≠ s.heap.objs.size
      omega
    · refine gen_seg (A := A'.in1) (t := t) hh (G.low (Nat.le_refl _)) G'' ((hns.push _).at' fun o e => i'' _ o (.inl rfl) e) rfl (Mv.refl _ _)
end
end
end Mine

namespace Mine
section
open PySem PySem.W PyProof.Rows PySem.Builtin PySem.Builtin.Str
set_option autoImplicit false
section
variable {prog : Program} {w : World} {A : Around} {E : Value → Shared → Prop} {s : Shared}

theorem letGo_gen {elts : List Expr} {k : Nat} {pos : Pos} {a T : Addr} {g : Nat} {Q : Unit → Shared → Prop} (hg : s.heap.IsGen a g) (h : Q () s) : wpAny (model prog w) A (letOwnedTupleGo (.Tuple elts k pos) (.ref a) (.ref T)) Q E s := by
  obtain ⟨o, nm, qn, ho, hc, hd, _⟩ := hg
  unfold letOwnedTupleGo
  refine wpAny_bind (wpAny_load ho ?_)
  rw [hc, hd]
  exact wpAny_pure h

theorem IsU.tuple {h : Heap} {v : Value} {u : Nat × List Nat} (x : IsU h v u) : ∃ a t1 t2, v = .ref a ∧ h.IsTuple a #[.int u.1 t1, .str (T u.2) t2] :=
  let ⟨a, t1, t2, e, ho⟩ := x; ⟨a, t1, t2, e, _, ho, rfl, _, rfl⟩

theorem Fr.out {h₀ h h' : Heap} {L C : Addr} {m : Str → Option Value} (fr : Fr h₀ L h m) (hL : L < C) (x : Out C h h') : Fr h₀ L h' m :=
  ⟨fr.ns.at' fun o e => x _ o (not_prv hL) e, fun b o e => x b o (not_prv (Nat.lt_of_lt_of_le (Heap.lt_size e) (Nat.le_trans fr.above (Nat.le_of_lt hL)))) (fr.keep b o e), fr.above⟩

/-- a for over the generator's pairs -/
theorem for_gen {R : Result → Shared → Prop} {env : Env} {base : Heap} {xi xv : Str} {pi pv pt : Pos} {k : Nat} {body : List Stmt} {a g : Nat} {C : Addr} {us : List (Nat × List Nat)} {J : Nat → (Str → Option Value) → Heap → Prop} {m : Str → Option Value} {d : Nat}
    (r : Rm A d) (hL : env.locals < C) (hxi : env.kindOf xi = some .local) (hxv : env.kindOf xv = some .local) (hk : env.scope.kind = .function) (G₀ : Gl w.params base)
    (gst : GSt prog w A a g C us 0 s) (fr : Fr base env.locals s.heap m) (j0 : J 0 m s.heap) (hCa : C < a)
    (hJ : ∀ j m h h', J j m h → (∀ b o, b < C → b ≠ env.locals → h.get? b = some o → h'.get? b = some o) → J j m h')
    (hturn : ∀ j u m s₁ t1 t2, us[j]? = some u → Fr base env.locals s₁.heap (put (put m xi (.int u.1 t1)) xv (.str (T u.2) t2)) → J j m s₁.heap → GenOnlyQ g s.gens s₁.gens → s₁.os = s.os →
      wpAny (model prog w) A (execs body env) (fun f s₂ => match f with
        | .next | .cont => (∀ b o, C ≤ b → s₁.heap.get? b = some o → s₂.heap.get? b = some o) ∧ s₂.gens = s₁.gens ∧ s₂.os = s₁.os ∧ ∃ m', Fr base env.locals s₂.heap m' ∧ J (j + 1) m' s₂.heap
        | .brk => False
        | .ret v => R (.ok (.ret v)) s₂) (fun _ _ => False) s₁)
    (hend : ∀ m s', Fr base env.locals s'.heap m → J us.length m s'.heap → GenOnlyQ g s.gens s'.gens → s'.os = s.os → R (.ok .next) s') :
    codeAny (model prog w) A (.forLoop (.Tuple [.Name xi pi, .Name xv pv] k pt) (.ref a) body [] env) R s := by
  refine codeAny_forLoop_any (fun n s' => ∃ j m, j ≤ us.length ∧ n = us.length - j ∧ GSt prog w A a g C us j s' ∧ Fr base env.locals s'.heap m ∧ J j m s'.heap ∧ GenOnlyQ g s.gens s'.gens ∧ s'.os = s.os) ?_ us.length
    ⟨0, m, Nat.zero_le _, rfl, gst, fr, j0, .inl rfl, rfl⟩
  rintro n s₁ ⟨j, m₁, hj, rfl, gst₁, fr₁, j₁, hg₁, ho₁⟩
  by_cases hlt : j < us.length
  · refine gen_item r gst₁ hlt fun v s₂ u hu hU gst₂ mv _ => ?_
    obtain ⟨ta, t1, t2, rfl, ht⟩ := hU.tuple
    refine letGo_gen gst₂.isg ?_
    have fr₂ := Fr.out fr₁ hL mv.out
    refine assign_pair r.hand ht fr₂.ns hxi hxv hk fun h₃ tk₃ hn₃ hk₃ => ?_
    have fr₃ : Fr base env.locals h₃ (put (put m₁ xi (.int u.1 t1)) xv (.str (T u.2) t2)) :=
      ⟨hn₃, fun b o e => hk₃ b o (Nat.ne_of_lt (Nat.lt_of_lt_of_le (Heap.lt_size e) fr₂.above)) (fr₂.keep b o e), fr₂.above⟩
    have j₃ : J j m₁ h₃ := hJ j m₁ _ _ j₁ fun b o hb hbL e => hk₃ b o hbL (mv.out b o (not_prv hb) e)
    have hg₃ : GenOnlyQ g s.gens s₂.gens := hg₁.trans mv.gens
    have ho₃ : s₂.os = s.os := mv.os.trans ho₁
    refine wpAny_mono (hturn j u m₁ { s₂ with heap := h₃, toks := tk₃ } t1 t2 hu fr₃ j₃ hg₃ ho₃) (fun f s₄ h₄ => ?_) fun _ _ x => x.elim
    have key : (∀ b o, C ≤ b → h₃.get? b = some o → s₄.heap.get? b = some o) ∧ s₄.gens = s₂.gens ∧ s₄.os = s₂.os ∧ (∃ m', Fr base env.locals s₄.heap m' ∧ J (j + 1) m' s₄.heap) →
        ∃ n', n' < us.length - j ∧ ∃ j' m', j' ≤ us.length ∧ n' = us.length - j' ∧ GSt prog w A a g C us j' s₄ ∧ Fr base env.locals s₄.heap m' ∧ J j' m' s₄.heap ∧ GenOnlyQ g s.gens s₄.gens ∧ s₄.os = s.os := by
      rintro ⟨k4, g4, o4, m', fr4, j4⟩
      refine ⟨us.length - (j + 1), by omega, j + 1, m', hlt, rfl, ?_, fr4, j4, g4 ▸ hg₃, o4.trans ho₃⟩
      refine gst₂.frame (G₀.keeps fr4.keep) ?_ ?_ (by rw [g4])
      · intro b o hb e
        have hCb : C ≤ b := by rcases hb with rfl | hb; exact Nat.le_refl _; exact Nat.le_of_lt hb.1
        exact k4 b o hCb (hk₃ b o (Nat.ne_of_gt (Nat.lt_of_lt_of_le hL hCb)) e)
      · intro o e
        exact k4 a o (Nat.le_of_lt hCa) (hk₃ a o (Nat.ne_of_gt (Nat.lt_trans hL hCa)) e)
    cases f with
    | next => exact key h₄
    | cont => exact key h₄
    | brk => exact h₄.elim
    | ret v => exact h₄
  · have hjl : j = us.length := by omega
    subst hjl
    refine gen_done r gst₁ fun s₂ mv G₂ => wpAny_execs_nil ?_
    exact hend m₁ s₂ (Fr.out fr₁ hL mv.out) (hJ _ _ _ _ j₁ fun b o hb _ e => mv.out b o (not_prv hb) e) (hg₁.trans mv.gens) (mv.os.trans ho₁)
end
end
end Mine

namespace Mine
section
open PySem
set_option autoImplicit false
theorem iterE_pos : ∀ (l : List Nat) (p : Nat) (esc : Bool), (esc = true → 1 ≤ p) → (iterE p esc l).Pairwise (fun a b => a.1 < b.1) ∧ ∀ u ∈ iterE p esc l, p ≤ u.1 + (if esc then 1 else 0) ∧ u.1 < p + l.length
  | [], p, true, h => by
    have := h rfl
    refine ⟨by simp [iterE], ?_⟩
    intro u hu
    simp [iterE] at hu
    subst hu
    simp; omega
  | [], p, false, _ => by simp [iterE]
  | c :: r, p, true, _ => by
    have ih := iterE_pos r (p + 1) false (by simp)
    refine ⟨List.pairwise_cons.mpr ⟨fun u hu => ?_, ih.1⟩, fun u hu => ?_⟩
    · have := ih.2 u hu; simp at this; show p < u.1; omega
    · rcases List.mem_cons.mp hu with rfl | hu
      · simp
      · have := ih.2 u hu; simp at this ⊢; omega
  | c :: r, p, false, _ => by
    unfold iterE
    split
    · have ih := iterE_pos r (p + 1) true (by simp)
      refine ⟨ih.1, fun u hu => ?_⟩
      have := ih.2 u hu; simp at this ⊢; omega
    · have ih := iterE_pos r (p + 1) false (by simp)
      refine ⟨List.pairwise_cons.mpr ⟨fun u hu => ?_, ih.1⟩, fun u hu => ?_⟩
      · have := ih.2 u hu; simp at this; show p < u.1; omega
      · rcases List.mem_cons.mp hu with rfl | hu
        · simp
        · have := ih.2 u hu; simp at this ⊢; omega

theorem iterE_len : ∀ (l : List Nat) (p : Nat) (esc : Bool), (iterE p esc l).length ≤ l.length + (if esc then 1 else 0)
  | [], p, true => by simp [iterE]
  | [], p, false => by simp [iterE]
  | c :: r, p, true => by have := iterE_len r (p + 1) false; simp [iterE] at this ⊢; omega
  | c :: r, p, false => by
    unfold iterE
    split
    · have := iterE_len r (p + 1) true; simp at this ⊢; omega
    · have := iterE_len r (p + 1) false; simp at this ⊢; omega

/-- one turn of _strip_quoted_realnames -/
def stripStep (l : List Nat) (q : Nat × Option Nat × List (List Nat)) (u : Nat × List Nat) : Nat × Option Nat × List (List Nat) :=
  if u.2 = [34] then match q.2.1 with
    | none => (q.1, some u.1, q.2.2)
    | some o => (u.1 + 1, none, if q.1 = o then q.2.2 else q.2.2 ++ [(l.drop q.1).take (o - q.1)])
  else q
def stripAll (l : List Nat) (us : List (Nat × List Nat)) : Nat × Option Nat × List (List Nat) := us.foldl (stripStep l) (0, none, [])
def stripFin (l : List Nat) (q : Nat × Option Nat × List (List Nat)) : List (List Nat) := if q.1 < l.length then q.2.2 ++ [l.drop q.1] else q.2.2
def stripP (l : List Nat) : List Nat := if 34 ∈ l then (stripFin l (stripAll l (iterE 0 false l))).flatten else l

structure SOk (l : List Nat) (N : Nat) (q : Nat × Option Nat × List (List Nat)) (rest : List (Nat × List Nat)) : Prop where
  st : q.1 ≤ l.length
  op : ∀ o, q.2.1 = some o → q.1 ≤ o ∧ o < l.length
  ge : ∀ u ∈ rest, q.1 ≤ u.1
  each : ∀ x ∈ q.2.2, x.length ≤ l.length
  num : q.2.2.length + rest.length ≤ N

theorem SOk.step {l : List Nat} {N : Nat} {q : Nat × Option Nat × List (List Nat)} {u : Nat × List Nat} {rest : List (Nat × List Nat)} (x : SOk l N q (u :: rest)) (hp : ∀ v ∈ rest, u.1 < v.1) (hl : u.1 < l.length) : SOk l N (stripStep l q u) rest := by
  obtain ⟨st, op, res⟩ := q
  obtain ⟨h1, h2, h3, h4, h5⟩ := x
  simp only at h1 h2 h3 h4 h5
  unfold stripStep
  split
  · cases op with
    | none =>
      refine ⟨h1, fun o ho => ?_, fun v hv => h3 v (List.mem_cons_of_mem _ hv), h4, ?_⟩
      · cases ho; exact ⟨h3 u (List.mem_cons_self ..), hl⟩
      · simp at h5 ⊢; omega
    | some o =>
      refine ⟨?_, (fun o ho => by cases ho), fun v hv => hp v hv, ?_, ?_⟩
      · show u.1 + 1 ≤ l.length; omega
      · intro y hy
        simp only at hy
        split at hy
        · exact h4 y hy
        · rcases List.mem_append.mp hy with hy | hy
          · exact h4 y hy
          · rw [List.mem_singleton.mp hy, List.length_take, List.length_drop]; omega
      · simp only
        split
        · simp at h5 ⊢; omega
        · simp at h5 ⊢; omega
  · refine ⟨h1, h2, fun v hv => h3 v (List.mem_cons_of_mem _ hv), h4, ?_⟩
    simp at h5 ⊢; omega

theorem strip_ok {l : List Nat} {N : Nat} : ∀ (us : List (Nat × List Nat)) (q : Nat × Option Nat × List (List Nat)), us.Pairwise (fun a b => a.1 < b.1) → (∀ u ∈ us, u.1 < l.length) → SOk l N q us → ∀ j, SOk l N ((us.take j).foldl (stripStep l) q) (us.drop j)
  | us, q, _, _, x, 0 => by simpa using x
  | [], q, _, _, x, j + 1 => by simpa using x
  | u :: us, q, hp, hl, x, j + 1 => by
    obtain ⟨hp1, hp2⟩ := List.pairwise_cons.mp hp
    simpa using strip_ok us _ hp2 (fun v hv => hl v (List.mem_cons_of_mem _ hv)) (x.step hp1 (hl u (List.mem_cons_self ..))) j

theorem strip_at (l : List Nat) (j : Nat) : SOk l l.length (((iterE 0 false l).take j).foldl (stripStep l) (0, none, [])) ((iterE 0 false l).drop j) := by
  have hp := iterE_pos l 0 false (by simp)
  have hl := iterE_len l 0 false
  refine strip_ok _ _ hp.1 (fun u hu => ?_) ⟨by simp, by simp, by simp, by simp, ?_⟩ j
  · have := hp.2 u hu; simp at this; exact this
  · simp at hl ⊢; exact hl

/-- _check_parenthesis over the signs -/
def balF : Int → List (List Nat) → Bool
  | n, [] => n == 0
  | n, c :: r => if c = [40] then balF (n + 1) r else if c = [41] then (if n - 1 < 0 then false else balF (n - 1) r) else balF n r
end
end Mine

namespace Mine
section
open PySem PySem.W PyProof.Rows PySem.Builtin PySem.Builtin.Str
set_option autoImplicit false
/-- but for the heap and the tokens as it was -/
structure Sm (s s' : Shared) : Prop where
  gens : s'.gens = s.gens
  os : s'.os = s.os
theorem Sm.refl (s : Shared) : Sm s s := ⟨rfl, rfl⟩
theorem Sm.trans {s s' s'' : Shared} (a : Sm s s') (b : Sm s' s'') : Sm s s'' := ⟨b.gens.trans a.gens, b.os.trans a.os⟩
theorem Sm.upd {s s' : Shared} {h : Heap} {k : Nat} (a : Sm s s') : Sm s { s' with heap := h, toks := k } := ⟨a.gens, a.os⟩
theorem Sm.ok {s s' : Shared} (a : Sm s s') (hk : ∀ b o, s.heap.get? b = some o → s'.heap.get? b = some o) : Ok s s' := ⟨hk, a.os, fun h => a.gens ▸ h, fun _ _ e => by rw [a.gens]; exact e⟩

section
variable {prog : Program} {w : World} {A : Around} {E : Value → Shared → Prop} {s : Shared} {env : Env} {h₀ : Heap} {m : Str → Option Value}

theorem stF {M : Model} {x : Str} {v : Value} {Q : Unit → Shared → Prop} (fr : Fr h₀ env.locals s.heap m) (hk : env.scope.kind = .function) (hl : env.kindOf x = some .local)
    (h : ∀ h', Fr h₀ env.locals h' (put m x v) → Heap.SameBut env.locals s.heap h' → Q () { s with heap := h', toks := s.toks + 1 }) : wpAny M A (storeName env x v) Q E s :=
  wpAny_storeName_local hl fr.ns (fun h' hn hs => h h' (fr.set hn hs) hs) (by rw [hk]; rfl)

theorem asg {M : Model} {x : Str} {e : Expr} {p1 p2 : Pos} {Q : Flow → Shared → Prop} (hk : env.scope.kind = .function) (hl : env.kindOf x = some .local)
    (h : wpAny M A (eval e env) (fun v s₁ => ∃ m, Fr h₀ env.locals s₁.heap m ∧ ∀ s', Fr h₀ env.locals s'.heap (put m x v) → Heap.SameBut env.locals s₁.heap s'.heap → Sm s₁ s' → Q .next s') E s)
    (hs : swapsWith e (some (.Name x p1)) p2.line env = pure false := by rfl) : wpAny M A (exec (.Assign [.Name x p1] e p2) env) Q E s :=
  wpAny_Assign_Name (wpAny_mono h (fun _ _ ⟨_, fr, hq⟩ => stF fr hk hl fun _ fr' hs' => hq _ fr' hs' ⟨rfl, rfl⟩) fun _ _ x => x) hs

/-- a def of the text entered -/
theorem enter {R : Result → Shared → Prop} {name : Str} {params : Arguments} {body : List Stmt} {scope : Scope} {pm cd doc : Value} {a : Addr} {o : Obj} {args : List Value}
    (hroom : A.depth < recursionLimit) (ho : s.heap.get? a = some o) (hdata : o.data = .func (Calls.docDef name params body scope pm cd doc)) (hlim : s.heap.NoLimit) (hcd : s.heap.CodeRec cd name)
    (hbind : bindArgs (Calls.docDef name params body scope pm cd doc) ⟨args, []⟩ = pure ((params.args.map (·.arg)).zip args))
    (hloc : ∀ x ∈ (params.args.map (·.arg)).zip args, scope.names.lookup x.1 = some .local)
    (h : ∀ s₁, Fr s.heap s.heap.objs.size s₁.heap (fun x => ((params.args.map (·.arg)).zip args).reverse.lookup x) → Sm s s₁ →
      wpAny (model prog w) (A.deeper (envOf name scope s.heap.objs.size a cd)) (execs body (envOf name scope s.heap.objs.size a cd))
        (fun f s' => R (.ok (.ret (match f with | .ret v => v | _ => .none))) s') (fun _ _ => False) s₁)
    (hco : scope.isCoroutine = false := by rfl) (hgen : scope.isGenerator = false := by rfl) (hk : scope.kind = .function := by rfl)
    (hcell : ∀ x ∈ scope.names, x.2 ≠ .cell := by decide) :
    codeAny (model prog w) A (.call (.ref a) ⟨args, []⟩) R s :=
  call_pos_ret hroom ho hdata hlim hcd hbind hloc (fun _ fr => h _ fr ⟨rfl, rfl⟩) hco hgen hk hcell

theorem slice_law (l : List Nat) {i j : Nat} (hij : i ≤ j) (hj : j ≤ l.length) : Txt.slice (T l) (some (i : Int)) (some (j : Int)) = T ((l.drop i).take (j - i)) := by
  show StrLaws.sliceText (T l) _ _ = _
  rw [StrLaws.sliceText_nat (T l) hij (by rw [T_len]; exact hj)]; rfl
theorem slice_law_from (l : List Nat) {i : Nat} (hi : i ≤ l.length) : Txt.slice (T l) (some (i : Int)) none = T (l.drop i) := by
  show StrLaws.sliceText (T l) _ _ = _
  rw [StrLaws.sliceText_from ⟨by omega, by simp [T]; omega⟩]
  apply Str.ext'
  show (((T l).cps.toList.drop _).take _).toArray = (l.drop i).toArray
  rw [T_list, Int.toNat_natCast, List.take_of_length_le]
  rw [List.length_drop]; omega

/-- x[i:j] of a text -/
theorem sub_ss {na nb nc : Str} {l : List Nat} {t ui uj : Tok} {i j : Nat} {p1 p2 p3 p4 p5 : Pos} {Q : Value → Shared → Prop} (hk : env.scope.kind = .function) (hn : s.heap.Ns env.locals m) (ha : m na = some (.str (T l) t)) (hb : m nb = some (.int i ui)) (hc : m nc = some (.int j uj))
    (hij : i ≤ j) (hj : j ≤ l.length) (hl : l.length ≤ 100000) (h : ∀ h' t' k, (∀ b o, s.heap.get? b = some o → h'.get? b = some o) → Q (.str (T ((l.drop i).take (j - i))) t') { s with heap := h', toks := k })
    (hla : env.kindOf na = some .local) (hlb : env.kindOf nb = some .local) (hlc : env.kindOf nc = some .local)
    (hda : (na == ("__debug__" : Str)) = false) (hdb : (nb == ("__debug__" : Str)) = false) (hdc : (nc == ("__debug__" : Str)) = false) :
    wpAny (model prog w) A (eval (.Subscript (.Name na p1) (.Slice (some (.Name nb p2)) (some (.Name nc p3)) none p4) p5) env) Q E s := by
  refine Subscript_Slice (ldN hn ha (wpAny_Slice ?_) hk hla hda) (by intro _ _; rfl)
  refine evalPart_some_step (ldN hn hb (evalPart_some_step (ldN hn hc (evalPart_none_step ?_) hk hlc hdc)) hk hlb hdb)
  refine SBH.sliceItem_ss (P := fun h' => ∀ b o, s.heap.get? b = some o → h'.get? b = some o) (s := s) (fun h ob hp b o e => Heap.get?_push_of_some _ (hp b o e)) (fun _ _ e => e) (fun h' t' k hp => ?_) (by rw [T_len, sizeLine_eq]; omega)
  rw [slice_law l hij hj]
  exact h h' t' k hp

/-- x[i:] of a text -/
theorem sub_sn {na nb : Str} {l : List Nat} {t ui : Tok} {i : Nat} {p1 p2 p4 p5 : Pos} {Q : Value → Shared → Prop} (hk : env.scope.kind = .function) (hn : s.heap.Ns env.locals m) (ha : m na = some (.str (T l) t)) (hb : m nb = some (.int i ui))
    (hi : i ≤ l.length) (hl : l.length ≤ 100000) (h : ∀ h' t' k, (∀ b o, s.heap.get? b = some o → h'.get? b = some o) → Q (.str (T (l.drop i)) t') { s with heap := h', toks := k })
    (hla : env.kindOf na = some .local) (hlb : env.kindOf nb = some .local)
    (hda : (na == ("__debug__" : Str)) = false) (hdb : (nb == ("__debug__" : Str)) = false) :
    wpAny (model prog w) A (eval (.Subscript (.Name na p1) (.Slice (some (.Name nb p2)) none none p4) p5) env) Q E s := by
  refine Subscript_Slice (ldN hn ha (wpAny_Slice ?_) hk hla hda) (by intro _ _; rfl)
  refine evalPart_some_step (ldN hn hb (evalPart_none_step (evalPart_none_step ?_)) hk hlb hdb)
  refine SBH.sliceItem_sn (P := fun h' => ∀ b o, s.heap.get? b = some o → h'.get? b = some o) (s := s) (fun h ob hp b o e => Heap.get?_push_of_some _ (hp b o e)) (fun _ _ e => e) (fun h' t' k hp => ?_) (by rw [T_len, sizeLine_eq]; omega)
  rw [slice_law_from l hi]
  exact h h' t' k hp

theorem Fr.kept {h h' : Heap} {L : Addr} (fr : Fr h₀ L h m) (hk : ∀ b o, h.get? b = some o → h'.get? b = some o) : Fr h₀ L h' m := ⟨fr.ns.keeps hk, fun b o e => hk b o (fr.keep b o e), fr.above⟩
/-- an object of the call's own turns -/
theorem Fr.other {h h' : Heap} {L D : Addr} (fr : Fr h₀ L h m) (hs : Heap.SameBut D h h') (hD : D ≠ L) (h0 : h₀.get? D = none) : Fr h₀ L h' m :=
  ⟨fr.ns.sameBut hs (Ne.symm hD), fun b o e => (hs.2 b fun q => by rw [q, h0] at e; cases e).trans (fr.keep b o e), fr.above⟩
theorem Fr.fresh {h : Heap} {L D : Addr} (fr : Fr h₀ L h m) (hD : L < D) : h₀.get? D = none := Heap.get?_none_of_le (Nat.le_trans fr.above (Nat.le_of_lt hD))

theorem fn_at {P : Params} {f : Addr} (hf : fnIn (KP P) f = true) : ∃ o fd, (KP P).lookup f = some o ∧ o.data = .func fd := by
  unfold fnIn at hf
  split at hf
  · rename_i q; exact ⟨_, _, q, rfl⟩
  · cases hf

/-- a call of a def of the text by its name, one argument -/
theorem callG1 {P : Params} {M : Model} {x : Str} (f : Addr) {e₁ : Expr} {p1 p2 : Pos} {Q : Value → Shared → Prop} (G : Gl P s.heap) (hx : nsIn (KP P) mainGlobals x = some (some (.ref f))) (hf : fnIn (KP P) f = true)
    (hk : env.scope.kind = .function) (hxk : env.kindOf x = some .globalImplicit) (hg : env.globals = mainGlobals) (hst : starEach [e₁] env = [(false, eval e₁ env)]) (hd : (x == ("__debug__" : Str)) = false)
    (h : wpAny M A (eval e₁ env) (fun v s₁ => Gl P s₁.heap ∧ wpAny M A (call (.ref f) [v]) Q E s₁) E s) : wpAny M A (eval (.Call (.Name x p1) [e₁] [] p2) env) Q E s := by
  obtain ⟨o, fd, ho, hd'⟩ := fn_at hf
  refine Call_name1 hst (nm_glob (P := P) G hx (Calls.callWith_function (o := o) (fd := fd) (Calls.evalArgs_plain (Calls.spliced_cons (wpAny_mono h (fun v s₁ h₁ => Calls.spliced_nil ?_) fun _ _ e => e)))) hk hxk hg hd)
  exact ⟨⟨h₁.1.K _ _ ho, hd'⟩, h₁.2⟩
theorem callG2 {P : Params} {M : Model} {x : Str} (f : Addr) {e₁ e₂ : Expr} {p1 p2 : Pos} {Q : Value → Shared → Prop} (G : Gl P s.heap) (hx : nsIn (KP P) mainGlobals x = some (some (.ref f))) (hf : fnIn (KP P) f = true)
    (hk : env.scope.kind = .function) (hxk : env.kindOf x = some .globalImplicit) (hg : env.globals = mainGlobals) (hst : starEach [e₁, e₂] env = [(false, eval e₁ env), (false, eval e₂ env)]) (hd : (x == ("__debug__" : Str)) = false)
    (h : wpAny M A (eval e₁ env) (fun v s₁ => wpAny M A (eval e₂ env) (fun u s₂ => Gl P s₂.heap ∧ wpAny M A (call (.ref f) [v, u]) Q E s₂) E s₁) E s) : wpAny M A (eval (.Call (.Name x p1) [e₁, e₂] [] p2) env) Q E s := by
  obtain ⟨o, fd, ho, hd'⟩ := fn_at hf
  show wpAny M A (do callWith p2 (← eval (.Name x p1) env) [] (backTo p2 (starEach [e₁, e₂] env)) (backToKw p2 (keywordEach [] env))) Q E s
  rw [hst]
  refine wpAny_bind (nm_glob (P := P) G hx (Calls.callWith_function (o := o) (fd := fd) (Calls.evalArgs_plain (Calls.spliced_cons (wpAny_mono h (fun v s₁ h₁ => Calls.spliced_cons (wpAny_mono h₁ (fun u s₂ h₂ => Calls.spliced_nil ?_) fun _ _ e => e)) fun _ _ e => e)))) hk hxk hg hd)
  exact ⟨⟨h₂.1.K _ _ ho, hd'⟩, h₂.2⟩
/-- a call of a built-in by its name, one argument -/
theorem callB1 {P : Params} {M : Model} {x : Str} (id : String) {e₁ : Expr} {p1 p2 : Pos} {Q : Value → Shared → Prop} (G : Gl P s.heap) (hx : nsIn (KP P) mainGlobals x = some none) (hv : bootBuiltins x = some (.builtin id)) (hn : x ≠ "__name__")
    (hk : env.scope.kind = .function) (hxk : env.kindOf x = some .globalImplicit) (hg : env.globals = mainGlobals) (hb : env.builtins = builtinsNs) (hst : starEach [e₁] env = [(false, eval e₁ env)]) (hd : (x == ("__debug__" : Str)) = false)
    (h : wpAny M A (eval e₁ env) (fun v s₁ => wpAny M A (call (.builtin id) [v]) Q E s₁) E s) : wpAny M A (eval (.Call (.Name x p1) [e₁] [] p2) env) Q E s :=
  Call_name1 hst (nm_blt (P := P) G hx hv hn (callWith_builtin1 h) hk hxk hg hb hd)
theorem callT1 {P : Params} {M : Model} {x : Str} (T : String) {e₁ : Expr} {p1 p2 : Pos} {Q : Value → Shared → Prop} (G : Gl P s.heap) (hx : nsIn (KP P) mainGlobals x = some none) (hv : bootBuiltins x = some (.type T)) (hn : x ≠ "__name__")
    (hk : env.scope.kind = .function) (hxk : env.kindOf x = some .globalImplicit) (hg : env.globals = mainGlobals) (hb : env.builtins = builtinsNs) (hst : starEach [e₁] env = [(false, eval e₁ env)]) (hd : (x == ("__debug__" : Str)) = false)
    (h : wpAny M A (eval e₁ env) (fun v s₁ => wpAny M A (call (.type T) [v]) Q E s₁) E s) : wpAny M A (eval (.Call (.Name x p1) [e₁] [] p2) env) Q E s :=
  Call_name1 hst (nm_blt (P := P) G hx hv hn (callWith_type1 h) hk hxk hg hb hd)
end
end
end Mine

namespace Mine
section
open PySem PySem.W PyProof.Rows PySem.Builtin PySem.Builtin.Str
set_option autoImplicit false
def OpV (m : Str → Option Value) : Option Nat → Prop
  | none => m "open_pos" = some .none
  | some o => ∃ tk, m "open_pos" = some (.int (o : Int) tk)

structure SV (l : List Nat) (q : Nat × Option Nat × List (List Nat)) (D L C : Addr) (m : Str → Option Value) (h : Heap) : Prop where
  addr : ∃ t, m "addr" = some (.str (T l) t)
  start : ∃ tk, m "start" = some (.int (q.1 : Int) tk)
  opn : OpV m q.2.1
  res : m "result" = some (.ref D)
  dc : D < C
  ld : L < D
  lst : ∃ ts, PlainL h D (strValues ts).toArray ∧ ts.map (·.1) = q.2.2.map T

theorem OpV.put {m : Str → Option Value} {x : Str} {v : Value} (hx : (Str.ofString "open_pos" == x) = false) : ∀ {op : Option Nat}, OpV m op → OpV (put m x v) op
  | none, h => put_of hx h
  | some _, ⟨tk, h⟩ => ⟨tk, put_of hx h⟩

theorem SV.put2 {l : List Nat} {q : Nat × Option Nat × List (List Nat)} {D L C : Addr} {m : Str → Option Value} {h : Heap} {v u : Value} (x : SV l q D L C m h) : SV l q D L C (put (put m "pos" v) "ch" u) h where
  addr := let ⟨t, e⟩ := x.addr; ⟨t, put_of (by decide +kernel) (put_of (by decide +kernel) e)⟩
  start := let ⟨t, e⟩ := x.start; ⟨t, put_of (by decide +kernel) (put_of (by decide +kernel) e)⟩
  opn := (x.opn.put (by decide +kernel)).put (by decide +kernel)
  res := put_of (by decide +kernel) (put_of (by decide +kernel) x.res)
  dc := x.dc
  ld := x.ld
  lst := x.lst

theorem SV.heap {l : List Nat} {q : Nat × Option Nat × List (List Nat)} {D L C : Addr} {m : Str → Option Value} {h h' : Heap} (x : SV l q D L C m h) (hk : ∀ o, h.get? D = some o → h'.get? D = some o) : SV l q D L C m h' :=
  { x with lst := let ⟨ts, ⟨o, n, ho, r⟩, e⟩ := x.lst; ⟨ts, ⟨o, n, hk o ho, r⟩, e⟩ }

theorem quote_eq (c : List Nat) : ((T c).cps.toList == (Str.ofString "\"").cps.toList) = decide (c = [34]) := by
  rw [show (Str.ofString "\"" : Str) = T [34] by decide +kernel]
  by_cases h : c = [34] <;> simp [T, h]

theorem Ok.gen {s s₁ s' : Shared} {g : Nat} (x : Ok s s₁) (hg : g = s.gens.size) (hq : GenOnlyQ g s₁.gens s'.gens) (ho : s'.os = s₁.os) (hk : ∀ b o, s.heap.get? b = some o → s'.heap.get? b = some o) : Ok s s' where
  keep := hk
  os := ho.trans x.os
  bare := fun h => hq.bare (x.bare h)
  gens := fun i y e => by
    have h1 := x.gens i y e
    have hi : i < s.gens.size := (Array.getElem?_eq_some_iff.mp e).1
    rcases hq with h | ⟨⟨_, h⟩, _⟩
    · rw [h]; exact h1
    · rw [h i (by omega)]; exact h1

section
variable {prog : Program} {w : World} {A : Around} {E : Value → Shared → Prop} {s : Shared} {env : Env} {base : Heap}

/-- an append to a list of the call's own -/
theorem app1 {D : Addr} {its : Array Value} {nr : Str} {e : Expr} {m : Str → Option Value} {p1 p2 p3 p4 : Pos} {Q : Flow → Shared → Prop} (hk : env.scope.kind = .function) (fr : Fr base env.locals s.heap m) (hr : m nr = some (.ref D)) (hD : PlainL s.heap D its) (hLD : env.locals < D) (hl : env.kindOf nr = some .local)
    (he : ∀ E, wpAny (model prog w) A (eval e env) (fun y s₁ => (∀ b o, s.heap.get? b = some o → s₁.heap.get? b = some o) ∧ its.size ≤ sizeLine ∧ ∀ s', PlainL s'.heap D (its.push y) → Heap.SameBut D s₁.heap s'.heap → Fr base env.locals s'.heap m → Sm s₁ s' → Q .next s') E s)
    (hst : starEach [e] env = [(false, eval e env)]) (hline : (p2.endLine == p3.line) = true) (hi : interactive env = false) (hs : swapsWith (.Call (.Attribute (.Name nr p1) "append" p2) [e] [] p3) none p4.line env = pure false)
    (hd : (nr == ("__debug__" : Str)) = false) :
    wpAny (model prog w) A (exec (.Expr (.Call (.Attribute (.Name nr p1) "append" p2) [e] [] p3) p4) env) Q E s := by
  refine wpAny_Expr (wpAny_Call_append rfl (by rw [hst]; rfl) hline (by rw [hst]; rfl) (ldN fr.ns hr ⟨D, its, rfl, hD, ?_⟩ hk hl hd)) hi hs
  refine wpAny_mono (he _) (fun y s₁ h₁ => ?_) fun _ _ x => x
  obtain ⟨hkp, hsz, hq⟩ := h₁
  refine list_append_plainL (hD.keeps hkp) (fun h' hD' hs' => ?_) hsz
  exact hq _ hD' hs' (Fr.other (Fr.kept fr hkp) hs' (Nat.ne_of_gt hLD) (Fr.fresh fr hLD)) ⟨rfl, rfl⟩

end
theorem join_T : ∀ xs : List (List Nat), Txt.join (Str.ofString "") (xs.map T) = T xs.flatten := by
  intro xs
  show glued (Str.ofString "") (xs.map T) = _
  rw [show (Str.ofString "" : Str) = T [] by decide +kernel, StrLaws.glued_eq_join]
  induction xs with
  | nil => rfl
  | cons x r ih =>
    cases r with
    | nil => simp [Str.join]
    | cons y r =>
      show T x ++ T [] ++ Str.join (T []) ((y :: r).map T) = _
      rw [ih, T_append, T_append]
      simp
theorem joinOk_T {xs : List (List Nat)} {N B : Nat} (hN : xs.length ≤ N) (hB : ∀ x ∈ xs, x.length ≤ B) (h : N * B ≤ 16777216) : JoinOk (Str.ofString "") (xs.map T) = true := by
  unfold JoinOk
  rw [Bool.not_eq_true']
  refine StrLaws.joinFits (B := B) ?_ ?_
  · intro y hy
    obtain ⟨x, hx, rfl⟩ := List.mem_map.mp hy
    rw [T_len]; exact hB x hx
  · rw [show (Str.ofString "" : Str).length = 0 by decide +kernel, List.length_map]
    have : xs.length * B ≤ N * B := Nat.mul_le_mul_right _ hN
    omega
theorem boot_len : bootBuiltins "len" = some (.builtin "len") := by decide +kernel

section
variable {prog : Program} {w : World} {A : Around} {s : Shared} {R : Result → Shared → Prop}
set_option maxRecDepth 100000
set_option maxHeartbeats 2000000 in
theorem strip_spec {l : List Nat} {t : Tok} (G : Gl w.params s.heap) (r : Rm A 5) (hl : l.length ≤ 2000)
    (hR : ∀ t' s', Ok s s' → R (.ok (.ret (.str (T (stripP l)) t'))) s') : codeAny (model prog w) A (.call (.ref 28) ⟨[.str (T l) t], []⟩) R s := by
  refine enter r.room (G.K 28 _ rfl) rfl G.nolimit (codeRec_of G.K (by kernel_rfl)) rfl (locs (by kernel_rfl)) (fun s₁ fr sm₁ => ?_)
  have r' : ∀ env, Rm (A.deeper env) 4 := fun env => Rm.deeper r
  obtain ⟨m₁, hm₁, fr⟩ : ∃ m₁, m₁ "addr" = some (.str (T l) t) ∧ Fr s.heap s.heap.objs.size s₁.heap m₁ := ⟨_, rfl, fr⟩
  refine wpAny_execs_cons (wpAny_If (wpAny_isTrue_Compare1 (wpAny_Constant_str (ldN fr.ns hm₁ (SB.notContains (wpAny_truthy_bool ?_)) (by kernel_rfl) (by kernel_rfl))) rfl))
  have hc : Txt.contains (T l) (Str.ofString "\"") = decide (34 ∈ l) := by
    rw [show (Str.ofString "\"" : Str) = ⟨#[34]⟩ by decide +kernel]; exact contains_one l 34
  rw [hc]
  by_cases h34 : 34 ∈ l
  · rw [decide_eq_true h34, if_neg (by decide)]
    refine wpAny_execs_nil ?_
    have hst : (stripP l) = (stripFin l (stripAll l (iterE 0 false l))).flatten := if_pos h34
    rw [hst] at hR
    clear hst
    refine wpAny_execs_cons (asg (h₀ := s.heap) (by kernel_rfl) (by kernel_rfl) (wpAny_Constant_int ⟨_, fr, fun s₂ fr₂ hs₂ sm₂ => ?_⟩))
    refine wpAny_execs_cons (asg (h₀ := s.heap) (by kernel_rfl) (by kernel_rfl) (wpAny_Constant_none ⟨_, fr₂, fun s₃ fr₃ hs₃ sm₃ => ?_⟩))
    refine wpAny_execs_cons (asg (h₀ := s.heap) (by kernel_rfl) (by kernel_rfl) (wpAny_List (wpAny_items_nil ⟨by decide, _, Fr.push fr₃ _, fun s₄ fr₄ hs₄ sm₄ => ?_⟩)))
    have sm : Sm s s₄ := ⟨sm₄.gens.trans (sm₃.gens.trans (sm₂.gens.trans sm₁.gens)), sm₄.os.trans (sm₃.os.trans (sm₂.os.trans sm₁.os))⟩
    have hL₃ : s.heap.objs.size < s₃.heap.objs.size := fr₃.ns.lt
    obtain ⟨m₄, sv₄, fr₄⟩ : ∃ m₄, (∀ C, s₃.heap.objs.size < C → SV l (0, none, []) s₃.heap.objs.size s.heap.objs.size C m₄ s₄.heap) ∧ Fr s.heap s.heap.objs.size s₄.heap m₄ := by
      refine ⟨_, fun C hC => ?_, fr₄⟩
      exact {
        addr := ⟨t, put_of (by decide +kernel) (put_of (by decide +kernel) (put_of (by decide +kernel) hm₁))⟩
        start := ⟨_, put_of (by decide +kernel) (put_of (by decide +kernel) put_eq)⟩
        opn := put_of (by decide +kernel) put_eq
        res := put_eq
        dc := hC
        ld := hL₃
        lst := ⟨[], ⟨_, _, (hs₄.2 _ (Nat.ne_of_gt hL₃)).trans (Heap.get?_push_size _ rfl), rfl, rfl, rfl⟩, rfl⟩ }
    have G₄ : Gl w.params s₄.heap := G.keeps fr₄.keep
    have hz₄ : s₄.heap.objs.size = s₃.heap.objs.size + 1 := hs₄.1.trans (Heap.size_push ..)
    obtain ⟨t₄, ha₄⟩ := (sv₄ _ (Nat.lt_succ_self _)).addr
    refine wpAny_execs_cons (wpAny_For (callG1 (P := w.params) 21 G₄ (by kernel_rfl) (by kernel_rfl) (by kernel_rfl) (by kernel_rfl) (by kernel_rfl) rfl (by decide +kernel) (ldN fr₄.ns ha₄ ⟨G₄, ?_⟩ (by kernel_rfl) (by kernel_rfl))) (by intro _; rfl))
    refine wpAny_call (iter_spec (l := l) G₄ ((r' _).less (by omega)) fun a g C s₅ hC hCa hg ok₅ gst => wpAny_pyIter_gen (gst _ r.hand).isg ?_)
    have hDC : s₃.heap.objs.size < C := by omega
    refine for_gen (r' _) (J := fun j m h => SV l (((iterE 0 false l).take j).foldl (stripStep l) (0, none, [])) s₃.heap.objs.size s.heap.objs.size C m h) (m := m₄) (Nat.lt_trans hL₃ hDC) (by kernel_rfl) (by kernel_rfl) (by kernel_rfl) G (gst _ r.hand) (Fr.kept fr₄ ok₅.keep)
      ((sv₄ C hDC).heap fun o e => ok₅.keep _ o e) hCa (fun j m h h' x hk => x.heap fun o e => hk _ o x.dc (Nat.ne_of_gt x.ld) e) ?_ ?_
    · intro j u m s₁ t1 t2 hu fr sv hgq hos
      have hnext : ((iterE 0 false l).take (j + 1)).foldl (stripStep l) (0, none, []) = stripStep l (((iterE 0 false l).take j).foldl (stripStep l) (0, none, [])) u := by
        rw [List.take_add_one, hu, List.foldl_append]; rfl
      rw [hnext]
      have bd := strip_at l j
      generalize ((iterE 0 false l).take j).foldl (stripStep l) (0, none, []) = q at sv bd
      obtain ⟨st, op, res⟩ := q
      have hLD : s.heap.objs.size < s₃.heap.objs.size := hL₃
      have sv' := sv.put2 (v := .int u.1 t1) (u := .str (T u.2) t2)
      have mP : put (put m "pos" (.int u.1 t1)) "ch" (.str (T u.2) t2) "pos" = some (.int u.1 t1) := put_of (by decide +kernel) put_eq
      have mC : put (put m "pos" (.int u.1 t1)) "ch" (.str (T u.2) t2) "ch" = some (.str (T u.2) t2) := put_eq
      generalize put (put m "pos" (.int u.1 t1)) "ch" (.str (T u.2) t2) = m₅ at fr sv' mP mC
      refine wpAny_execs_cons (wpAny_If (wpAny_isTrue_Compare1 (ldN fr.ns mC (wpAny_Constant_str (P.eq_str (wpAny_truthy_bool ?_))) (by kernel_rfl) (by kernel_rfl)) rfl))
      rw [quote_eq]
      unfold stripStep
      by_cases hq : u.2 = [34]
      · rw [if_pos (decide_eq_true hq), if_pos hq]
        cases op with
        | none =>
          refine wpAny_execs_cons (wpAny_If (wpAny_isTrue_Compare1 (ldN fr.ns sv'.opn (wpAny_Constant_none (is_none (wpAny_truthy_bool ?_))) (by kernel_rfl) (by kernel_rfl)) rfl))
          rw [if_pos (by rfl)]
          refine wpAny_execs_cons (asg (h₀ := s.heap) (by kernel_rfl) (by kernel_rfl) (ldN fr.ns mP ⟨_, fr, fun s₆ fr₆ hs₆ sm₆ => wpAny_execs_nil (wpAny_execs_nil (wpAny_execs_nil ?_))⟩ (by kernel_rfl) (by kernel_rfl)))
          refine ⟨fun b o hb e => (hs₆.2 b (Nat.ne_of_gt (Nat.lt_of_lt_of_le (Nat.lt_trans hLD hDC) hb))).trans e, sm₆.gens, sm₆.os, _, fr₆, ?_⟩
          refine SV.heap (h := s₁.heap) ?_ fun o e => (hs₆.2 _ (Nat.ne_of_gt hLD)).trans e
          exact {
            addr := let ⟨t, e⟩ := sv'.addr; ⟨t, put_of (by decide +kernel) e⟩
            start := let ⟨t, e⟩ := sv'.start; ⟨t, put_of (by decide +kernel) e⟩
            opn := ⟨_, put_eq⟩
            res := put_of (by decide +kernel) sv'.res
            dc := sv'.dc
            ld := sv'.ld
            lst := sv'.lst }
        | some o =>
          obtain ⟨tko, hop⟩ := sv'.opn
          obtain ⟨tks, hst⟩ := sv'.start
          obtain ⟨ta, had⟩ := sv'.addr
          obtain ⟨hb1, hb2⟩ := bd.op o rfl
          refine wpAny_execs_cons (wpAny_If (wpAny_isTrue_Compare1 (ldN fr.ns hop (wpAny_Constant_none (is_none (wpAny_truthy_bool ?_))) (by kernel_rfl) (by kernel_rfl)) rfl))
          rw [if_neg (by simp)]
          refine wpAny_execs_cons (wpAny_mono (Q := fun f s₇ => f = .next ∧ Fr s.heap s.heap.objs.size s₇.heap m₅ ∧ Sm s₁ s₇ ∧ (∀ b o, C ≤ b → s₁.heap.get? b = some o → s₇.heap.get? b = some o) ∧
              ∃ ts, PlainL s₇.heap s₃.heap.objs.size (strValues ts).toArray ∧ ts.map (·.1) = (if st = o then res else res ++ [(l.drop st).take (o - st)]).map T) (E := fun _ _ => False) ?_ (fun f s₇ h₇ => ?_) fun _ _ x => x)
          · refine wpAny_If (wpAny_isTrue_Compare1 (ldN fr.ns hst (ldN fr.ns hop (P.ne_int (wpAny_truthy_bool ?_)) (by kernel_rfl) (by kernel_rfl)) (by kernel_rfl) (by kernel_rfl)) rfl)
            by_cases hso : st = o
            · subst hso
              rw [if_neg (by simp)]
              have := sv'.lst
              exact wpAny_execs_nil ⟨rfl, fr, ⟨rfl, rfl⟩, fun _ _ _ e => e, by simpa using this⟩
            · rw [if_pos (by simpa using fun h => hso (by exact_mod_cast h))]
              obtain ⟨ts, hpl, hts⟩ := sv'.lst
              refine wpAny_execs_cons (app1 (by kernel_rfl) fr sv'.res hpl hLD (by kernel_rfl) (fun E => ?_) rfl rfl (by kernel_rfl) rfl (by decide +kernel))
              refine sub_ss (by kernel_rfl) fr.ns had hst hop hb1 (Nat.le_of_lt hb2) (by omega) (fun h' t' k hk' => ⟨hk', ?_, fun s₇ hpl₇ hs₇ fr₇ sm₇ => wpAny_execs_nil ⟨rfl, fr₇, ⟨sm₇.gens, sm₇.os⟩, fun b o hb e => (hs₇.2 b (Nat.ne_of_gt (Nat.lt_of_lt_of_le hDC hb))).trans (hk' b o e), ts ++ [(T ((l.drop st).take (o - st)), t')], ?_, ?_⟩⟩)
                (by kernel_rfl) (by kernel_rfl) (by kernel_rfl) (by decide +kernel) (by decide +kernel) (by decide +kernel)
              · have hn := bd.num
                have hlen : ts.length = res.length := by have := congrArg List.length hts; simpa using this
                show (strValues ts).toArray.size ≤ sizeLine
                rw [List.size_toArray, show (strValues ts).length = ts.length by simp [strValues], sizeLine_eq, hlen]
                simp at hn; omega
              · have e : (strValues (ts ++ [(T ((l.drop st).take (o - st)), t')])).toArray = (strValues ts).toArray.push (.str (T ((l.drop st).take (o - st))) t') := by simp [strValues]
                rw [e]; exact hpl₇
              · rw [if_neg hso, List.map_append, List.map_append, hts]; rfl
          · obtain ⟨rfl, fr₇, sm₇, hk₇, lst₇⟩ := h₇
            refine wpAny_execs_cons (asg (h₀ := s.heap) (by kernel_rfl) (by kernel_rfl) (wpAny_BinOp (ldN fr₇.ns mP (wpAny_Constant_int (P.add_int ⟨_, fr₇, fun s₈ fr₈ hs₈ sm₈ => ?_⟩)) (by kernel_rfl) (by kernel_rfl))))
            refine wpAny_execs_cons (asg (h₀ := s.heap) (by kernel_rfl) (by kernel_rfl) (wpAny_Constant_none ⟨_, fr₈, fun s₉ fr₉ hs₉ sm₉ => wpAny_execs_nil (wpAny_execs_nil (wpAny_execs_nil ?_))⟩))
            have hLC : s.heap.objs.size < C := Nat.lt_trans hLD hDC
            refine ⟨fun b o hb e => (hs₉.2 b (Nat.ne_of_gt (Nat.lt_of_lt_of_le hLC hb))).trans ((hs₈.2 b (Nat.ne_of_gt (Nat.lt_of_lt_of_le hLC hb))).trans (hk₇ b o hb e)), sm₉.gens.trans (sm₈.gens.trans sm₇.gens), sm₉.os.trans (sm₈.os.trans sm₇.os), _, fr₉, ?_⟩
            refine SV.heap (h := s₇.heap) ?_ fun o e => (hs₉.2 _ (Nat.ne_of_gt hLD)).trans ((hs₈.2 _ (Nat.ne_of_gt hLD)).trans e)
            exact {
              addr := ⟨ta, put_of (by decide +kernel) (put_of (by decide +kernel) had)⟩
              start := ⟨_, put_of (by decide +kernel) put_eq⟩
              opn := put_eq
              res := put_of (by decide +kernel) (put_of (by decide +kernel) sv'.res)
              dc := sv'.dc
              ld := sv'.ld
              lst := lst₇ }
      · rw [if_neg (by simpa using hq), if_neg hq]
        exact wpAny_execs_nil (wpAny_execs_nil ⟨fun _ _ _ e => e, rfl, rfl, _, fr, sv'⟩)
    · intro m s' fr sv hgq hos
      rw [List.take_length] at sv
      have bd := strip_at l (iterE 0 false l).length
      rw [List.take_length, List.drop_length] at bd
      change SV l (stripAll l (iterE 0 false l)) _ _ _ _ _ at sv
      change SOk l _ (stripAll l (iterE 0 false l)) _ at bd
      generalize stripAll l (iterE 0 false l) = q at sv bd hR
      obtain ⟨st, op, res⟩ := q
      obtain ⟨tks, hst⟩ := sv.start
      obtain ⟨ta, had⟩ := sv.addr
      obtain ⟨ts, hpl, hts⟩ := sv.lst
      have hLD : s.heap.objs.size < s₃.heap.objs.size := hL₃
      have hn := bd.num
      have hst' : st ≤ l.length := bd.st
      have hlen : ts.length = res.length := by have := congrArg List.length hts; simpa using this
      simp at hn
      have G' : Gl w.params s'.heap := G.keeps fr.keep
      refine wpAny_execs_cons (wpAny_mono (Q := fun f s₇ => f = .next ∧ Fr s.heap s.heap.objs.size s₇.heap m ∧ Sm s' s₇ ∧
          ∃ ts, PlainL s₇.heap s₃.heap.objs.size (strValues ts).toArray ∧ ts.map (·.1) = (stripFin l (st, op, res)).map T) (E := fun _ _ => False) ?_ (fun f s₇ h₇ => ?_) fun _ _ x => x)
      · refine wpAny_If (wpAny_isTrue_Compare1 (ldN fr.ns hst (callB1 (P := w.params) "len" G' (by kernel_rfl) boot_len (by decide +kernel) (by kernel_rfl) (by kernel_rfl) (by kernel_rfl) (by kernel_rfl) rfl (by decide +kernel)
          (ldN fr.ns had (P.len_str (by rw [T_len]; omega) (P.lt_int (wpAny_truthy_bool ?_))) (by kernel_rfl) (by kernel_rfl))) (by kernel_rfl) (by kernel_rfl)) rfl)
        rw [T_len]
        by_cases hlt : st < l.length
        · rw [if_pos (decide_eq_true (by exact_mod_cast hlt))]
          refine wpAny_execs_cons (app1 (by kernel_rfl) fr sv.res hpl hLD (by kernel_rfl) (fun E => ?_) rfl rfl (by kernel_rfl) rfl (by decide +kernel))
          refine sub_sn (by kernel_rfl) fr.ns had hst hst' (by omega) (fun h' t' k hk' => ⟨hk', ?_, fun s₇ hpl₇ hs₇ fr₇ sm₇ => wpAny_execs_nil ⟨rfl, fr₇, ⟨sm₇.gens, sm₇.os⟩, ts ++ [(T (l.drop st), t')], ?_, ?_⟩⟩)
            (by kernel_rfl) (by kernel_rfl) (by decide +kernel) (by decide +kernel)
          · rw [List.size_toArray, show (strValues ts).length = ts.length by simp [strValues], sizeLine_eq, hlen]; omega
          · have e : (strValues (ts ++ [(T (l.drop st), t')])).toArray = (strValues ts).toArray.push (.str (T (l.drop st)) t') := by simp [strValues]
            rw [e]; exact hpl₇
          · unfold stripFin; rw [if_pos hlt, List.map_append, List.map_append, hts]; rfl
        · rw [if_neg (by simpa using hlt)]
          refine wpAny_execs_nil ⟨rfl, fr, ⟨rfl, rfl⟩, ts, hpl, ?_⟩
          unfold stripFin; rw [if_neg hlt, hts]
      · obtain ⟨rfl, fr₇, sm₇, ts₇, hpl₇, hts₇⟩ := h₇
        have hfl : (stripFin l (st, op, res)).length ≤ l.length + 1 := by unfold stripFin; split <;> simp <;> omega
        have hfe : ∀ x ∈ stripFin l (st, op, res), x.length ≤ l.length := by
          unfold stripFin
          intro x hx
          split at hx
          · rcases List.mem_append.mp hx with hx | hx
            · exact bd.each x hx
            · rw [List.mem_singleton.mp hx, List.length_drop]; omega
          · exact bd.each x hx
        refine wpAny_execs_cons (wpAny_Return_some (Call_method1 rfl rfl rfl (wpAny_Constant_str (on1 F.plainAttrs_str F.slot_str_join F.type_str_join (typeIs_str _ _ _) (fun _ e => nomatch e)
          (ldN fr₇.ns sv.res (SC.join hpl₇.isList hts₇ (joinOk_T (N := 2001) (B := 2000) (by omega) (fun x hx => by have := hfe x hx; omega) (by decide)) fun t' k => ?_) (by kernel_rfl) (by kernel_rfl))))))
        rw [join_T]
        refine hR t' _ ?_
        have ok₄ : Ok s s₄ := sm.ok fr₄.keep
        have ok₅' : Ok s s₅ := ok₄.trans ok₅
        refine Ok.gen (g := g) ok₅' (by rw [hg, sm.gens]) ?_ ?_ fr₇.keep
        · show GenOnlyQ g s₅.gens s₇.gens
          rw [sm₇.gens]; exact hgq
        · exact sm₇.os.trans hos
  · rw [decide_eq_false h34, if_pos (by rfl)]
    refine wpAny_execs_cons (wpAny_Return_some (ldN fr.ns hm₁ ?_ (by kernel_rfl) (by kernel_rfl)))
    have := hR t { s₁ with toks := s₁.toks + 1 } (sm₁.upd.ok fr.keep)
    rw [stripP, if_neg h34] at this
    exact this
end
end
end Mine

namespace Mine
section
open PySem PySem.W PyProof.Rows PySem.Builtin PySem.Builtin.Str
set_option autoImplicit false
theorem lit_eq (x : String) (n : Nat) (hx : Str.ofString x = T [n]) (c : List Nat) : ((T c).cps.toList == (Str.ofString x).cps.toList) = decide (c = [n]) := by
  rw [hx]
  by_cases h : c = [n] <;> simp [T, h]

def CJ (us : List (Nat × List Nat)) (j : Nat) (m : Str → Option Value) (_ : Heap) : Prop :=
  ∃ (n : Int) (tk : Tok), m "opens" = some (.int n tk) ∧ balF 0 (us.map (·.2)) = balF n ((us.drop j).map (·.2))

section
variable {prog : Program} {w : World} {A : Around} {E : Value → Shared → Prop} {s : Shared} {env : Env} {h₀ : Heap} {m : Str → Option Value}
/-- x += e, x -= e -/
theorem aug {M : Model} {x : Str} {op : Operator} {e : Expr} {v : Value} {p1 p2 : Pos} {Q : Flow → Shared → Prop} (hk : env.scope.kind = .function) (hl : env.kindOf x = some .local) (fr : Fr h₀ env.locals s.heap m) (hv : m x = some v)
    (h : wpAny M A (eval e env) (fun u s₁ => wpAny M A (inplaceOp op v u) (fun r s₂ => ∃ m, Fr h₀ env.locals s₂.heap m ∧ ∀ s', Fr h₀ env.locals s'.heap (put m x r) → Heap.SameBut env.locals s₂.heap s'.heap → Sm s₂ s' → Q .next s') E s₁) E s) :
    wpAny M A (exec (.AugAssign (.Name x p1) op e p2) env) Q E s :=
  wpAny_AugAssign_Name (wpAny_loadName_local hk hl fr.ns hv (wpAny_mono h (fun _ _ h₁ => wpAny_mono h₁ (fun _ _ ⟨_, fr', hq⟩ => stF fr' hk hl fun _ fr'' hs' => hq _ fr'' hs' ⟨rfl, rfl⟩) fun _ _ x => x) fun _ _ x => x))
end

section
variable {prog : Program} {w : World} {A : Around} {s : Shared} {R : Result → Shared → Prop}
set_option maxRecDepth 100000
set_option maxHeartbeats 2000000 in
theorem check_spec {l : List Nat} {t : Tok} (G : Gl w.params s.heap) (r : Rm A 8) (hl : l.length ≤ 2000)
    (hR : ∀ s', Ok s s' → R (.ok (.ret (.bool (balF 0 ((iterE 0 false (stripP l)).map (·.2)))))) s') : codeAny (model prog w) A (.call (.ref 35) ⟨[.str (T l) t], []⟩) R s := by
  refine enter r.room (G.K 35 _ rfl) rfl G.nolimit (codeRec_of G.K (by kernel_rfl)) rfl (locs (by kernel_rfl)) (fun s₁ fr sm₁ => ?_)
  have r' : ∀ env, Rm (A.deeper env) 7 := fun env => Rm.deeper r
  obtain ⟨m₁, hm₁, fr⟩ : ∃ m₁, m₁ "addr" = some (.str (T l) t) ∧ Fr s.heap s.heap.objs.size s₁.heap m₁ := ⟨_, rfl, fr⟩
  have G₁ : Gl w.params s₁.heap := G.keeps fr.keep
  refine wpAny_execs_cons (asg (h₀ := s.heap) (by kernel_rfl) (by kernel_rfl) (callG1 (P := w.params) 28 G₁ (by kernel_rfl) (by kernel_rfl) (by kernel_rfl) (by kernel_rfl) (by kernel_rfl) rfl (by decide +kernel) (ldN fr.ns hm₁ ⟨G₁, ?_⟩ (by kernel_rfl) (by kernel_rfl))))
  refine wpAny_call (strip_spec G₁ ((r' _).less (by omega)) hl fun t₂ s₂ ok₂ => ⟨m₁, Fr.kept fr ok₂.keep, fun s₃ fr₃ hs₃ sm₃ => ?_⟩)
  refine wpAny_execs_cons (asg (h₀ := s.heap) (by kernel_rfl) (by kernel_rfl) (wpAny_Constant_int ⟨_, fr₃, fun s₄ fr₄ hs₄ sm₄ => ?_⟩))
  have okA : Ok s s₂ := (sm₁.ok fr.keep).trans ok₂
  have ok₄ : Ok s s₄ := ⟨fr₄.keep, (sm₄.os.trans sm₃.os).trans okA.os, fun h => by
      have e : s₄.gens = s₂.gens := sm₄.gens.trans sm₃.gens
      rw [e]; exact okA.bare h, fun i g e => by
      have e' : s₄.gens = s₂.gens := sm₄.gens.trans sm₃.gens
      rw [e']; exact okA.gens i g e⟩
  generalize stripP l = l' at *
  obtain ⟨m₄, mA, ⟨k₄, mO⟩, fr₄⟩ : ∃ m₄, m₄ "addr" = some (.str (T l') t₂) ∧ (∃ k, m₄ "opens" = some (.int 0 k)) ∧ Fr s.heap s.heap.objs.size s₄.heap m₄ := by
    refine ⟨_, ?_, ⟨_, put_eq⟩, fr₄⟩
    exact put_of (by decide +kernel) put_eq
  clear fr₃ hs₃ hs₄ sm₃ sm₄ hm₁ fr okA ok₂
  have G₄ : Gl w.params s₄.heap := G.keeps fr₄.keep
  refine wpAny_execs_cons (wpAny_For (callG1 (P := w.params) 21 G₄ (by kernel_rfl) (by kernel_rfl) (by kernel_rfl) (by kernel_rfl) (by kernel_rfl) rfl (by decide +kernel) (ldN fr₄.ns mA ⟨G₄, ?_⟩ (by kernel_rfl) (by kernel_rfl))) (by intro _; rfl))
  refine wpAny_call (iter_spec (l := l') G₄ ((r' _).less (by omega)) fun a g C s₅ hC hCa hg ok₅ gst => wpAny_pyIter_gen (gst _ r.hand).isg ?_)
  have hLC : s.heap.objs.size < C := Nat.lt_of_lt_of_le fr₄.ns.lt hC
  have fin : ∀ s', GenOnlyQ g s₅.gens s'.gens → s'.os = s₅.os → (∀ b o, s.heap.get? b = some o → s'.heap.get? b = some o) → Ok s s' := by
    intro s' hq ho hk
    have okm : Ok s₄ { s' with heap := s₅.heap } := Ok.gen (g := g) ok₅ hg hq ho ok₅.keep
    have := ok₄.trans okm
    exact ⟨hk, this.os, this.bare, this.gens⟩
  refine for_gen (r' _) (J := CJ (iterE 0 false l')) (m := m₄) hLC (by kernel_rfl) (by kernel_rfl) (by kernel_rfl) G (gst _ r.hand) (Fr.kept fr₄ ok₅.keep) ⟨0, k₄, mO, by simp⟩ hCa (fun j m h h' x _ => x) ?_ ?_
  · rintro j u m s₁ t1 t2 hu fr ⟨n, tk, mO, hbal⟩ hgq hos
    have hdr : (iterE 0 false l').drop j = u :: (iterE 0 false l').drop (j + 1) := by
      obtain ⟨hj, e⟩ := List.getElem?_eq_some_iff.mp hu
      rw [List.drop_eq_getElem_cons hj, e]
    rw [hdr, List.map_cons] at hbal
    have mO' : put (put m "pos" (.int u.1 t1)) "ch" (.str (T u.2) t2) "opens" = some (.int n tk) := put_of (by decide +kernel) (put_of (by decide +kernel) mO)
    have mC : put (put m "pos" (.int u.1 t1)) "ch" (.str (T u.2) t2) "ch" = some (.str (T u.2) t2) := put_eq
    generalize put (put m "pos" (.int u.1 t1)) "ch" (.str (T u.2) t2) = m₅ at fr mO' mC
    have keepC : ∀ {s₁ s₂ : Shared}, Heap.SameBut s.heap.objs.size s₁.heap s₂.heap → ∀ b o, C ≤ b → s₁.heap.get? b = some o → s₂.heap.get? b = some o := fun hs b o hb e => (hs.2 b (Nat.ne_of_gt (Nat.lt_of_lt_of_le hLC hb))).trans e
    refine wpAny_execs_cons (wpAny_If (wpAny_isTrue_Compare1 (ldN fr.ns mC (wpAny_Constant_str (P.eq_str (wpAny_truthy_bool ?_))) (by kernel_rfl) (by kernel_rfl)) rfl))
    rw [lit_eq "(" 40 (by decide +kernel)]
    by_cases h40 : u.2 = [40]
    · rw [if_pos (decide_eq_true h40)]
      rw [balF, if_pos h40] at hbal
      refine wpAny_execs_cons (aug (h₀ := s.heap) (by kernel_rfl) (by kernel_rfl) fr mO' (wpAny_Constant_int (P.iadd_int ⟨_, fr, fun s₆ fr₆ hs₆ sm₆ => wpAny_execs_nil (wpAny_execs_nil ?_)⟩)))
      exact ⟨keepC hs₆, sm₆.gens, sm₆.os, _, fr₆, _, _, put_eq, hbal⟩
    · rw [if_neg (by simpa using h40)]
      rw [balF, if_neg h40] at hbal
      refine wpAny_execs_cons (wpAny_If (wpAny_isTrue_Compare1 (ldN fr.ns mC (wpAny_Constant_str (P.eq_str (wpAny_truthy_bool ?_))) (by kernel_rfl) (by kernel_rfl)) rfl))
      rw [lit_eq ")" 41 (by decide +kernel)]
      by_cases h41 : u.2 = [41]
      · rw [if_pos (decide_eq_true h41)]
        rw [if_pos h41] at hbal
        refine wpAny_execs_cons (aug (h₀ := s.heap) (by kernel_rfl) (by kernel_rfl) fr mO' (wpAny_Constant_int (P.isub_int ⟨_, fr, fun s₆ fr₆ hs₆ sm₆ => ?_⟩)))
        refine wpAny_execs_cons (wpAny_If (wpAny_isTrue_Compare1 (ldN fr₆.ns put_eq (wpAny_Constant_int (P.lt_int (wpAny_truthy_bool ?_))) (by kernel_rfl) (by kernel_rfl)) rfl))
        by_cases hneg : n - 1 < 0
        · rw [if_pos (decide_eq_true hneg)]
          rw [if_pos hneg] at hbal
          refine wpAny_execs_cons (wpAny_Return_some (wpAny_Constant_bool ?_))
          rw [hbal] at hR
          exact hR _ (fin _ (by show GenOnlyQ g s₅.gens s₆.gens; rw [sm₆.gens]; exact hgq) (sm₆.os.trans hos) fr₆.keep)
        · rw [if_neg (by simpa using hneg)]
          rw [if_neg hneg] at hbal
          exact wpAny_execs_nil (wpAny_execs_nil (wpAny_execs_nil (wpAny_execs_nil ⟨keepC hs₆, sm₆.gens, sm₆.os, _, fr₆, _, _, put_eq, hbal⟩)))
      · rw [if_neg (by simpa using h41)]
        rw [if_neg h41] at hbal
        exact wpAny_execs_nil (wpAny_execs_nil (wpAny_execs_nil ⟨fun _ _ _ e => e, rfl, rfl, _, fr, _, _, mO', hbal⟩))
  · rintro m s' fr ⟨n, tk, mO, hbal⟩ hgq hos
    rw [List.drop_length, List.map_nil, balF] at hbal
    refine wpAny_execs_cons (wpAny_Return_some (wpAny_Compare1 (ldN fr.ns mO (wpAny_Constant_int (P.eq_int ?_)) (by kernel_rfl) (by kernel_rfl)) rfl))
    rw [hbal] at hR
    exact hR _ (fin _ hgq hos fr.keep)
end
end
end Mine

namespace Mine
section
open PySem PySem.W PyProof.Rows PySem.Builtin PySem.Builtin.Str
set_option autoImplicit false
/-- the dict's pairs are the references -/
inductive KvR : List (Str × Value) → List (Nat × List Nat) → Prop
  | nil : KvR [] []
  | cons {c : Nat} {z : List Nat} {t : Tok} {kvs : List (Str × Value)} {refs : List (Nat × List Nat)} : KvR kvs refs → KvR ((T [c], .str (T z) t) :: kvs) ((c, z) :: refs)
def DRef (prog : Program) (w : World) (h : Heap) (d : Addr) (refs : List (Nat × List Nat)) : Prop := (d == sysModules) = false ∧ ∃ kvs, h.DictOf (PySem.strKind prog w) d kvs ∧ KvR kvs refs
theorem DRef.keep {prog : Program} {w : World} {h h' : Heap} {d : Addr} {refs : List (Nat × List Nat)} (x : DRef prog w h d refs) (hk : ∀ b o, h.get? b = some o → h'.get? b = some o) : DRef prog w h' d refs :=
  ⟨x.1, let ⟨kvs, a, b⟩ := x.2; ⟨kvs, a.keep hk, b⟩⟩

theorem KvR.get {kvs : List (Str × Value)} {refs : List (Nat × List Nat)} (x : KvR kvs refs) (c : Nat) (u : Tok) : ∃ t, (valueAt kvs (T [c])).getD (.str (T [c]) u) = .str (T (look refs c)) t := by
  induction x with
  | nil => exact ⟨u, rfl⟩
  | @cons c' z t kvs refs _ ih =>
    by_cases h : c = c'
    · subst h
      exact ⟨t, by simp [valueAt, look]⟩
    · have h1 : ¬ T [c'] = T [c] := fun e => h (by simpa using (T_inj e).symm)
      have h2 : (c == c') = false := by simpa using h
      have e1 : valueAt ((T [c'], Value.str (T z) t) :: kvs) (T [c]) = valueAt kvs (T [c]) := by simp [valueAt, h1]
      have e2 : look ((c', z) :: refs) c = look refs c := by simp [look, List.lookup_cons, h2]
      rw [e1, e2]; exact ih
theorem KvR.has {kvs : List (Str × Value)} {refs : List (Nat × List Nat)} (x : KvR kvs refs) (c : Nat) : (valueAt kvs (T [c])).isSome = (refs.lookup c).isSome := by
  induction x with
  | nil => rfl
  | @cons c' z t kvs refs _ ih =>
    by_cases h : c = c'
    · subst h; simp [valueAt]
    · have h1 : ¬ T [c'] = T [c] := fun e => h (by simpa using (T_inj e).symm)
      have h2 : (c == c') = false := by simpa using h
      have e1 : valueAt ((T [c'], Value.str (T z) t) :: kvs) (T [c]) = valueAt kvs (T [c]) := by simp [valueAt, h1]
      rw [e1, List.lookup_cons, h2]; exact ih

theorem signs_of {l : List Nat} {vs : List Value} (hlen : vs.length = (T l).cps.size) (hP : ∀ (j : Nat) (v : Value), vs[j]? = some v → SignAt (T l) j v) : ∃ us : List Tok, us.length = l.length ∧ vs = (l.zip us).map fun p => .str (T [p.1]) p.2 := by
  have hsz : (T l).cps.size = l.length := by simp [T]
  rw [hsz] at hlen
  clear hsz
  induction l generalizing vs with
  | nil => exact ⟨[], rfl, by simpa using hlen⟩
  | cons c l ih =>
    cases vs with
    | nil => simp at hlen
    | cons v vs =>
      obtain ⟨c', u, hc, rfl⟩ := hP 0 v rfl
      have : c' = c := by simpa [T] using hc.symm
      subst this
      obtain ⟨us, h1, h2⟩ := ih (vs := vs) (by simpa using hlen) (fun j v hv => by
        obtain ⟨c'', u'', hc'', rfl⟩ := hP (j + 1) v (by simpa using hv)
        exact ⟨c'', u'', by simpa [T] using hc'', rfl⟩)
      exact ⟨u :: us, by simp [h1], by rw [h2]; rfl⟩

theorem paired_texts {refs : List (Nat × List Nat)} : ∀ {l : List Nat} {us : List Tok} {ys : List Value}, us.length = l.length →
    Paired (fun v y => ∃ c u t, v = .str (T [c]) u ∧ y = .str (T (look refs c)) t) ((l.zip us).map fun p => Value.str (T [p.1]) p.2) ys → ∃ ts, ys = strValues ts ∧ ts.map (·.1) = (l.map (look refs)).map T
  | [], _, _, _, h => by
    cases h
    exact ⟨[], rfl, rfl⟩
  | c :: l, [], _, hl, _ => by simp at hl
  | c :: l, u :: us, _, hl, h => by
    cases h with
    | cons h1 h2 =>
      obtain ⟨c', u', t, e1, rfl⟩ := h1
      obtain ⟨ts, e2, e3⟩ := paired_texts (by simpa using hl) h2
      have : c = c' := by
        have : T [c] = T [c'] := by injection e1
        simpa using T_inj this
      subst this
      exact ⟨(T (look refs c), t) :: ts, by rw [e2]; rfl, by simp [e3]⟩

section
variable {prog : Program} {w : World} {A : Around} {s : Shared} {R : Result → Shared → Prop}
set_option maxRecDepth 100000
set_option maxHeartbeats 1000000 in
theorem spelled_spec {l : List Nat} {t : Tok} {d : Addr} {refs : List (Nat × List Nat)} (G : Gl w.params s.heap) (r : Rm A 3) (hl : l.length ≤ 100000) (hd : DRef prog w s.heap d refs) (h6 : ∀ p ∈ refs, p.2.length ≤ 6)
    (hR : ∀ t' s', Ok s s' → R (.ok (.ret (.str (T (spell refs l)) t'))) s') : codeAny (model prog w) A (.call (.ref 96) ⟨[.str (T l) t, .ref d], []⟩) R s := by
  refine call_cells_ret r.room (G.K 96 _ rfl) rfl G.nolimit (codeRec_of G.K (by kernel_rfl)) (binds := [("text", .str (T l) t), ("refs", .ref d)]) rfl ?_ (fun h₁ tk fr cl => ?_)
  · intro x hx
    rcases List.mem_cons.mp hx with rfl | hx
    · exact .inl (by kernel_rfl)
    · rw [List.mem_singleton.mp hx]; exact .inr ⟨by kernel_rfl, by kernel_rfl⟩
  · have r' : ∀ env, Rm (A.deeper env) 2 := fun env => Rm.deeper r
    obtain ⟨m₁, hm₁, fr⟩ : ∃ m₁, m₁ "text" = some (.str (T l) t) ∧ Fr s.heap s.heap.objs.size h₁ m₁ := ⟨_, by kernel_rfl, fr⟩
    have hcell : h₁.IsCell (s.heap.objs.size + 1) (some (.ref d)) := by
      have := cl.cell "refs" (s.heap.objs.size + 1) (by kernel_rfl)
      exact this
    refine wpAny_execs_cons (wpAny_Return_some (Call_method1 rfl rfl rfl (wpAny_Constant_str (on1 F.plainAttrs_str F.slot_str_join F.type_str_join (typeIs_str _ _ _) (fun _ e => nomatch e) ?_))))
    refine wpAny_ListComp_free (cl := [("refs", s.heap.objs.size + 1)]) (fun _ => true) (fun v y => ∃ c u t, v = .str (T [c]) u ∧ y = .str (T (look refs c)) t) (by kernel_rfl) (by decide +kernel) (by kernel_rfl) (by decide +kernel) (by kernel_rfl) ?_ (by intro _; rfl)
    refine ldN fr.ns hm₁ (wpAny_pyIter_str fun ob St hW hst => ?_) (by kernel_rfl) (by kernel_rfl)
    have hd₁ : DRef prog w h₁ d refs := hd.keep fr.keep
    refine ⟨_, _, _, _, _, St, rfl, hW _ r.hand, ?_, hst, ?_, ⟨fun C i v s₃ m₃ E' _ _ _ _ _ _ => wpAny_pure ⟨rfl, _, _, rfl, fun _ _ e => e⟩, ?_⟩, ?_⟩
    · rw [sizeLine_eq]; show (T l).cps.size ≤ _; simp [T]; omega
    · intro b hb
      rw [List.mem_singleton.mp hb, Heap.size_push]; exact Nat.lt_succ_self _
    · rintro C i v s₃ m₃ E' hC ⟨c, u, hc, rfl⟩ _ hn₃ hm₃ hk₃ _
      have keep₃ : ∀ b o, h₁.get? b = some o → s₃.heap.get? b = some o := fun b o e => hk₃ b o (fun q => Nat.ne_of_lt (Heap.lt_size e) (List.mem_singleton.mp q)) (Heap.get?_push_of_some _ e)
      obtain ⟨hsys, kvs, hdo, hkv⟩ := hd₁.keep keep₃
      refine Call_method2 rfl rfl rfl (wpAny_Name (wpAny_loadName_cell (c := s.heap.objs.size + 1) (by kernel_rfl) (by kernel_rfl) (by kernel_rfl) (hcell.keeps keep₃) ?_) (by decide +kernel))
      refine ⟨"dict", "dict.get", F.plainAttrs_dict, F.slot_dict_get, F.type_dict_get, hdo.typeIs, hdo.mapOf.noDict, wpAny_dict_get2 (knd := PySem.strKind prog w) hsys (ldN hn₃ hm₃ (ldN hn₃ hm₃ ⟨T [c], _, PySem.strKind_is prog w (T [c]) u, hdo.mapOf, ?_⟩ (by kernel_rfl) (by kernel_rfl)) (by kernel_rfl) (by kernel_rfl))⟩
      obtain ⟨t', e⟩ := hkv.get c u
      exact ⟨⟨c, u, t', rfl, e⟩, _, _, rfl, fun _ _ e => e⟩
    · intro D h' tk' ys vs hD hl' hpl hlen hP hF hk'
      obtain ⟨us, hus, rfl⟩ := signs_of hlen hP
      rw [List.filter_eq_self.mpr (fun _ _ => rfl)] at hF
      obtain ⟨ts, e1, e2⟩ := paired_texts hus hF
      have hl'' : h'.IsList D (strValues ts).toArray := by rw [← e1]; simpa using hl'
      refine SC.join hl'' e2 (joinOk_T (N := 100000) (B := 6) (by simpa using hl) (fun x hx => ?_) (by decide)) fun t' k => ?_
      · obtain ⟨c, _, rfl⟩ := List.mem_map.mp hx
        exact look_len h6 c
      · rw [join_T]
        have e3 : (l.map (look refs)).flatten = spell refs l := by unfold spell; rw [List.flatMap_def]
        rw [e3]
        exact hR t' _ (Ok.of fun b o e => hk' b o (fun q => Nat.ne_of_lt (Heap.lt_size (fr.keep b o e)) (List.mem_singleton.mp q)) (Heap.get?_push_of_some _ (fr.keep b o e)))
end
end
end Mine

namespace Mine
section
open PySem PySem.W PyProof.Rows PySem.Builtin PySem.Builtin.Str
set_option autoImplicit false
/-- an iterator's object -/
def It (o : Obj) : Prop := o.cls = .type "list_iterator" ∨ o.cls = .type "range_iterator" ∨ o.cls = .type "str_iterator" ∨ o.cls = .type "str_ascii_iterator"
/-- the heap but for the frame and an iterator -/
def Kp (L I : Addr) (h h' : Heap) : Prop := ∀ b o, b ≠ L → b ≠ I → h.get? b = some o → h'.get? b = some o
def ItAt (h : Heap) (I : Addr) : Prop := ∃ o, h.get? I = some o ∧ It o

def TupO (o : Obj) : Prop := o.cls = .type "tuple" ∧ ∃ its n, o.data = .seq its n
def TupKeep (h h' : Heap) : Prop := ∀ b o, TupO o → h.get? b = some o → h'.get? b = some o
theorem TupKeep.of_keep {h h' : Heap} (hk : ∀ b o, h.get? b = some o → h'.get? b = some o) : TupKeep h h' := fun b o _ e => hk b o e
theorem TupKeep.trans {h h' h'' : Heap} (a : TupKeep h h') (b : TupKeep h' h'') : TupKeep h h'' := fun x o t e => b x o t (a x o t e)
theorem TupKeep.list {h h' : Heap} {D : Addr} {its : Array Value} (x : PlainL h D its) (hs : Heap.SameBut D h h') : TupKeep h h' := fun b o t e => (hs.2 b fun q => by
  obtain ⟨o', n, ho', hc, _⟩ := x
  rw [q, ho'] at e; obtain rfl := Option.some.inj e
  have t1 := t.1; rw [hc] at t1; exact absurd t1 (by decide)).trans e
theorem TupKeep.ns {h h' : Heap} {L : Addr} {m : Str → Option Value} (x : h.Ns L m) (hs : Heap.SameBut L h h') : TupKeep h h' := fun b o t e => (hs.2 b fun q => by
  obtain ⟨o', es, ep, ho', hd, _⟩ := x
  rw [q, ho'] at e; obtain rfl := Option.some.inj e
  obtain ⟨_, its, n, ht⟩ := t
  rw [hd] at ht; cases ht).trans e
theorem TupKeep.kp {h h' : Heap} {L I : Addr} {m : Str → Option Value} (x : h.Ns L m) (i : ItAt h I) (hk : Kp L I h h') : TupKeep h h' := fun b o t e => hk b o (fun q => by
  obtain ⟨o', es, ep, ho', hd, _⟩ := x
  rw [q, ho'] at e; obtain rfl := Option.some.inj e
  obtain ⟨_, its, n, ht⟩ := t
  rw [hd] at ht; cases ht) (fun q => by
  obtain ⟨o', ho', hi⟩ := i
  rw [q, ho'] at e; obtain rfl := Option.some.inj e
  rcases hi with h | h | h | h <;> (have t1 := t.1; rw [h] at t1; exact absurd t1 (by decide))) e
theorem IsU.mono {h h' : Heap} {v : Value} {u : Nat × List Nat} (x : IsU h v u) (k : TupKeep h h') : IsU h' v u := let ⟨a, t1, t2, e, ho⟩ := x; ⟨a, t1, t2, e, k a _ ⟨rfl, _, _, rfl⟩ ho⟩

/-- the values are these pairs -/
inductive Us (h : Heap) : List Value → List (Nat × List Nat) → Prop
  | nil : Us h [] []
  | cons {v : Value} {u : Nat × List Nat} {vs : List Value} {us : List (Nat × List Nat)} : IsU h v u → Us h vs us → Us h (v :: vs) (u :: us)
theorem Us.mono {h h' : Heap} {vs : List Value} {us : List (Nat × List Nat)} (x : Us h vs us) (k : TupKeep h h') : Us h' vs us := by
  induction x with
  | nil => exact .nil
  | cons a _ ih => exact .cons (a.mono k) ih
theorem Us.snoc {h : Heap} {vs : List Value} {us : List (Nat × List Nat)} {v : Value} {u : Nat × List Nat} (x : Us h vs us) (y : IsU h v u) : Us h (vs ++ [v]) (us ++ [u]) := by
  induction x with
  | nil => exact .cons y .nil
  | cons a _ ih => exact .cons a ih
theorem Us.length {h : Heap} {vs : List Value} {us : List (Nat × List Nat)} (x : Us h vs us) : vs.length = us.length := by
  induction x with
  | nil => rfl
  | cons _ _ ih => simp [ih]

theorem PlainL.kp {h h' : Heap} {L I D : Addr} {its : Array Value} (x : PlainL h D its) (hL : D ≠ L) (i : ItAt h I) (hk : Kp L I h h') : PlainL h' D its := by
  obtain ⟨o, n, ho, hc, r⟩ := x
  refine ⟨o, n, hk D o hL (fun q => ?_) ho, hc, r⟩
  obtain ⟨o', ho', hi⟩ := i
  rw [← q, ho] at ho'; obtain rfl := Option.some.inj ho'
  rcases hi with h | h | h | h <;> (rw [h] at hc; exact absurd hc (by decide))

section
variable {prog : Program} {w : World} {A : Around} {E : Value → Shared → Prop} {s : Shared} {env : Env} {base : Heap}

/-- a for over an iterator that knows its items -/
theorem for_walk {R : Result → Shared → Prop} {x : Str} {px : Pos} {body : List Stmt} {I : Addr} {fp : List Addr} {n : Nat} {P : Nat → Value → Prop} {St : Nat → Heap → Prop} {J : Nat → (Str → Option Value) → Shared → Prop} {m : Str → Option Value}
    (W : Walks prog w A I fp [I] n P St) (hIt : ∀ i h, St i h → ItAt h I) (hk : env.scope.kind = .function) (hx : env.kindOf x = some .local) (hst : St 0 s.heap) (fr : Fr base env.locals s.heap m) (j0 : J 0 m s) (hLf : env.locals ∉ fp) (hI0 : env.locals < I)
    (hJ : ∀ j m s s', ItAt s.heap I → Fr base env.locals s.heap m → J j m s → Sm s s' → Kp env.locals I s.heap s'.heap → J j m s')
    (hturn : ∀ j v m s₁, j < n → P j v → Fr base env.locals s₁.heap (put m x v) → J j m s₁ → ItAt s₁.heap I →
      wpAny (model prog w) A (execs body env) (fun f s₂ => match f with
        | .next | .cont => (∀ b ∈ fp, ∀ o, s₁.heap.get? b = some o → s₂.heap.get? b = some o) ∧ ∃ m', Fr base env.locals s₂.heap m' ∧ J (j + 1) m' s₂
        | .brk => False
        | .ret v => R (.ok (.ret v)) s₂) (fun _ _ => False) s₁)
    (hend : ∀ m s', Fr base env.locals s'.heap m → J n m s' → R (.ok .next) s') :
    codeAny (model prog w) A (.forLoop (.Name x px) (.ref I) body [] env) R s := by
  have hp : (env.scope.kind == .class || (env.scope.kind == .module && env.locals != env.globals)) = false := by rw [hk]; rfl
  have hb : ∀ b o, base.get? b = some o → b ∉ [I] := fun b o e q => by
    rw [List.mem_singleton.mp q] at e
    exact Nat.lt_irrefl _ (Nat.lt_of_lt_of_le (Heap.lt_size e) (Nat.le_trans fr.above (Nat.le_of_lt hI0)))
  have hLI : env.locals ∉ [I] := fun q => Nat.ne_of_lt hI0 (List.mem_singleton.mp q)
  refine codeAny_forLoop (fun k s' => ∃ j m, j ≤ n ∧ k = n - j ∧ St j s'.heap ∧ Fr base env.locals s'.heap m ∧ J j m s') ?_ n ⟨0, m, Nat.zero_le _, rfl, hst, fr, j0⟩
  rintro k s₁ ⟨j, m₁, hj, rfl, st₁, fr₁, j₁⟩
  by_cases hlt : j < n
  · refine W.item j _ _ _ hlt st₁ fun v h₂ tk₂ hP st₂ hk₂ => ?_
    have fr₂ : Fr base env.locals h₂ m₁ := ⟨fr₁.ns.at' fun o e => hk₂ _ o hLI e, fun b o e => hk₂ b o (hb b o e) (fr₁.keep b o e), fr₁.above⟩
    refine wpAny_assign_Name (wpAny_storeName_local hx fr₂.ns (fun h₃ hn₃ hs₃ => ?_) hp)
    have kp : Kp env.locals I s₁.heap h₃ := fun b o hL hI e => (hs₃.2 b hL).trans (hk₂ b o (fun q => hI (List.mem_singleton.mp q)) e)
    have j₃ : J j m₁ { s₁ with heap := h₃, toks := tk₂ + 1 } := hJ j m₁ s₁ _ (hIt _ _ st₁) fr₁ j₁ ⟨rfl, rfl⟩ kp
    have it₃ : ItAt h₃ I := by
      obtain ⟨o, ho, hi⟩ := hIt _ _ st₂
      exact ⟨o, (hs₃.2 I (Nat.ne_of_gt hI0)).trans ho, hi⟩
    refine wpAny_mono (hturn j v m₁ _ hlt hP (fr₂.set hn₃ hs₃) j₃ it₃) (fun f s₄ h₄ => ?_) fun _ _ x => x.elim
    have key : ((∀ b ∈ fp, ∀ o, h₃.get? b = some o → s₄.heap.get? b = some o) ∧ ∃ m', Fr base env.locals s₄.heap m' ∧ J (j + 1) m' s₄) → ∃ k', k' < n - j ∧ ∃ j' m', j' ≤ n ∧ k' = n - j' ∧ St j' s₄.heap ∧ Fr base env.locals s₄.heap m' ∧ J j' m' s₄ := by
      rintro ⟨k4, m', fr4, j4⟩
      exact ⟨n - (j + 1), by omega, j + 1, m', hlt, rfl, W.frame _ _ _ st₂ fun b hb o e => k4 b hb o ((hs₃.2 b fun q => hLf (q ▸ hb)).trans e), fr4, j4⟩
    cases f with
    | next => exact key h₄
    | cont => exact key h₄
    | brk => exact h₄.elim
    | ret v => exact h₄
  · have hjn : j = n := by omega
    subst hjn
    refine W.done _ _ _ st₁ fun h₂ tk₂ hk₂ => wpAny_execs_nil ?_
    have fr₂ : Fr base env.locals h₂ m₁ := ⟨fr₁.ns.at' fun o e => hk₂ _ o hLI e, fun b o e => hk₂ b o (hb b o e) (fr₁.keep b o e), fr₁.above⟩
    exact hend m₁ _ fr₂ (hJ j m₁ s₁ _ (hIt _ _ st₁) fr₁ j₁ ⟨rfl, rfl⟩ fun b o _ hI e => hk₂ b o (fun q => hI (List.mem_singleton.mp q)) e)

theorem itAt_range {h : Heap} {I : Addr} {a b c : Int} (x : IsRangeIter h I a b c) : ItAt h I := ⟨_, x, .inr (.inl rfl)⟩
theorem itAt_list {h : Heap} {I l : Addr} {i : Nat} (x : h.IsListIter I l i) : ItAt h I := let ⟨o, ho, hc, _⟩ := x; ⟨o, ho, .inl hc⟩
theorem itAt_str {h : Heap} {I : Addr} {y : Str} {t : Tok} {i : Nat} (x : h.IsStrIter I (strIterType y) y t i) : ItAt h I := by
  obtain ⟨o, ho, hc, _⟩ := x
  unfold strIterType at hc
  split at hc
  · exact ⟨o, ho, .inr (.inr (.inr hc))⟩
  · exact ⟨o, ho, .inr (.inr (.inl hc))⟩
theorem walks_str (hh : A.handled = none) (I : Addr) (x : Str) (t : Tok) : Walks prog w A I [I] [I] x.cps.size (SignAt x) (fun i h => h.IsStrIter I (strIterType x) x t i) := by
  unfold strIterType
  split
  · exact Walks.strAscii hh I x t
  · exact Walks.strWide hh I x t

/-- for x in range(e): .. -/
theorem forRange {x : Str} {px p1 p2 p3 : Pos} {e : Expr} {body : List Stmt} {n : Nat} {J : Nat → (Str → Option Value) → Shared → Prop} {m : Str → Option Value} {Q : Flow → Shared → Prop} {d : Nat}
    (r : Rm A d) (hn : n ≤ 100000) (G : Gl w.params s.heap) (hk : env.scope.kind = .function) (hx : env.kindOf x = some .local) (hxr : env.kindOf "range" = some .globalImplicit) (hg : env.globals = mainGlobals) (hb : env.builtins = builtinsNs) (hst : starEach [e] env = [(false, eval e env)])
    (he : wpAny (model prog w) A (eval e env) (fun v s₁ => ∃ t k, v = .int (n : Int) t ∧ s₁ = { s with toks := k }) E s) (fr : Fr base env.locals s.heap m)
    (j0 : ∀ s', (∀ b o, s.heap.get? b = some o → s'.heap.get? b = some o) → Sm s s' → J 0 m s')
    (hJ : ∀ I, s.heap.objs.size ≤ I → ∀ j m s s', ItAt s.heap I → Fr base env.locals s.heap m → J j m s → Sm s s' → Kp env.locals I s.heap s'.heap → J j m s')
    (hturn : ∀ I, s.heap.objs.size ≤ I → ∀ j t m s₁, j < n → Fr base env.locals s₁.heap (put m x (.int (j : Int) t)) → J j m s₁ → ItAt s₁.heap I →
      wpAny (model prog w) A (execs body env) (fun f s₂ => match f with
        | .next | .cont => (∀ o, s₁.heap.get? I = some o → s₂.heap.get? I = some o) ∧ ∃ m', Fr base env.locals s₂.heap m' ∧ J (j + 1) m' s₂
        | .brk => False
        | .ret v => Q (.ret v) s₂) (fun _ _ => False) s₁)
    (hend : ∀ m s', Fr base env.locals s'.heap m → J n m s' → Q .next s') :
    wpAny (model prog w) A (exec (.For (.Name x px) (.Call (.Name "range" p1) [e] [] p2) body [] p3) env) Q E s := by
  refine wpAny_For (callT1 (P := w.params) "range" G (by kernel_rfl) boot_range (by decide +kernel) hk hxr hg hb hst (by decide +kernel) (wpAny_mono he (fun v s₁ h₁ => ?_) fun _ _ x => x)) (by intro _; rfl)
  obtain ⟨t, k, rfl, rfl⟩ := h₁
  have hsz : Builtin.Range.rangeSize 0 (n : Int) 1 = n := by rw [rangeSize_one]; split <;> omega
  refine call_range_1 (wpAny_pyIter_range (IsRange.new ..) (small_one (by omega) (by omega) (by omega) (by omega)) ?_)
  rw [hsz]
  have hL : env.locals < s.heap.objs.size := fr.ns.lt
  have hkeep : ∀ (o₁ o₂ : Obj) b o, s.heap.get? b = some o → ((s.heap.push o₁).push o₂).get? b = some o := fun o₁ o₂ b o e => Heap.get?_push_of_some _ (Heap.get?_push_of_some _ e)
  have hI : s.heap.objs.size ≤ (s.heap.push { cls := .type "range", data := .fields #[.int 0 k, .int n t, .int 1 (k + 1)] }).objs.size := by rw [Heap.size_push]; omega
  refine for_walk (J := J) (m := m) (Walks.range r.hand _ 0 1 n) (fun i h st => itAt_range st) hk hx ?_ (Fr.kept fr (hkeep _ _)) (j0 _ (hkeep _ _) ⟨rfl, rfl⟩) ?_ (Nat.lt_of_lt_of_le hL hI) (hJ _ hI) ?_ hend
  · have e := Heap.get?_push_size (s.heap.push { cls := .type "range", data := .fields #[.int 0 k, .int n t, .int 1 (k + 1)] }) (o := { cls := .type "range_iterator", data := .fields #[rawInt 0, rawInt n, rawInt 1] }) rfl
    simpa using e
  · exact fun q => Nat.ne_of_lt (Nat.lt_of_lt_of_le hL hI) (List.mem_singleton.mp q)
  · rintro j v m s₁ hj ⟨tv, rfl⟩ fr₁ j₁ it₁
    have e : (0 : Int) + (j : Int) * 1 = (j : Int) := by omega
    rw [e] at fr₁
    refine wpAny_mono (hturn _ hI j tv m s₁ hj fr₁ j₁ it₁) (fun f s₂ h₂ => ?_) fun _ _ x => x
    cases f with
    | next => exact ⟨fun b hb o e => by rw [List.mem_singleton.mp hb] at e ⊢; exact h₂.1 o e, h₂.2⟩
    | cont => exact ⟨fun b hb o e => by rw [List.mem_singleton.mp hb] at e ⊢; exact h₂.1 o e, h₂.2⟩
    | brk => exact h₂
    | ret v => exact h₂

/-- for x in text: .. -/
theorem forStr {x nv : Str} {px p1 p3 : Pos} {l : List Nat} {t : Tok} {body : List Stmt} {J : Nat → (Str → Option Value) → Shared → Prop} {m : Str → Option Value} {Q : Flow → Shared → Prop} {d : Nat}
    (r : Rm A d) (hk : env.scope.kind = .function) (hx : env.kindOf x = some .local) (hv : env.kindOf nv = some .local) (hdv : (nv == ("__debug__" : Str)) = false)
    (fr : Fr base env.locals s.heap m) (hm : m nv = some (.str (T l) t))
    (j0 : ∀ s', (∀ b o, s.heap.get? b = some o → s'.heap.get? b = some o) → Sm s s' → J 0 m s')
    (hJ : ∀ I, s.heap.objs.size ≤ I → ∀ j m s s', ItAt s.heap I → Fr base env.locals s.heap m → J j m s → Sm s s' → Kp env.locals I s.heap s'.heap → J j m s')
    (hturn : ∀ I, s.heap.objs.size ≤ I → ∀ j c u m s₁, l[j]? = some c → Fr base env.locals s₁.heap (put m x (.str (T [c]) u)) → J j m s₁ → ItAt s₁.heap I →
      wpAny (model prog w) A (execs body env) (fun f s₂ => match f with
        | .next | .cont => (∀ o, s₁.heap.get? I = some o → s₂.heap.get? I = some o) ∧ ∃ m', Fr base env.locals s₂.heap m' ∧ J (j + 1) m' s₂
        | .brk => False
        | .ret v => Q (.ret v) s₂) (fun _ _ => False) s₁)
    (hend : ∀ m s', Fr base env.locals s'.heap m → J l.length m s' → Q .next s') :
    wpAny (model prog w) A (exec (.For (.Name x px) (.Name nv p1) body [] p3) env) Q E s := by
  refine wpAny_For (ldN fr.ns hm (wpAny_pyIter_strU ?_) hk hv hdv) (by intro _; rfl)
  have hL : env.locals < s.heap.objs.size := fr.ns.lt
  have hsz : (T l).cps.size = l.length := by simp [T]
  have hkeep : ∀ (o₁ : Obj) b o, s.heap.get? b = some o → (s.heap.push o₁).get? b = some o := fun o₁ b o e => Heap.get?_push_of_some _ e
  refine for_walk (J := J) (m := m) (walks_str r.hand _ (T l) t) (fun i h st => itAt_str st) hk hx ⟨_, Heap.get?_push_size _ rfl, rfl, rfl⟩ (Fr.kept fr (hkeep _)) (j0 _ (hkeep _) ⟨rfl, rfl⟩) ?_ hL (hJ _ (Nat.le_refl _)) ?_ ?_
  · exact fun q => Nat.ne_of_lt hL (List.mem_singleton.mp q)
  · rintro j v m s₁ hj ⟨c, u, hc, rfl⟩ fr₁ j₁ it₁
    have hc' : l[j]? = some c := by simpa [T] using hc
    refine wpAny_mono (hturn _ (Nat.le_refl _) j c u m s₁ hc' fr₁ j₁ it₁) (fun f s₂ h₂ => ?_) fun _ _ x => x
    cases f with
    | next => exact ⟨fun b hb o e => by rw [List.mem_singleton.mp hb] at e ⊢; exact h₂.1 o e, h₂.2⟩
    | cont => exact ⟨fun b hb o e => by rw [List.mem_singleton.mp hb] at e ⊢; exact h₂.1 o e, h₂.2⟩
    | brk => exact h₂
    | ret v => exact h₂
  · intro m s' fr' j'
    rw [hsz] at j'
    exact hend m s' fr' j'

/-- for x in a list: .. -/
theorem forList {x nv : Str} {px p1 p3 : Pos} {a : Addr} {items : Array Value} {body : List Stmt} {J : Nat → (Str → Option Value) → Shared → Prop} {m : Str → Option Value} {Q : Flow → Shared → Prop} {d : Nat}
    (r : Rm A d) (hk : env.scope.kind = .function) (hx : env.kindOf x = some .local) (hv : env.kindOf nv = some .local) (hdv : (nv == ("__debug__" : Str)) = false)
    (fr : Fr base env.locals s.heap m) (hm : m nv = some (.ref a)) (hl : s.heap.IsList a items) (haL : a ≠ env.locals)
    (j0 : ∀ s', (∀ b o, s.heap.get? b = some o → s'.heap.get? b = some o) → Sm s s' → J 0 m s')
    (hJ : ∀ I, s.heap.objs.size ≤ I → ∀ j m s s', ItAt s.heap I → Fr base env.locals s.heap m → J j m s → Sm s s' → Kp env.locals I s.heap s'.heap → J j m s')
    (hturn : ∀ I, s.heap.objs.size ≤ I → ∀ j v m s₁, items[j]? = some v → Fr base env.locals s₁.heap (put m x v) → J j m s₁ → ItAt s₁.heap I →
      wpAny (model prog w) A (execs body env) (fun f s₂ => match f with
        | .next | .cont => (∀ o, s₁.heap.get? I = some o → s₂.heap.get? I = some o) ∧ (∀ o, s₁.heap.get? a = some o → s₂.heap.get? a = some o) ∧ ∃ m', Fr base env.locals s₂.heap m' ∧ J (j + 1) m' s₂
        | .brk => False
        | .ret v => Q (.ret v) s₂) (fun _ _ => False) s₁)
    (hend : ∀ m s', Fr base env.locals s'.heap m → J items.size m s' → Q .next s') :
    wpAny (model prog w) A (exec (.For (.Name x px) (.Name nv p1) body [] p3) env) Q E s := by
  refine wpAny_For (ldN fr.ns hm (wpAny_pyIter_list hl ?_) hk hv hdv) (by intro _; rfl)
  have hL : env.locals < s.heap.objs.size := fr.ns.lt
  have ha : a < s.heap.objs.size := by obtain ⟨o, ho, _⟩ := hl; exact Heap.lt_size ho
  have hkeep : ∀ (o₁ : Obj) b o, s.heap.get? b = some o → (s.heap.push o₁).get? b = some o := fun o₁ b o e => Heap.get?_push_of_some _ e
  refine for_walk (J := J) (m := m) (Walks.list r.hand s.heap.objs.size a (Nat.ne_of_lt ha) items) (fun i h st => itAt_list st.1) hk hx ⟨⟨_, Heap.get?_push_size _ rfl, rfl, rfl⟩, hl.push _⟩ (Fr.kept fr (hkeep _)) (j0 _ (hkeep _) ⟨rfl, rfl⟩) ?_ hL (hJ _ (Nat.le_refl _)) ?_ hend
  · intro q
    rcases List.mem_cons.mp q with q | q
    · exact Nat.ne_of_lt hL q
    · exact haL (List.mem_singleton.mp q).symm
  · rintro j v m s₁ hj hv fr₁ j₁ it₁
    refine wpAny_mono (hturn _ (Nat.le_refl _) j v m s₁ hv fr₁ j₁ it₁) (fun f s₂ h₂ => ?_) fun _ _ x => x
    have key : ∀ b ∈ [s.heap.objs.size, a], (∀ o, s₁.heap.get? s.heap.objs.size = some o → s₂.heap.get? s.heap.objs.size = some o) → (∀ o, s₁.heap.get? a = some o → s₂.heap.get? a = some o) → ∀ o, s₁.heap.get? b = some o → s₂.heap.get? b = some o := by
      intro b hb k1 k2 o e
      rcases List.mem_cons.mp hb with hb | hb
      · rw [hb] at e ⊢; exact k1 o e
      · rw [List.mem_singleton.mp hb] at e ⊢; exact k2 o e
    cases f with
    | next => exact ⟨fun b hb o e => key b hb h₂.1 h₂.2.1 o e, h₂.2.2⟩
    | cont => exact ⟨fun b hb o e => key b hb h₂.1 h₂.2.1 o e, h₂.2.2⟩
    | brk => exact h₂
    | ret v => exact h₂
end
end
end Mine

namespace Mine
section
open PySem
set_option autoImplicit false
def emit : Nat → List Nat → List Nat → List (Nat × List Nat)
  | _, _, [] => []
  | p, h, c :: r => (p, h ++ [c]) :: emit (p + 1) [] r
def dbls (place n : Nat) : List (Nat × List Nat) := (List.range n).map fun j => (place + 2 * j + 1, [92, 92])
def heldOf (run : Nat) : List Nat := List.replicate (run % 2) 92
def uRun (k run : Nat) : Nat := if 0 < k then run + 1 else run
/-- a turn of _law_units that writes -/
def uOut (refs : List (Nat × List Nat)) (part : List Nat) (place run : Nat) : List (Nat × List Nat) :=
  dbls place (run / 2) ++ ((if spell refs part = [] ∧ heldOf run ≠ [] then [(place + run - 1, heldOf run)] else []) ++ emit (place + run) (heldOf run) (spell refs part))
def uTurn (refs : List (Nat × List Nat)) (parts : List (List Nat)) (q : Nat × Nat × List (Nat × List Nat)) (k : Nat) : Nat × Nat × List (Nat × List Nat) :=
  if parts.getD k [] ≠ [] ∨ k + 1 = parts.length then
    (q.1 + uRun k q.2.1 + (spell refs (parts.getD k [])).length, 0, q.2.2 ++ uOut refs (parts.getD k []) q.1 (uRun k q.2.1))
  else (q.1, uRun k q.2.1, q.2.2)
def uAll (refs : List (Nat × List Nat)) (parts : List (List Nat)) (n : Nat) : Nat × Nat × List (Nat × List Nat) := (List.range n).foldl (uTurn refs parts) (0, 0, [])
theorem uAll_succ (refs : List (Nat × List Nat)) (parts : List (List Nat)) (n : Nat) : uAll refs parts (n + 1) = uTurn refs parts (uAll refs parts n) n := by
  unfold uAll; rw [List.range_succ, List.foldl_append]; rfl

theorem emit_len : ∀ (l : List Nat) (p : Nat) (h : List Nat), (emit p h l).length = l.length
  | [], _, _ => rfl
  | c :: r, p, h => by simp [emit, emit_len r]

theorem emit_get : ∀ (l : List Nat) (p : Nat) (h : List Nat) (j c : Nat), l[j]? = some c → (emit p h l)[j]? = some (p + j, (if j = 0 then h else []) ++ [c])
  | [], _, _, _, _, e => by simp at e
  | d :: r, p, h, 0, c, e => by
    have : d = c := by simpa using e
    subst this; simp [emit]
  | d :: r, p, h, j + 1, c, e => by
    have e' : r[j]? = some c := by simpa using e
    have ih := emit_get r (p + 1) [] j c e'
    rw [emit, List.getElem?_cons_succ, ih]
    simp; omega
theorem emit_take (l : List Nat) (p : Nat) (h : List Nat) (j c : Nat) (e : l[j]? = some c) : (emit p h l).take (j + 1) = (emit p h l).take j ++ [(p + j, (if j = 0 then h else []) ++ [c])] := by
  rw [List.take_add_one, emit_get l p h j c e]; rfl

/-- sizes -/
theorem uAll_bd {refs : List (Nat × List Nat)} {parts : List (List Nat)} {B : Nat} (hB : ∀ p ∈ parts, (spell refs p).length ≤ B) : ∀ n, (uAll refs parts n).2.1 ≤ n ∧ (uAll refs parts n).2.2.length ≤ n * (n + 2 + B) ∧ (uAll refs parts n).1 ≤ n * (n + 2 + B)
  | 0 => by simp [uAll]
  | n + 1 => by
    have ih := uAll_bd hB n
    rw [uAll_succ]
    generalize uAll refs parts n = q at ih
    obtain ⟨place, run, us⟩ := q
    simp only at ih
    have hr : uRun n run ≤ n + 1 := by unfold uRun; split <;> omega
    have hsp : (spell refs (parts.getD n [])).length ≤ B := by
      by_cases h : n < parts.length
      · rw [List.getD_eq_getElem?_getD, List.getElem?_eq_getElem h]; exact hB _ (List.getElem_mem h)
      · rw [List.getD_eq_getElem?_getD, List.getElem?_eq_none (by omega)]; simp [spell]
    have hmul : (n + 1) * (n + 1 + 2 + B) = n * (n + 2 + B) + n + (n + 1 + 2 + B) := by
      rw [Nat.add_mul, Nat.one_mul, show n + 1 + 2 + B = (n + 2 + B) + 1 by omega, Nat.mul_add, Nat.mul_one]
    unfold uTurn
    split
    · have hlen : (uOut refs (parts.getD n []) place (uRun n run)).length ≤ (n + 1) / 2 + 1 + B := by
        unfold uOut dbls
        rw [List.length_append, List.length_append, emit_len, List.length_map, List.length_range]
        have : (if spell refs (parts.getD n []) = [] ∧ heldOf (uRun n run) ≠ [] then [(place + uRun n run - 1, heldOf (uRun n run))] else []).length ≤ 1 := by split <;> simp
        have h2 : uRun n run / 2 ≤ (n + 1) / 2 := Nat.div_le_div_right hr
        omega
      refine ⟨by simp, ?_, ?_⟩
      · simp only [List.length_append]; omega
      · simp only; omega
    · refine ⟨hr, ?_, ?_⟩
      · simp only; omega
      · simp only; omega
end
end Mine

namespace Mine
section
open PySem PySem.W PyProof.Rows PySem.Builtin PySem.Builtin.Str
set_option autoImplicit false
structure UE (env : Env) : Prop where
  kind : env.scope.kind = .function
  text : env.kindOf "text" = some .local
  refs : env.kindOf "refs" = some .local
  parts : env.kindOf "parts" = some .local
  units : env.kindOf "units" = some .local
  place : env.kindOf "place" = some .local
  run : env.kindOf "run" = some .local
  k : env.kindOf "k" = some .local
  j : env.kindOf "j" = some .local
  c : env.kindOf "c" = some .local
  held : env.kindOf "held" = some .local
  spelled : env.kindOf "spelled" = some .local
  range : env.kindOf "range" = some .globalImplicit
  len : env.kindOf "len" = some .globalImplicit
  spell : env.kindOf "_law_spelled" = some .globalImplicit
  glob : env.globals = mainGlobals
  blt : env.builtins = builtinsNs
  inter : interactive env = false

structure UV (L Pa D d : Addr) (ps : List (Str × Tok)) (place run : Nat) (us : List (Nat × List Nat)) (m : Str → Option Value) (h : Heap) : Prop where
  refs : m "refs" = some (.ref d)
  parts : m "parts" = some (.ref Pa)
  units : m "units" = some (.ref D)
  place : ∃ t, m "place" = some (.int (place : Int) t)
  run : ∃ t, m "run" = some (.int (run : Int) t)
  lp : L < Pa
  ld : L < D
  pd : Pa ≠ D
  lst : h.IsList Pa (strValues ps).toArray
  out : ∃ vs, PlainL h D vs.toArray ∧ Us h vs us

theorem isList_kp {h h' : Heap} {L I D : Addr} {its : Array Value} (x : h.IsList D its) (hL : D ≠ L) (i : ItAt h I) (hk : Kp L I h h') : h'.IsList D its := by
  obtain ⟨o, ho, hc, r⟩ := x
  refine ⟨o, hk D o hL (fun q => ?_) ho, hc, r⟩
  obtain ⟨o', ho', hi⟩ := i
  rw [← q, ho] at ho'; obtain rfl := Option.some.inj ho'
  rcases hi with h | h | h | h <;> (rw [h] at hc; exact absurd hc (by decide))

section
variable {L Pa D d I : Addr} {ps : List (Str × Tok)} {place run : Nat} {us : List (Nat × List Nat)} {m : Str → Option Value} {h h' : Heap}
theorem UV.kp (x : UV L Pa D d ps place run us m h) (hn : h.Ns L m) (i : ItAt h I) (hk : Kp L I h h') : UV L Pa D d ps place run us m h' :=
  { x with
    lst := isList_kp x.lst (Nat.ne_of_gt x.lp) i hk
    out := let ⟨vs, a, b⟩ := x.out; ⟨vs, PlainL.kp a (Nat.ne_of_gt x.ld) i hk, b.mono (.kp hn i hk)⟩ }
theorem UV.keep (x : UV L Pa D d ps place run us m h) (hk : ∀ b o, h.get? b = some o → h'.get? b = some o) : UV L Pa D d ps place run us m h' :=
  { x with
    lst := let ⟨o, ho, r⟩ := x.lst; ⟨o, hk _ o ho, r⟩
    out := let ⟨vs, a, b⟩ := x.out; ⟨vs, a.keeps hk, b.mono (.of_keep hk)⟩ }
theorem UV.same (x : UV L Pa D d ps place run us m h) (hn : h.Ns L m) (hs : Heap.SameBut L h h') : UV L Pa D d ps place run us m h' :=
  { x with
    lst := x.lst.extBut hs.extBut (Nat.ne_of_gt x.lp)
    out := let ⟨vs, a, b⟩ := x.out; ⟨vs, a.extBut hs.extBut (Nat.ne_of_gt x.ld), b.mono (.ns hn hs)⟩ }
theorem UV.put {y : Str} {v : Value} (x : UV L Pa D d ps place run us m h) (hy : (["refs", "parts", "units", "place", "run"] : List Str).all (fun n => !(n == y)) = true) : UV L Pa D d ps place run us (put m y v) h := by
  simp only [List.all_cons, List.all_nil, Bool.and_true, Bool.and_eq_true, Bool.not_eq_true'] at hy
  obtain ⟨h1, h2, h3, h4, h5⟩ := hy
  exact { x with
    refs := put_of h1 x.refs
    parts := put_of h2 x.parts
    units := put_of h3 x.units
    place := let ⟨t, e⟩ := x.place; ⟨t, put_of h4 e⟩
    run := let ⟨t, e⟩ := x.run; ⟨t, put_of h5 e⟩ }
theorem UV.setRun {n : Nat} {t : Tok} (x : UV L Pa D d ps place run us m h) : UV L Pa D d ps place n us (Mine.put m "run" (.int n t)) h :=
  { x with
    refs := put_of (by decide +kernel) x.refs
    parts := put_of (by decide +kernel) x.parts
    units := put_of (by decide +kernel) x.units
    place := let ⟨t, e⟩ := x.place; ⟨t, put_of (by decide +kernel) e⟩
    run := ⟨t, put_eq⟩ }
theorem UV.setPlace {n : Nat} {t : Tok} (x : UV L Pa D d ps place run us m h) : UV L Pa D d ps n run us (Mine.put m "place" (.int n t)) h :=
  { x with
    refs := put_of (by decide +kernel) x.refs
    parts := put_of (by decide +kernel) x.parts
    units := put_of (by decide +kernel) x.units
    run := let ⟨t, e⟩ := x.run; ⟨t, put_of (by decide +kernel) e⟩
    place := ⟨t, put_eq⟩ }
end

section
variable {prog : Program} {w : World} {A : Around} {E : Value → Shared → Prop} {s : Shared} {env : Env} {base : Heap} {Pa D d : Addr} {ps : List (Str × Tok)} {place run : Nat} {us : List (Nat × List Nat)} {m : Str → Option Value}
  {p1 p2 p3 p4 p5 p6 p7 p8 p9 p10 p11 p12 p13 p14 p15 p16 p17 p18 p19 p20 : Pos} {k1 k2 k3 k4 k5 k6 : Nat}

/-- units.append((e₁, e₂)) -/
theorem app_unit {e₁ e₂ : Expr} {n : Nat} {cs : List Nat} {Q : Flow → Shared → Prop} (ue : UE env) (fr : Fr base env.locals s.heap m) (uv : UV env.locals Pa D d ps place run us m s.heap) (hus : us.length ≤ 16000000)
    (h1 : ∀ (E : Value → Shared → Prop) (Q : Value → Shared → Prop), (∀ t k, Q (.int (n : Int) t) { s with toks := k }) → wpAny (model prog w) A (eval e₁ env) Q E s)
    (h2 : ∀ k (E : Value → Shared → Prop) (Q : Value → Shared → Prop), (∀ t k, Q (.str (T cs) t) { s with toks := k }) → wpAny (model prog w) A (eval e₂ env) Q E { s with toks := k })
    (hq : ∀ s', Fr base env.locals s'.heap m → UV env.locals Pa D d ps place run (us ++ [(n, cs)]) m s'.heap → Sm s s' → (∀ b o, b ≠ D → s.heap.get? b = some o → s'.heap.get? b = some o) → Q .next s')
    (hst1 : starEach [e₁, e₂] env = (false, eval e₁ env) :: starEach [e₂] env) (hst2 : starEach [e₂] env = [(false, eval e₂ env)]) (hline : (p2.endLine == p3.line) = true)
    (hst : starEach [.Tuple [e₁, e₂] k1 p5] env = [(false, eval (.Tuple [e₁, e₂] k1 p5) env)]) (hs : swapsWith (.Call (.Attribute (.Name "units" p1) "append" p2) [.Tuple [e₁, e₂] k1 p5] [] p3) none p4.line env = pure false) :
    wpAny (model prog w) A (exec (.Expr (.Call (.Attribute (.Name "units" p1) "append" p2) [.Tuple [e₁, e₂] k1 p5] [] p3) p4) env) Q E s := by
  obtain ⟨vs, hpl, hU⟩ := uv.out
  refine app1 ue.kind fr uv.units hpl uv.ld ue.units (fun E => ?_) hst hline ue.inter hs (by decide +kernel)
  refine wpAny_Tuple (wpAny_items_cons (h1 _ _ fun t k => wpAny_items_cons (h2 _ _ _ fun t' k' => wpAny_items_nil ⟨by show 2 ≤ sizeLine; decide, ?_⟩) hst2) hst1)
  have hkp : ∀ (o₁ : Obj) b o, s.heap.get? b = some o → (s.heap.push o₁).get? b = some o := fun o₁ b o e => Heap.get?_push_of_some _ e
  refine ⟨hkp _, ?_, fun s' hpl' hs' fr' sm' => hq s' fr' { uv with lst := ?_, out := ⟨vs ++ [.ref s.heap.objs.size], ?_, ?_⟩ } ⟨sm'.gens, sm'.os⟩ fun b o hb e => (hs'.2 b hb).trans (hkp _ b o e)⟩
  · rw [List.size_toArray, hU.length, sizeLine_eq]; omega
  · obtain ⟨o, ho, r⟩ := uv.lst
    exact ⟨o, (hs'.2 _ uv.pd).trans (hkp _ _ o ho), r⟩
  · have e : (vs ++ [Value.ref s.heap.objs.size]).toArray = vs.toArray.push (.ref s.heap.objs.size) := by simp
    rw [e]; exact hpl'
  · have hpl₁ := hpl.keeps (hkp { cls := .type "tuple", data := .seq [Value.int (n : Int) t, Value.str (T cs) t'].toArray })
    refine ((hU.mono (.of_keep (hkp _))).mono (.list hpl₁ hs')).snoc (IsU.mono ⟨_, t, t', rfl, Heap.get?_push_size _ rfl⟩ (.list hpl₁ hs'))

def Old (L D : Addr) (h h' : Heap) : Prop := ∀ b o, b ≠ L → b ≠ D → h.get? b = some o → h'.get? b = some o
theorem Old.refl (L D : Addr) (h : Heap) : Old L D h h := fun _ _ _ _ e => e
theorem Old.trans {L D : Addr} {h h' h'' : Heap} (a : Old L D h h') (b : Old L D h' h'') : Old L D h h'' := fun x o h1 h2 e => b x o h1 h2 (a x o h1 h2 e)
theorem Old.keep {L D : Addr} {h h' : Heap} (hk : ∀ b o, h.get? b = some o → h'.get? b = some o) : Old L D h h' := fun b o _ _ e => hk b o e
theorem Old.same {L D : Addr} {h h' : Heap} (hs : Heap.SameBut L h h') : Old L D h h' := fun b _ hL _ e => (hs.2 b hL).trans e
theorem Old.kp {L D I : Addr} {h h₁ h' : Heap} (a : Old L D h h₁) (hI : h.objs.size ≤ I) (hk : Kp L I h₁ h') : Old L D h h' := fun b o hL hD e => hk b o hL (Nat.ne_of_lt (Nat.lt_of_lt_of_le (Heap.lt_size e) hI)) (a b o hL hD e)
theorem Old.iter {L D I : Addr} {h h₁ h₂ : Heap} (a : Old L D h₁ h₂) (hI : h.objs.size ≤ I) (hL : L < h.objs.size) (hD : D < h.objs.size) : ∀ o, h₁.get? I = some o → h₂.get? I = some o :=
  fun o e => a I o (Nat.ne_of_gt (Nat.lt_of_lt_of_le hL hI)) (Nat.ne_of_gt (Nat.lt_of_lt_of_le hD hI)) e

theorem dbls_succ (place n : Nat) : dbls place (n + 1) = dbls place n ++ [(place + 2 * n + 1, [92, 92])] := by unfold dbls; rw [List.range_succ, List.map_append]; rfl

/-- for j in range(run // 2): units.append((place + 2 * j + 1, '\\\\')) -/
theorem units_dbls {Q : Flow → Shared → Prop} {dd : Nat} (ue : UE env) (r : Rm A dd) (G₀ : Gl w.params base) (fr : Fr base env.locals s.heap m) (uv : UV env.locals Pa D d ps place run us m s.heap) (hus : us.length ≤ 1000000) (hrun : run ≤ 10000)
    (hq : ∀ m' s', Fr base env.locals s'.heap m' → UV env.locals Pa D d ps place run (us ++ dbls place (run / 2)) m' s'.heap → Sm s s' → Old env.locals D s.heap s'.heap → (∀ y, (y == (Str.ofString "j")) = false → m' y = m y) → Q .next s')
    (hline : (p12.endLine == p13.line) = true) :
    wpAny (model prog w) A (exec (.For (.Name "j" p1) (.Call (.Name "range" p2) [.BinOp (.Name "run" p3) .FloorDiv (.Constant (.int 2) k1 p4) p5] [] p6)
      [.Expr (.Call (.Attribute (.Name "units" p7) "append" p12) [.Tuple [.BinOp (.BinOp (.Name "place" p8) .Add (.BinOp (.Constant (.int 2) k2 p9) .Mult (.Name "j" p10) p11) p14) .Add (.Constant (.int 1) k3 p15) p16, .Constant (.str "\\\\") k4 p17] k5 p18] [] p13) p19] [] p20) env) Q E s := by
  obtain ⟨tr, hr⟩ := uv.run
  obtain ⟨vs₀, hpl₀, _⟩ := uv.out
  have hD : D < s.heap.objs.size := hpl₀.lt
  have hL : env.locals < s.heap.objs.size := fr.ns.lt
  have hdiv : Int.fdiv (run : Int) 2 = ((run / 2 : Nat) : Int) := by rw [Int.fdiv_eq_ediv_of_nonneg _ (by omega)]; omega
  refine forRange (n := run / 2) (J := fun j m' s' => UV env.locals Pa D d ps place run (us ++ dbls place j) m' s'.heap ∧ Sm s s' ∧ Old env.locals D s.heap s'.heap ∧ ∀ y, (y == (Str.ofString "j")) = false → m' y = m y) (m := m) r (by omega) (G₀.keeps fr.keep) ue.kind ue.j ue.range ue.glob ue.blt rfl
    (wpAny_BinOp (ldN fr.ns hr (wpAny_Constant_int (floordiv_int (by decide) ⟨s.toks + 1, s.toks + 1 + 1, by rw [hdiv], rfl⟩ (.inl (PyProof.noPylong_small (by decide)))) ) ue.kind ue.run (by decide +kernel))) fr ?_ ?_ ?_ ?_
  · intro s' hk sm
    exact ⟨by simpa [dbls] using uv.keep hk, sm, .keep hk, fun _ _ => rfl⟩
  · rintro I hI j m₁ s₁ s' it fr₁ ⟨uv₁, sm₁, old₁, hm₁⟩ sm kp
    exact ⟨uv₁.kp fr₁.ns it kp, sm₁.trans sm, old₁.kp hI kp, hm₁⟩
  · rintro I hI j tj m₁ s₁ hj fr₁ ⟨uv₁, sm₁, old₁, hm₁⟩ it
    have uv₁' := uv₁.put (y := "j") (v := .int j tj) (by decide +kernel)
    obtain ⟨tp, hp⟩ := uv₁'.place
    have mj : put m₁ "j" (.int j tj) "j" = some (.int j tj) := put_eq
    refine wpAny_execs_cons (app_unit (n := place + 2 * j + 1) (cs := [92, 92]) ue fr₁ uv₁' ?_ ?_ ?_ ?_ rfl rfl hline rfl rfl)
    · rw [List.length_append]; unfold dbls; rw [List.length_map, List.length_range]; omega
    · intro E Q hq
      refine wpAny_BinOp (wpAny_BinOp (ldN fr₁.ns hp (wpAny_BinOp (wpAny_Constant_int (ldN fr₁.ns mj (P.mul_int (P.add_int (wpAny_Constant_int (P.add_int ?_))) (.of_left (by decide))) ue.kind ue.j (by decide +kernel)))) ue.kind ue.place (by decide +kernel)))
      have e : (place : Int) + 2 * (j : Int) + 1 = ((place + 2 * j + 1 : Nat) : Int) := by push_cast; rfl
      rw [e]; exact hq _ _
    · intro k E Q hq
      refine wpAny_Constant_str ?_
      rw [show (Str.ofString "\\\\" : Str) = T [92, 92] by decide +kernel]
      exact hq _ _
    · intro s₂ fr₂ uv₂ sm₂ hk₂
      refine wpAny_execs_nil ⟨fun o e => hk₂ I o (Nat.ne_of_gt (Nat.lt_of_lt_of_le hD hI)) e, _, fr₂, ?_, sm₁.trans sm₂, old₁.trans fun b o _ hbD e => hk₂ b o hbD e, fun y hy => (put_ne hy).trans (hm₁ y hy)⟩
      rw [dbls_succ, ← List.append_assoc]; exact uv₂
  · rintro m' s' fr' ⟨uv', sm', old', hm'⟩
    exact hq m' s' fr' uv' sm' old' hm'

/-- for c in spelled: units.append((place, held + c)); held = ''; place = place + 1 -/
theorem units_emit {sp hd : List Nat} {ts th : Tok} {Q : Flow → Shared → Prop} {dd : Nat} (ue : UE env) (r : Rm A dd) (fr : Fr base env.locals s.heap m) (uv : UV env.locals Pa D d ps place run us m s.heap) (hus : us.length + sp.length ≤ 1000000) (hhd : hd.length ≤ 10)
    (msp : m "spelled" = some (.str (T sp) ts)) (mh : m "held" = some (.str (T hd) th))
    (hq : ∀ m' s', Fr base env.locals s'.heap m' → UV env.locals Pa D d ps (place + sp.length) run (us ++ emit place hd sp) m' s'.heap → Sm s s' → Old env.locals D s.heap s'.heap → Q .next s')
    (hline : (p5.endLine == p6.line) = true) :
    wpAny (model prog w) A (exec (.For (.Name "c" p1) (.Name "spelled" p2)
      [.Expr (.Call (.Attribute (.Name "units" p3) "append" p5) [.Tuple [.Name "place" p4, .BinOp (.Name "held" p7) .Add (.Name "c" p8) p9] k1 p10] [] p6) p11,
       .Assign [.Name "held" p12] (.Constant (.str "") k2 p13) p14, .Assign [.Name "place" p15] (.BinOp (.Name "place" p16) .Add (.Constant (.int 1) k3 p17) p18) p19] [] p20) env) Q E s := by
  obtain ⟨vs₀, hpl₀, _⟩ := uv.out
  have hD : D < s.heap.objs.size := hpl₀.lt
  have hL : env.locals < s.heap.objs.size := fr.ns.lt
  refine forStr (J := fun j m' s' => UV env.locals Pa D d ps (place + j) run (us ++ (emit place hd sp).take j) m' s'.heap ∧ (∃ t, m' "held" = some (.str (T (if j = 0 then hd else [])) t)) ∧ Sm s s' ∧ Old env.locals D s.heap s'.heap) (m := m) r ue.kind ue.c ue.spelled (by decide +kernel) fr msp ?_ ?_ ?_ ?_
  · intro s' hk sm
    exact ⟨by simpa using uv.keep hk, ⟨th, mh⟩, sm, .keep hk⟩
  · rintro I hI j m₁ s₁ s' it fr₁ ⟨uv₁, hh₁, sm₁, old₁⟩ sm kp
    exact ⟨uv₁.kp fr₁.ns it kp, hh₁, sm₁.trans sm, old₁.kp hI kp⟩
  · rintro I hI j c u m₁ s₁ hc fr₁ ⟨uv₁, ⟨th₁, hh₁⟩, sm₁, old₁⟩ it
    have uv₁' := uv₁.put (y := "c") (v := .str (T [c]) u) (by decide +kernel)
    obtain ⟨tp, hp⟩ := uv₁'.place
    have mc : put m₁ "c" (.str (T [c]) u) "c" = some (.str (T [c]) u) := put_eq
    have mh₁ : put m₁ "c" (.str (T [c]) u) "held" = some (.str (T (if j = 0 then hd else [])) th₁) := put_of (by decide +kernel) hh₁
    refine wpAny_execs_cons (app_unit (n := place + j) (cs := (if j = 0 then hd else []) ++ [c]) ue fr₁ uv₁' ?_ ?_ ?_ ?_ rfl rfl hline rfl rfl)
    · rw [List.length_append]
      have : ((emit place hd sp).take j).length ≤ sp.length := by rw [List.length_take, emit_len]; omega
      omega
    · intro E Q hq
      exact ldN fr₁.ns hp (hq tp s₁.toks) ue.kind ue.place (by decide +kernel)
    · intro k E Q hq
      refine wpAny_BinOp (ldN fr₁.ns mh₁ (ldN fr₁.ns mc (SB.add (fun t' k' => ?_) ?_) ue.kind ue.c (by decide +kernel)) ue.kind ue.held (by decide +kernel))
      · rw [T_append]; exact hq t' k'
      · rw [T_len, T_len, sizeLine_eq]
        have : (if j = 0 then hd else []).length ≤ 10 := by split; exact hhd; simp
        simp; omega
    · intro s₂ fr₂ uv₂ sm₂ hk₂
      refine wpAny_execs_cons (asg (h₀ := base) ue.kind ue.held (wpAny_Constant_str ⟨_, fr₂, fun s₃ fr₃ hs₃ sm₃ => ?_⟩) rfl)
      have uv₃ := (UV.same uv₂ fr₂.ns hs₃).put (y := "held") (v := .str (Str.ofString "") s₂.toks) (by decide +kernel)
      obtain ⟨tp₃, hp₃⟩ := uv₃.place
      refine wpAny_execs_cons (asg (h₀ := base) ue.kind ue.place (wpAny_BinOp (ldN fr₃.ns hp₃ (wpAny_Constant_int (P.add_int ⟨_, fr₃, fun s₄ fr₄ hs₄ sm₄ => wpAny_execs_nil ?_⟩)) ue.kind ue.place (by decide +kernel))) rfl)
      have e : ((place + j : Nat) : Int) + 1 = ((place + (j + 1) : Nat) : Int) := by push_cast; omega
      rw [e] at fr₄
      have uv₄ := (UV.same uv₃ fr₃.ns hs₄).setPlace (n := place + (j + 1)) (t := s₃.toks + 1)
      have o₂ : Old env.locals D s₁.heap s₂.heap := fun b o _ hbD e => hk₂ b o hbD e
      have o₄ : Old env.locals D s₁.heap s₄.heap := (o₂.trans (.same hs₃)).trans (.same hs₄)
      refine ⟨o₄.iter hI hL hD, _, fr₄, ?_, ⟨s₂.toks, ?_⟩, ⟨sm₄.gens.trans (sm₃.gens.trans (sm₂.gens.trans sm₁.gens)), sm₄.os.trans (sm₃.os.trans (sm₂.os.trans sm₁.os))⟩, old₁.trans o₄⟩
      · rw [emit_take sp place hd j c hc, ← List.append_assoc]; exact uv₄
      · rw [if_neg (Nat.succ_ne_zero j), ← show (Str.ofString "" : Str) = T [] by decide +kernel]
        exact put_of (by decide +kernel) put_eq
  · rintro m' s' fr' ⟨uv', _, sm', old'⟩
    refine hq m' s' fr' ?_ sm' old'
    rw [List.take_of_length_le (by rw [emit_len]; exact Nat.le_refl _)] at uv'
    exact uv'
end
end
end Mine

namespace Mine
section
open PySem PySem.W PyProof.Rows PySem.Builtin PySem.Builtin.Str
set_option autoImplicit false
theorem part_at {ps : List (Str × Tok)} {parts : List (List Nat)} (hps : ps.map (·.1) = parts.map T) {k : Nat} (hk : k < parts.length) : ∃ t, (strValues ps).toArray[k]? = some (.str (T (parts.getD k [])) t) := by
  have hlen : ps.length = parts.length := by have := congrArg List.length hps; simpa using this
  have h1 : (ps.map (·.1))[k]? = (parts.map T)[k]? := by rw [hps]
  rw [List.getElem?_map, List.getElem?_map, List.getElem?_eq_getElem (by omega : k < ps.length), List.getElem?_eq_getElem hk] at h1
  refine ⟨ps[k].2, ?_⟩
  rw [List.getElem?_toArray, strValues, List.getElem?_map, List.getElem?_eq_getElem (by omega : k < ps.length), List.getD_eq_getElem?_getD, List.getElem?_eq_getElem hk]
  simp only [Option.map_some, Option.some.injEq] at h1 ⊢
  rw [h1]; rfl

theorem str_ne_empty (c : List Nat) : ((T c).cps.toList != (Str.ofString "").cps.toList) = decide (c ≠ []) := by
  rw [show (Str.ofString "" : Str) = T [] by decide +kernel]
  cases c <;> simp [T]
theorem str_eq_empty (c : List Nat) : ((T c).cps.toList == (Str.ofString "").cps.toList) = decide (c = []) := by
  rw [show (Str.ofString "" : Str) = T [] by decide +kernel]
  cases c <;> simp [T]

section
variable {prog : Program} {w : World} {A : Around} {E : Value → Shared → Prop} {s : Shared} {env : Env} {base : Heap} {Pa D d : Addr} {ps : List (Str × Tok)} {place run : Nat} {us : List (Nat × List Nat)} {m : Str → Option Value}
  {p1 p2 p3 p4 p5 p6 p7 p8 p9 p10 p11 p12 p13 p14 p15 p16 p17 p18 p19 p20 : Pos} {k1 k2 k3 k4 k5 k6 : Nat}

/-- parts[k] -/
theorem units_part {parts : List (List Nat)} {k : Nat} {tk : Tok} {Q : Value → Shared → Prop} (ue : UE env) (fr : Fr base env.locals s.heap m) (uv : UV env.locals Pa D d ps place run us m s.heap) (hps : ps.map (·.1) = parts.map T) (hk : k < parts.length) (hkk : k < 100000) (mk : m "k" = some (.int (k : Int) tk))
    (hq : ∀ t, Q (.str (T (parts.getD k [])) t) s) : wpAny (model prog w) A (eval (.Subscript (.Name "parts" p1) (.Name "k" p2) p3) env) Q E s := by
  obtain ⟨t, ht⟩ := part_at hps hk
  refine Subscript_Name (ldN fr.ns uv.parts (ldN fr.ns mk ⟨"list", _, slot_list_getitem.lookup, uv.lst.typeIs, wpAny_getItem_list uv.lst (by omega) (by omega) (by rw [Int.toNat_natCast]; exact ht) (hq t)⟩ ue.kind ue.k (by decide +kernel)) ue.kind ue.parts (by decide +kernel)) (by intro _ _; rfl)

/-- parts[k] != '' or k + 1 == len(parts) -/
theorem units_test {parts : List (List Nat)} {k : Nat} {tk : Tok} {Q : Bool → Shared → Prop} {whole : Sem Value} (ue : UE env) (G : Gl w.params s.heap) (fr : Fr base env.locals s.heap m) (uv : UV env.locals Pa D d ps place run us m s.heap) (hps : ps.map (·.1) = parts.map T) (hk : k < parts.length) (hkk : parts.length < 100000) (mk : m "k" = some (.int (k : Int) tk))
    (hq : ∀ k', Q (decide (parts.getD k [] ≠ [] ∨ k + 1 = parts.length)) { s with toks := k' }) :
    wpAny (model prog w) A (isTrue (.BoolOp .Or [.Compare (.Subscript (.Name "parts" p1) (.Name "k" p2) p3) [.NotEq] [.Constant (.str "") k1 p4] p5, .Compare (.BinOp (.Name "k" p6) .Add (.Constant (.int 1) k2 p7) p8) [.Eq] [.Call (.Name "len" p9) [.Name "parts" p10] [] p11] p12] p13) env whole) Q E s := by
  refine wpAny_isTrue_BoolOp (wpAny_allTrue_Or_cons (wpAny_isTrue_Compare1 (units_part ue fr uv hps hk (by omega) mk fun t => wpAny_Constant_str (P.ne_str (wpAny_truthy_bool ?_))) rfl))
  rw [str_ne_empty]
  by_cases hne : parts.getD k [] ≠ []
  · rw [if_pos (decide_eq_true hne)]
    have := hq (s.toks + 1)
    rw [decide_eq_true (.inl hne : _ ∨ k + 1 = parts.length)] at this
    exact this
  · rw [if_neg (by simpa using hne)]
    have hsz : (strValues ps).toArray.size = parts.length := by
      have := congrArg List.length hps; simpa [strValues] using this
    refine wpAny_allTrue_Or_cons (wpAny_isTrue_Compare1 (wpAny_BinOp (ldN fr.ns mk (wpAny_Constant_int (P.add_int (callB1 (P := w.params) "len" G (by kernel_rfl) boot_len (by decide +kernel) ue.kind ue.len ue.glob ue.blt rfl (by decide +kernel)
      (ldN fr.ns uv.parts (Calls.call_len_list uv.lst (by rw [hsz]; omega) (P.eq_int (wpAny_truthy_bool ?_))) ue.kind ue.parts (by decide +kernel))))) ue.kind ue.k (by decide +kernel))) rfl)
    rw [hsz]
    have hb : (((k : Int) + 1) == (parts.length : Int)) = decide (k + 1 = parts.length) := by
      by_cases h : k + 1 = parts.length
      · rw [decide_eq_true h]; simp; omega
      · rw [decide_eq_false h]; simp; omega
    rw [hb]
    have hd : decide (parts.getD k [] ≠ [] ∨ k + 1 = parts.length) = decide (k + 1 = parts.length) := by
      by_cases h : k + 1 = parts.length
      · rw [decide_eq_true h, decide_eq_true (.inr h)]
      · rw [decide_eq_false h, decide_eq_false (by simp [h]; simpa using hne)]
    rw [hd] at hq
    cases hc : decide (k + 1 = parts.length) with
    | true => rw [if_pos rfl]; rw [hc] at hq; exact hq _
    | false => rw [if_neg Bool.false_ne_true]; rw [hc] at hq; exact wpAny_allTrue_Or_nil (hq _)

theorem held_mul (run : Nat) : Txt.mul (Str.ofString "\\") (Int.fmod (run : Int) 2) = T (heldOf run) := by
  rw [show (Str.ofString "\\" : Str) = T [92] by decide +kernel]
  have e : Int.fmod (run : Int) 2 = ((run % 2 : Nat) : Int) := by rw [Int.fmod_eq_emod_of_nonneg _ (by omega)]; omega
  rw [e]
  unfold Txt.mul heldOf
  rcases Nat.mod_two_eq_zero_or_one run with h | h <;> rw [h]
  · rw [if_pos (by decide)]; rfl
  · rw [if_neg (by decide), if_pos (by rfl)]; rfl
theorem held_ok (run : Nat) : MulOk (Str.ofString "\\") (Int.fmod (run : Int) 2) := by
  have e : Int.fmod (run : Int) 2 = ((run % 2 : Nat) : Int) := by rw [Int.fmod_eq_emod_of_nonneg _ (by omega)]; omega
  rw [e]
  rcases Nat.mod_two_eq_zero_or_one run with h | h <;> rw [h]
  · exact ⟨by decide, fun h => absurd (by decide) h, fun h => absurd (by decide) h⟩
  · exact ⟨by decide, fun _ h => absurd h (by decide), fun _ h => absurd h (by decide)⟩
end
end
end Mine

namespace Mine
section
open PySem PySem.W PyProof.Rows PySem.Builtin PySem.Builtin.Str
set_option autoImplicit false
def partsOf (l : List Nat) : List (List Nat) := (Txt.split (T l) ⟨#[92]⟩).map (·.cps.toList)
theorem partsOf_T (l : List Nat) : (partsOf l).map T = Txt.split (T l) ⟨#[92]⟩ := by
  unfold partsOf
  rw [List.map_map]
  conv => rhs; rw [← List.map_id (Txt.split (T l) ⟨#[92]⟩)]
  exact List.map_congr_left fun x _ => Str.ext' (by simp [T])
theorem partsOf_len (l : List Nat) : (partsOf l).length ≤ l.length + 1 := by
  have h := split_weight (T l) ⟨#[92]⟩ (by decide)
  unfold partsOf
  rw [List.length_map]
  have e : (T l).length = l.length := T_len l
  omega
theorem partsOf_short (l : List Nat) : ∀ p ∈ partsOf l, p.length ≤ l.length := by
  intro p hp
  obtain ⟨x, hx, rfl⟩ := List.mem_map.mp hp
  have := part_short hx
  rw [T_len] at this
  simpa [Str.length] using this

structure Gs (s s' : Shared) : Prop where
  os : s'.os = s.os
  bare : AllBare s.gens → AllBare s'.gens
  gens : ∀ (i : Nat) (g : GenState), s.gens[i]? = some g → s'.gens[i]? = some g
theorem Gs.refl (s : Shared) : Gs s s := ⟨rfl, fun h => h, fun _ _ e => e⟩
theorem Gs.trans {s s' s'' : Shared} (a : Gs s s') (b : Gs s' s'') : Gs s s'' := ⟨b.os.trans a.os, fun h => b.bare (a.bare h), fun i g e => b.gens i g (a.gens i g e)⟩
theorem Sm.gs {s s' : Shared} (a : Sm s s') : Gs s s' := ⟨a.os, fun h => a.gens ▸ h, fun _ _ e => by rw [a.gens]; exact e⟩
theorem Ok.gs {s s' : Shared} (a : Ok s s') : Gs s s' := ⟨a.os, a.bare, a.gens⟩
theorem Gs.toks {s s' : Shared} {k : Nat} (a : Gs s s') : Gs s { s' with toks := k } := ⟨a.os, a.bare, a.gens⟩
theorem Gs.ok {s s' : Shared} (a : Gs s s') (hk : ∀ b o, s.heap.get? b = some o → s'.heap.get? b = some o) : Ok s s' := ⟨hk, a.os, a.bare, a.gens⟩

abbrev unitsScope : Scope :=
  { kind := .function, names := [("text", .local), ("refs", .local), ("parts", .local), ("units", .local), ("place", .local), ("run", .local), ("k", .local), ("j", .local), ("spelled", .local), ("held", .local), ("c", .local), ("range", .globalImplicit), ("len", .globalImplicit), ("_law_spelled", .globalImplicit)],
    isGenerator := false, isCoroutine := false, more := [] }
theorem units_env (L : Addr) : UE (envOf "_law_units" unitsScope L 103 (.ref 102)) := by
  refine ⟨?_, ?_, ?_, ?_, ?_, ?_, ?_, ?_, ?_, ?_, ?_, ?_, ?_, ?_, ?_, ?_, ?_, ?_⟩ <;> kernel_rfl

section
variable {prog : Program} {w : World} {A : Around} {s : Shared} {R : Result → Shared → Prop}
set_option maxRecDepth 100000
set_option maxHeartbeats 4000000 in
theorem units_spec {l : List Nat} {t : Tok} {d : Addr} {refs : List (Nat × List Nat)} (G : Gl w.params s.heap) (r : Rm A 4) (hl : l.length ≤ 300) (hd : DRef prog w s.heap d refs) (h6 : ∀ p ∈ refs, p.2.length ≤ 6)
    (hR : ∀ D vs s', PlainL s'.heap D vs.toArray → Us s'.heap vs (uAll refs (partsOf l) (partsOf l).length).2.2 → s.heap.get? D = none → Ok s s' → R (.ok (.ret (.ref D))) s') : codeAny (model prog w) A (.call (.ref 103) ⟨[.str (T l) t, .ref d], []⟩) R s := by
  refine enter r.room (G.K 103 _ rfl) rfl G.nolimit (codeRec_of G.K (by kernel_rfl)) rfl (locs (by kernel_rfl)) (fun s₁ fr sm₁ => ?_)
  have r' : ∀ env, Rm (A.deeper env) 3 := fun env => Rm.deeper r
  obtain ⟨m₁, hm₁, hm₁d, fr⟩ : ∃ m₁, m₁ "text" = some (.str (T l) t) ∧ m₁ "refs" = some (.ref d) ∧ Fr s.heap s.heap.objs.size s₁.heap m₁ := ⟨_, rfl, rfl, fr⟩
  refine wpAny_execs_cons (asg (h₀ := s.heap) (by kernel_rfl) (by kernel_rfl) (Call_method1 rfl rfl rfl (ldN fr.ns hm₁ (on1 F.plainAttrs_str F.slot_str_split F.type_str_split (typeIs_str _ _ _) (fun _ e => nomatch e) (wpAny_Constant_str (splitN1 (hsz := by rw [T_len, sizeLine_eq]; omega) fr News.nil (by kernel_rfl) fun ps h₂ k₂ hps fr₂ ne₂ => ⟨_, fr₂, fun s₃ fr₃ hs₃ sm₃ => ?_⟩))) (by kernel_rfl) (by kernel_rfl))))
  rw [show (Str.ofString "\\" : Str) = ⟨#[92]⟩ by decide +kernel] at hps
  rw [← partsOf_T] at hps
  have hps' : ps.map (·.1) = (partsOf l).map T := hps
  have hL : s.heap.objs.size < s₁.heap.objs.size := fr.ns.lt
  obtain ⟨hPa, -, -⟩ := ne₂ _ (List.mem_cons_self ..)
  have hl₃ : s₃.heap.IsList s₁.heap.objs.size (strValues ps).toArray := ⟨_, (hs₃.2 _ (Nat.ne_of_gt hL)).trans hPa, rfl, _, rfl⟩
  generalize s₁.heap.objs.size = Pa at hL hl₃ fr₃ hPa
  have hPa₃ : Pa < s₃.heap.objs.size := by obtain ⟨o, ho, _⟩ := hl₃; exact Heap.lt_size ho
  refine wpAny_execs_cons (asg (h₀ := s.heap) (by kernel_rfl) (by kernel_rfl) (wpAny_List (wpAny_items_nil ⟨by decide, _, Fr.push fr₃ _, fun s₄ fr₄ hs₄ sm₄ => ?_⟩)))
  have hL₃ : s.heap.objs.size < s₃.heap.objs.size := fr₃.ns.lt
  have hl₄ : s₄.heap.IsList Pa (strValues ps).toArray := by
    obtain ⟨o, ho, q⟩ := hl₃
    exact ⟨o, (hs₄.2 _ (Nat.ne_of_gt hL)).trans (Heap.get?_push_of_some _ ho), q⟩
  have hD₄ : PlainL s₄.heap s₃.heap.objs.size #[] := ⟨_, _, (hs₄.2 _ (Nat.ne_of_gt hL₃)).trans (Heap.get?_push_size _ rfl), rfl, rfl, rfl⟩
  generalize s₃.heap.objs.size = D at hPa₃ hL₃ hD₄ fr₄
  refine wpAny_execs_cons (asg (h₀ := s.heap) (by kernel_rfl) (by kernel_rfl) (wpAny_Constant_int ⟨_, fr₄, fun s₅ fr₅ hs₅ sm₅ => ?_⟩))
  refine wpAny_execs_cons (asg (h₀ := s.heap) (by kernel_rfl) (by kernel_rfl) (wpAny_Constant_int ⟨_, fr₅, fun s₆ fr₆ hs₆ sm₆ => ?_⟩))
  have sm : Sm s s₆ := ⟨sm₆.gens.trans (sm₅.gens.trans (sm₄.gens.trans (sm₃.gens.trans sm₁.gens))), sm₆.os.trans (sm₅.os.trans (sm₄.os.trans (sm₃.os.trans sm₁.os)))⟩
  obtain ⟨m₆, uv₆, fr₆⟩ : ∃ m₆, UV s.heap.objs.size Pa D d ps 0 0 [] m₆ s₆.heap ∧ Fr s.heap s.heap.objs.size s₆.heap m₆ := by
    refine ⟨_, ?_, fr₆⟩
    exact {
      refs := put_of (by decide +kernel) (put_of (by decide +kernel) (put_of (by decide +kernel) (put_of (by decide +kernel) hm₁d)))
      parts := put_of (by decide +kernel) (put_of (by decide +kernel) (put_of (by decide +kernel) put_eq))
      units := put_of (by decide +kernel) (put_of (by decide +kernel) put_eq)
      place := ⟨_, put_of (by decide +kernel) put_eq⟩
      run := ⟨_, put_eq⟩
      lp := hL
      ld := hL₃
      pd := Nat.ne_of_lt hPa₃
      lst := (hl₄.extBut hs₅.extBut (Nat.ne_of_gt hL)).extBut hs₆.extBut (Nat.ne_of_gt hL)
      out := ⟨[], (hD₄.extBut hs₅.extBut (Nat.ne_of_gt hL₃)).extBut hs₆.extBut (Nat.ne_of_gt hL₃), .nil⟩ }
  clear hm₁ hm₁d fr₅ fr₄ fr₃ hs₆ hs₅ hs₄ hs₃ hl₄ hD₄ hl₃ sm₃ sm₄ sm₅ sm₆ hPa ne₂ fr₂
  have hlen : ps.length = (partsOf l).length := by have := congrArg List.length hps'; simpa using this
  have hpl : (partsOf l).length ≤ 301 := Nat.le_trans (partsOf_len l) (by omega)
  have hB : ∀ p ∈ partsOf l, (spell refs p).length ≤ 1800 := fun p hp => by
    have h1 := spell_len h6 p
    have h2 := partsOf_short l p hp
    omega
  have bd : ∀ k, k ≤ (partsOf l).length → (uAll refs (partsOf l) k).2.1 ≤ 301 ∧ (uAll refs (partsOf l) k).2.2.length ≤ 700000 ∧ (uAll refs (partsOf l) k).1 ≤ 700000 := by
    intro k hk
    obtain ⟨h1, h2, h3⟩ := uAll_bd hB k
    have : k * (k + 2 + 1800) ≤ 301 * (301 + 2 + 1800) := Nat.mul_le_mul (by omega) (by omega)
    omega
  have ue := units_env s.heap.objs.size
  have hsz : (strValues ps).toArray.size = (partsOf l).length := by simpa [strValues] using hlen
  have hDn : s.heap.get? D = none := Heap.get?_none_of_le (Nat.le_of_lt hL₃)
  have hpsh := partsOf_short l
  have hD₆ : D < s₆.heap.objs.size := by obtain ⟨_, h, _⟩ := uv₆.out; exact h.lt
  generalize hpp : partsOf l = parts at *
  refine wpAny_execs_cons (forRange (n := parts.length) (base := s.heap) (m := m₆)
    (J := fun k m s' => UV s.heap.objs.size Pa D d ps (uAll refs parts k).1 (uAll refs parts k).2.1 (uAll refs parts k).2.2 m s'.heap ∧ Gs s s' ∧ Old s.heap.objs.size D s₆.heap s'.heap)
    (r' _) (by omega) (G.keeps fr₆.keep) ue.kind ue.k ue.range ue.glob ue.blt rfl ?_ fr₆ ?_ ?_ ?_ ?_)
  · exact callB1 (P := w.params) "len" (G.keeps fr₆.keep) (by kernel_rfl) boot_len (by decide +kernel) ue.kind ue.len ue.glob ue.blt rfl (by decide +kernel)
      (ldN fr₆.ns uv₆.parts (Calls.call_len_list uv₆.lst (by rw [hsz]; omega) ⟨_, _, by rw [hsz], rfl⟩) ue.kind ue.parts (by decide +kernel))
  · intro s' hk sm'
    exact ⟨uv₆.keep hk, (sm.trans sm').gs, .keep hk⟩
  · rintro I hI j m s₁ s' it fr₁ ⟨uv₁, gs₁, old₁⟩ sm' kp
    exact ⟨uv₁.kp fr₁.ns it kp, gs₁.trans sm'.gs, old₁.kp hI kp⟩
  · rintro I hI k tk m₇ s₇ hk fr₇ ⟨uv₇, gs₇, old₇⟩ it
    have uv₇' := uv₇.put (y := "k") (v := .int k tk) (by decide +kernel)
    have mk : put m₇ "k" (.int k tk) "k" = some (.int k tk) := put_eq
    generalize put m₇ "k" (.int k tk) = m₈ at fr₇ uv₇' mk
    obtain ⟨bd1, bd2, bd3⟩ := bd k (Nat.le_of_lt hk)
    rw [uAll_succ]
    generalize uAll refs parts k = q at uv₇ uv₇' bd1 bd2 bd3
    obtain ⟨place, run, us⟩ := q
    simp only at uv₇ uv₇' bd1 bd2 bd3
    refine wpAny_execs_cons (wpAny_mono (Q := fun f s' => f = .next ∧ ∃ m', Fr s.heap s.heap.objs.size s'.heap m' ∧ UV s.heap.objs.size Pa D d ps place (uRun k run) us m' s'.heap ∧ m' "k" = some (.int k tk) ∧ Sm s₇ s' ∧ Old s.heap.objs.size D s₇.heap s'.heap) (E := fun _ _ => False) ?_ ?_ fun _ _ x => x)
    · refine wpAny_If (wpAny_isTrue_Compare1 (ldN fr₇.ns mk (wpAny_Constant_int (P.gt_int (wpAny_truthy_bool ?_))) ue.kind ue.k (by decide +kernel)) rfl)
      have e : decide ((k : Int) > 0) = decide (0 < k) := by rw [decide_eq_decide]; omega
      rw [e]
      by_cases h0 : 0 < k
      · rw [decide_eq_true h0, if_pos rfl]
        obtain ⟨tr, hr⟩ := uv₇'.run
        refine wpAny_execs_cons (asg (h₀ := s.heap) ue.kind ue.run (wpAny_BinOp (ldN (s := { s₇ with toks := s₇.toks + 1 }) fr₇.ns hr (wpAny_Constant_int (P.add_int ⟨_, fr₇, fun s₈ fr₈ hs₈ sm₈ => wpAny_execs_nil ⟨rfl, _, fr₈, ?_, put_of (by decide +kernel) mk, ⟨sm₈.gens, sm₈.os⟩, .same hs₈⟩⟩)) ue.kind ue.run (by decide +kernel))) rfl)
        have e2 : (run : Int) + 1 = ((uRun k run : Nat) : Int) := by unfold uRun; rw [if_pos h0]; push_cast; rfl
        rw [e2]
        exact (UV.same uv₇' fr₇.ns hs₈).setRun
      · rw [decide_eq_false h0, if_neg Bool.false_ne_true]
        refine wpAny_execs_nil ⟨rfl, _, fr₇, ?_, mk, ⟨rfl, rfl⟩, .refl _ _ _⟩
        unfold uRun; rw [if_neg h0]; exact uv₇'
    · rintro f s₈ ⟨rfl, m₉, fr₉, uv₉, mk₉, sm₉, old₉⟩
      have hrun : uRun k run ≤ 302 := by unfold uRun; split <;> omega
      generalize hqr : uRun k run = ru at uv₉ hrun
      refine wpAny_execs_cons (wpAny_If (units_test (parts := parts) ue (G.keeps fr₉.keep) fr₉ uv₉ hps' hk (by omega) mk₉ fun k' => ?_))
      by_cases hT : parts.getD k [] ≠ [] ∨ k + 1 = parts.length
      · rw [decide_eq_true hT, if_pos rfl]
        have eT : uTurn refs parts (place, run, us) k = (place + ru + (spell refs (parts.getD k [])).length, 0, us ++ uOut refs (parts.getD k []) place ru) := by unfold uTurn; rw [if_pos hT, hqr]
        rw [eT]
        simp only
        have gs₉ := (gs₇.trans sm₉.gs).toks (k := k')
        have o₉ := old₇.trans old₉
        change Fr _ _ ({ s₈ with toks := k' } : Shared).heap _ at fr₉
        change UV _ _ _ _ _ _ _ _ _ ({ s₈ with toks := k' } : Shared).heap at uv₉
        change Old _ _ _ ({ s₈ with toks := k' } : Shared).heap at old₉
        change Old _ _ _ ({ s₈ with toks := k' } : Shared).heap at o₉
        generalize ({ s₈ with toks := k' } : Shared) = s₉ at *
        clear uv₇ uv₇' fr₇ sm₉ mk it
        refine wpAny_execs_cons (units_dbls ue (r' _) G fr₉ uv₉ (by omega) (by omega) (fun ma sa fra uva sma olda hma => ?_) rfl)
        have mka : ma "k" = some (.int k tk) := (hma _ (by decide +kernel)).trans mk₉
        have gsa := gs₉.trans sma.gs
        obtain ⟨ta, hpa⟩ := uva.place
        obtain ⟨tb, hra⟩ := uva.run
        refine wpAny_execs_cons (asg (h₀ := s.heap) ue.kind ue.place (wpAny_BinOp (ldN fra.ns hpa (ldN fra.ns hra (P.add_int ⟨_, fra, fun sb frb hsb smb => ?_⟩) ue.kind ue.run (by decide +kernel)) ue.kind ue.place (by decide +kernel))) rfl)
        rw [show (place : Int) + (ru : Int) = ((place + ru : Nat) : Int) by push_cast; rfl] at frb
        have uvb := (UV.same uva fra.ns hsb).setPlace (n := place + ru) (t := sa.toks)
        have mkb : put ma "place" (.int ((place + ru : Nat) : Int) sa.toks) "k" = some (.int k tk) := put_of (by decide +kernel) mka
        have gsb := gsa.trans (⟨smb.gens, smb.os⟩ : Sm sa sb).gs
        have oldb : Old s.heap.objs.size D s₉.heap sb.heap := olda.trans (.same hsb)
        generalize put ma "place" (.int ((place + ru : Nat) : Int) sa.toks) = mb at frb uvb mkb
        clear hra hpa hma
        refine wpAny_execs_cons (asg (h₀ := s.heap) ue.kind ue.spelled (callG2 (P := w.params) 96 (G.keeps frb.keep) (by kernel_rfl) (by kernel_rfl) ue.kind ue.spell ue.glob rfl (by decide +kernel)
          (units_part (parts := parts) ue frb uvb hps' hk (by omega) mkb fun tp => ldN frb.ns uvb.refs ⟨G.keeps frb.keep, wpAny_call (spelled_spec (G.keeps frb.keep) (r' _) ?_ (hd.keep frb.keep) h6 fun tq sc okc => ⟨_, Fr.kept frb okc.keep, fun sd frd hsd smd => ?_⟩)⟩ ue.kind ue.refs (by decide +kernel))) rfl)
        · have : parts.getD k [] ∈ parts := by rw [List.getD_eq_getElem?_getD, List.getElem?_eq_getElem hk]; exact List.getElem_mem hk
          have := hpsh _ this
          omega
        have uvd := (UV.same (uvb.keep okc.keep) (frb.ns.keeps okc.keep) hsd).put (y := "spelled") (v := .str (T (spell refs (parts.getD k []))) tq) (by decide +kernel)
        have gsd := gsb.trans (okc.gs.trans smd.gs)
        have oldd : Old s.heap.objs.size D s₉.heap sd.heap := oldb.trans ((Old.keep okc.keep).trans (.same hsd))
        have msd : put mb "spelled" (.str (T (spell refs (parts.getD k []))) tq) "spelled" = some (.str (T (spell refs (parts.getD k []))) tq) := put_eq
        generalize put mb "spelled" (.str (T (spell refs (parts.getD k []))) tq) = md at frd uvd msd
        generalize hsp : spell refs (parts.getD k []) = sp at *
        obtain ⟨tr, hrd⟩ := uvd.run
        refine wpAny_execs_cons (asg (h₀ := s.heap) ue.kind ue.held (wpAny_BinOp (wpAny_Constant_str (wpAny_BinOp (ldN (s := { sd with toks := sd.toks + 1 }) frd.ns hrd (wpAny_Constant_int (mod_int' (by decide) (SB.mul (held_ok ru) fun th ke => ⟨_, frd, fun se fre hse sme => ?_⟩))) ue.kind ue.run (by decide +kernel))))) rfl)
        rw [held_mul] at fre
        have uve := (UV.same uvd frd.ns hse).put (y := "held") (v := .str (T (heldOf ru)) th) (by decide +kernel)
        have gse := gsd.trans (⟨sme.gens, sme.os⟩ : Sm sd se).gs
        have olde : Old s.heap.objs.size D s₉.heap se.heap := oldd.trans (.same hse)
        have mse : put md "held" (.str (T (heldOf ru)) th) "spelled" = some (.str (T sp) tq) := put_of (by decide +kernel) msd
        have mhe : put md "held" (.str (T (heldOf ru)) th) "held" = some (.str (T (heldOf ru)) th) := put_eq
        generalize put md "held" (.str (T (heldOf ru)) th) = me at fre uve mse mhe
        clear hrd msd hsd hse hsb
        have hsp' : sp.length ≤ 1800 := hsp ▸ hB _ (by rw [List.getD_eq_getElem?_getD, List.getElem?_eq_getElem hk]; exact List.getElem_mem hk)
        have hdb : (us ++ dbls place (ru / 2)).length ≤ 700200 := by rw [List.length_append]; unfold dbls; rw [List.length_map, List.length_range]; omega
        have hheld : (heldOf ru).length ≤ 1 := by unfold heldOf; rw [List.length_replicate]; omega
        refine wpAny_execs_cons (wpAny_mono (Q := fun f s' => f = .next ∧ Fr s.heap s.heap.objs.size s'.heap me ∧ UV s.heap.objs.size Pa D d ps (place + ru) ru (us ++ dbls place (ru / 2) ++ (if sp = [] ∧ heldOf ru ≠ [] then [(place + ru - 1, heldOf ru)] else [])) me s'.heap ∧ Gs se s' ∧ Old s.heap.objs.size D se.heap s'.heap) (E := fun _ _ => False) ?_ ?_ fun _ _ x => x)
        · refine wpAny_If (wpAny_isTrue_BoolOp (wpAny_allTrue_And_cons (wpAny_isTrue_Compare1 (ldN fre.ns mse (wpAny_Constant_str (P.eq_str (wpAny_truthy_bool ?_))) ue.kind ue.spelled (by decide +kernel)) rfl)))
          rw [str_eq_empty]
          by_cases h1 : sp = []
          · rw [decide_eq_true h1, if_pos rfl]
            refine wpAny_allTrue_And_cons (wpAny_isTrue_Compare1 (ldN (s := { se with toks := se.toks + 1 }) fre.ns mhe (wpAny_Constant_str (P.ne_str (wpAny_truthy_bool ?_))) ue.kind ue.held (by decide +kernel)) rfl)
            rw [str_ne_empty]
            by_cases h2 : heldOf ru ≠ []
            · rw [decide_eq_true h2, if_pos rfl, if_pos ⟨h1, h2⟩]
              refine wpAny_allTrue_And_nil ?_
              rw [if_pos rfl]
              have hru : 1 ≤ ru := by
                rcases Nat.eq_zero_or_pos ru with h | h
                · rw [h] at h2; exact absurd (by rfl) h2
                · exact h
              obtain ⟨tp, hpe⟩ := uve.place
              refine wpAny_execs_cons (app_unit (s := { se with toks := se.toks + 1 + 1 }) (n := place + ru - 1) (cs := heldOf ru) ue fre uve (by omega) ?_ ?_ (fun sx frx uvx smx hkx => wpAny_execs_nil ⟨rfl, frx, uvx, (⟨smx.gens, smx.os⟩ : Sm se sx).gs, fun b o _ hD e => hkx b o hD e⟩) rfl rfl rfl rfl rfl)
              · intro E Q hq
                refine wpAny_BinOp (ldN (s := { se with toks := se.toks + 1 + 1 }) fre.ns hpe (wpAny_Constant_int (P.sub_int ?_)) ue.kind ue.place (by decide +kernel))
                rw [show ((place + ru : Nat) : Int) - 1 = ((place + ru - 1 : Nat) : Int) by omega]
                exact hq _ _
              · intro kk E Q hq
                exact ldN (s := { se with toks := kk }) fre.ns mhe (hq th kk) ue.kind ue.held (by decide +kernel)
            · rw [decide_eq_false h2, if_neg Bool.false_ne_true, if_neg Bool.false_ne_true, if_neg (fun x : sp = [] ∧ heldOf ru ≠ [] => h2 x.2), List.append_nil]
              exact wpAny_execs_nil ⟨rfl, fre, uve, ⟨rfl, fun h => h, fun _ _ e => e⟩, .refl _ _ _⟩
          · rw [decide_eq_false h1, if_neg Bool.false_ne_true, if_neg Bool.false_ne_true, if_neg (fun x : sp = [] ∧ heldOf ru ≠ [] => h1 x.1), List.append_nil]
            exact wpAny_execs_nil ⟨rfl, fre, uve, ⟨rfl, fun h => h, fun _ _ e => e⟩, .refl _ _ _⟩
        · rintro f sf ⟨rfl, frf, uvf, gsf, oldf⟩
          have hlf : (if sp = [] ∧ heldOf ru ≠ [] then [(place + ru - 1, heldOf ru)] else []).length ≤ 1 := by split <;> simp
          generalize hx1 : (if sp = [] ∧ heldOf ru ≠ [] then [(place + ru - 1, heldOf ru)] else []) = x1 at hlf uvf
          refine wpAny_execs_cons (units_emit (sp := sp) (hd := heldOf ru) ue (r' _) frf uvf ?_ (by omega) mse mhe (fun mg sg frg uvg smg oldg => ?_) rfl)
          · rw [List.length_append]; omega
          refine wpAny_execs_cons (asg (h₀ := s.heap) ue.kind ue.run (wpAny_Constant_int ⟨_, frg, fun sh frh hsh smh => wpAny_execs_nil (wpAny_execs_nil ?_)⟩) rfl)
          have uvh := (UV.same uvg frg.ns hsh).setRun (n := 0) (t := sg.toks)
          have oldh : Old s.heap.objs.size D s₉.heap sh.heap := olde.trans (oldf.trans (oldg.trans (.same hsh)))
          unfold uOut
          rw [hsp, hx1]
          refine ⟨Old.iter (old₉.trans oldh) hI fr₆.ns.lt hD₆, _, frh, ?_, gse.trans (gsf.trans (smg.gs.trans (⟨smh.gens, smh.os⟩ : Sm sg sh).gs)), o₉.trans oldh⟩
          rw [← List.append_assoc, ← List.append_assoc]
          exact uvh
      · rw [decide_eq_false hT, if_neg Bool.false_ne_true]
        have eT : uTurn refs parts (place, run, us) k = (place, ru, us) := by unfold uTurn; rw [if_neg hT, hqr]
        rw [eT]
        exact wpAny_execs_nil (wpAny_execs_nil ⟨Old.iter (h := s₆.heap) old₉ hI fr₆.ns.lt hD₆, _, fr₉, uv₉, (gs₇.trans sm₉.gs).toks, old₇.trans old₉⟩)
  · rintro m' s' fr' ⟨uv', gs', old'⟩
    obtain ⟨vs, hpl', hU⟩ := uv'.out
    exact wpAny_execs_cons (wpAny_Return_some (ldN fr'.ns uv'.units (hR D vs s' hpl' hU hDn (gs'.ok fr'.keep)) ue.kind ue.units (by decide +kernel)))
end
end
end Mine

namespace Mine
section
open PySem PySem.Builtin PySem.Builtin.Str
set_option autoImplicit false
theorem brk_free {l : List Nat} (h : Txt.contains (T l) (T [40, 41]) = false) (p q : List Nat) : l ≠ p ++ 40 :: 41 :: q := by
  intro e
  have : Txt.contains (T l) (T [40, 41]) = true := by
    refine (StrLaws.found_iff (T l) (T [40, 41])).mpr ⟨p.length, ?_, ?_⟩
    · rw [T_len, T_len, e]; simp
    · rw [StrLaws.subAt_eq, T_list, T_list, T_len, e]; simp
  rw [h] at this; cases this

theorem join_flat (g : List Nat) : ∀ (ps : List Str) (p : Str), (Str.join (T g) (p :: ps)).cps.toList = p.cps.toList ++ ps.flatMap (fun x => g ++ x.cps.toList)
  | [], p => by show p.cps.toList = _; simp
  | q :: r, p => by
    show (p ++ T g ++ Str.join (T g) (q :: r)).cps.toList = _
    rw [Str.cps_append, Str.cps_append, Array.toList_append, Array.toList_append, join_flat g r q, T_list]
    simp
theorem brk_cut {l : List Nat} (h : Txt.contains (T l) (T [40, 41]) = true) :
    ∃ (p : List Nat) (ps : List (List Nat)), ps ≠ [] ∧ l = p ++ ps.flatMap (fun x => [40, 41] ++ x) ∧ Txt.replace (T l) (T [40, 41]) (T []) = T (p ++ ps.flatten) := by
  obtain ⟨i, hi⟩ := (StrLaws.found_iff (T l) (T [40, 41])).mp h
  obtain ⟨i, r, ho, -⟩ : ∃ i r, occurrences (T l) (T [40, 41]) 0 (T l).length ((T l).length + 1) = i :: r ∧ True := by
    rcases StrLaws.occ_head (T l) (T [40, 41]) ((T l).length + 1) (by omega) with ⟨_, h2⟩ | ⟨i, r, h2, _⟩
    · exact absurd hi (h2 i)
    · exact ⟨i, r, h2, trivial⟩
  obtain ⟨f, hf⟩ := StrLaws.occ_chain (T l) (T [40, 41]) ((T l).length + 1)
  have hj := StrLaws.join_partsFrom (T l) (T [40, 41]) _ 0 f hf
  rw [StrLaws.sub_whole] at hj
  have hr : Txt.replace (T l) (T [40, 41]) (T []) = Str.join (T []) (StrLaws.partsFrom (T l) (T [40, 41]).length 0 (occurrences (T l) (T [40, 41]) 0 (T l).length ((T l).length + 1))) := by
    unfold Txt.replace
    rw [if_neg (by rw [ho]; simp [T, Str.length]), StrLaws.glued_eq_join, StrLaws.partsBetween_eq]
  rw [ho] at hj hr
  obtain ⟨q, r', e⟩ := StrLaws.partsFrom_ne (T l) (T [40, 41]).length (i + (T [40, 41]).length) r
  rw [StrLaws.partsFrom, e] at hj hr
  refine ⟨(strSub (T l) 0 i).cps.toList, (q :: r').map (·.cps.toList), by simp, ?_, ?_⟩
  · have := congrArg (fun x : Str => x.cps.toList) hj
    rw [join_flat, T_list] at this
    rw [List.flatMap_map]; exact this.symm
  · rw [hr, ← T_of (Str.join (T []) _), join_flat]
    simp [List.flatMap_def]

theorem balF_cut (q : List (List Nat)) : ∀ (p : List (List Nat)) (n : Int), 0 ≤ n → balF n (p ++ [40] :: [41] :: q) = balF n (p ++ q)
  | [], n, h => by
    show balF n ([40] :: [41] :: q) = balF n q
    rw [balF, if_pos rfl, balF, if_neg (by decide), if_pos rfl, if_neg (by omega)]
    congr 1; omega
  | c :: p, n, h => by
    rw [List.cons_append, List.cons_append, balF, balF]
    split
    · exact balF_cut q p _ (by omega)
    · split
      · split
        · rfl
        · exact balF_cut q p _ (by omega)
      · exact balF_cut q p _ h
def bal1 (l : List Nat) : Bool := balF 0 (l.map fun c => [c])
theorem bal1_cut : ∀ (ps : List (List Nat)) (p : List Nat), bal1 (p ++ ps.flatMap (fun x => [40, 41] ++ x)) = bal1 (p ++ ps.flatten)
  | [], p => by simp
  | x :: ps, p => by
    have ih := bal1_cut ps (p ++ x)
    rw [List.flatMap_cons, List.flatten_cons, ← List.append_assoc p x, ← ih]
    unfold bal1
    have := balF_cut ((x ++ ps.flatMap (fun x => [40, 41] ++ x)).map fun c => [c]) (p.map fun c => [c]) 0 (by omega)
    simpa using this
theorem balF_open : ∀ (l : List Nat) (n : Int), 1 ≤ n → (∀ c ∈ l, c = 40) → balF n (l.map fun c => [c]) = false
  | [], n, h, _ => by simp [balF]; omega
  | c :: l, n, h, hc => by
    rw [hc c (List.mem_cons_self ..)]
    rw [List.map_cons, balF, if_pos rfl]
    exact balF_open l _ (by omega) fun c h => hc c (List.mem_cons_of_mem _ h)
theorem all_open : ∀ (l : List Nat), (∀ c ∈ l, c = 40 ∨ c = 41) → (∀ p q, 40 :: l ≠ p ++ 40 :: 41 :: q) → ∀ c ∈ l, c = 40
  | [], _, _, _, h => nomatch h
  | d :: l, hc, hf, c, hm => by
    have hd : d = 40 := by
      rcases hc d (List.mem_cons_self ..) with h | h
      · exact h
      · subst h; exact absurd rfl (hf [] l)
    subst hd
    rcases List.mem_cons.mp hm with rfl | hm
    · rfl
    · exact all_open l (fun c h => hc c (List.mem_cons_of_mem _ h)) (fun p q e => hf (40 :: p) q (by rw [e]; rfl)) c hm
theorem bal1_end {l : List Nat} (hc : ∀ c ∈ l, c = 40 ∨ c = 41) (hf : ∀ p q, l ≠ p ++ 40 :: 41 :: q) : bal1 l = decide (l = []) := by
  cases l with
  | nil => rfl
  | cons c l =>
    rw [decide_eq_false (by simp)]
    rcases hc c (List.mem_cons_self ..) with rfl | rfl
    · unfold bal1
      rw [List.map_cons, balF, if_pos rfl]
      exact balF_open l _ (by omega) (all_open l (fun c h => hc c (List.mem_cons_of_mem _ h)) hf)
    · unfold bal1
      rw [List.map_cons, balF, if_neg (by decide), if_pos rfl, if_pos (by decide)]

def isBr (x : List Nat) : Bool := x == [40] || x == [41]
def rowOf (xs : List (List Nat)) : List Nat := (xs.filter isBr).flatten
theorem rowOf_mem {xs : List (List Nat)} : ∀ c ∈ rowOf xs, c = 40 ∨ c = 41 := by
  intro c hc
  obtain ⟨x, hx, hcx⟩ := List.mem_flatten.mp hc
  have := (List.mem_filter.mp hx).2
  unfold isBr at this
  simp only [Bool.or_eq_true, beq_iff_eq] at this
  rcases this with rfl | rfl <;> simp at hcx <;> simp [hcx]
theorem balF_row : ∀ (xs : List (List Nat)) (n : Int), balF n xs = balF n ((rowOf xs).map fun c => [c])
  | [], n => rfl
  | x :: xs, n => by
    by_cases h1 : x = [40]
    · subst h1
      have e : rowOf ([40] :: xs) = 40 :: rowOf xs := by simp [rowOf, isBr]
      rw [e, List.map_cons, balF, if_pos rfl, balF, if_pos rfl]; exact balF_row xs _
    · by_cases h2 : x = [41]
      · subst h2
        have e : rowOf ([41] :: xs) = 41 :: rowOf xs := by simp [rowOf, isBr]
        rw [e, List.map_cons, balF, if_neg h1, if_pos rfl, balF, if_neg h1, if_pos rfl, balF_row xs]
      · have e : rowOf (x :: xs) = rowOf xs := by simp [rowOf, isBr, h1, h2]
        rw [e, balF, if_neg h1, if_neg h2]; exact balF_row xs n
theorem rowOf_len (xs : List (List Nat)) : (rowOf xs).length ≤ xs.length := by
  unfold rowOf
  have h : ∀ ys : List (List Nat), (∀ y ∈ ys, y.length ≤ 1) → ys.flatten.length ≤ ys.length := by
    intro ys
    induction ys with
    | nil => intro; simp
    | cons y ys ih =>
      intro h
      have h1 := h y (List.mem_cons_self ..)
      have h2 := ih fun z hz => h z (List.mem_cons_of_mem _ hz)
      rw [List.flatten_cons, List.length_append, List.length_cons]; omega
  refine Nat.le_trans (h _ fun y hy => ?_) (List.length_filter_le ..)
  have := (List.mem_filter.mp hy).2
  unfold isBr at this
  simp only [Bool.or_eq_true, beq_iff_eq] at this
  rcases this with rfl | rfl <;> simp
end
end Mine

namespace Mine
section
open PySem PySem.W PyProof.Rows PySem.Builtin PySem.Builtin.Str
set_option autoImplicit false
theorem lit2 (c : List Nat) : (((T c).cps.toList == (Str.ofString "(").cps.toList) || ((T c).cps.toList == (Str.ofString ")").cps.toList)) = isBr c := by
  rw [show (Str.ofString "(" : Str) = T [40] by decide +kernel, show (Str.ofString ")" : Str) = T [41] by decide +kernel]; rfl

def brV (v : Value) : Bool := match v with | .str x _ => isBr x.cps.toList | _ => false
theorem brV_filter : ∀ (ps : List (Str × Tok)), (strValues ps).filter brV = strValues (ps.filter fun p => isBr p.1.cps.toList)
  | [] => rfl
  | p :: ps => by
    have ih := brV_filter ps
    show ((Value.str p.1 p.2 :: strValues ps).filter brV) = _
    rw [List.filter_cons, List.filter_cons]
    show (if isBr p.1.cps.toList then _ else _) = _
    cases isBr p.1.cps.toList
    · exact ih
    · show _ :: _ = _ :: _; rw [ih]; rfl
theorem br_map {ps : List (Str × Tok)} {xs : List (List Nat)} (h : ps.map (·.1) = xs.map T) : (ps.filter fun p => isBr p.1.cps.toList).map (·.1) = (xs.filter isBr).map T := by
  have e1 : (ps.filter fun p => isBr p.1.cps.toList).map (·.1) = (ps.map (·.1)).filter (fun x => isBr x.cps.toList) := by
    rw [List.filter_map]; rfl
  rw [e1, h, List.filter_map]; rfl
theorem paired_same {vs ys : List Value} (h : Paired (fun v y => y = v) vs ys) : ys = vs := by
  induction h with
  | nil => rfl
  | cons h _ ih => rw [h, ih]
theorem vals_of {vs : List Value} {ws : List Value} (hlen : vs.length = ws.toArray.size) (hP : ∀ (j : Nat) (v : Value), vs[j]? = some v → ws.toArray[j]? = some v) : vs = ws := by
  apply List.ext_getElem?
  intro j
  by_cases h : j < vs.length
  · rw [List.getElem?_eq_getElem h]
    have := hP j _ (List.getElem?_eq_getElem h)
    rw [List.getElem?_toArray] at this
    exact this.symm
  · rw [List.getElem?_eq_none (by omega), List.getElem?_eq_none (by rw [List.size_toArray] at hlen; omega)]

theorem flat_le : ∀ (zs : List (List Nat)), zs.flatten.length + 2 * zs.length = (zs.flatMap (fun x => [40, 41] ++ x)).length
  | [] => rfl
  | z :: zs => by
    have ih := flat_le zs
    simp only [List.flatten_cons, List.flatMap_cons, List.length_append, List.length_cons, List.length_nil] at ih ⊢
    omega

section
variable {prog : Program} {w : World} {A : Around} {s : Shared} {R : Result → Shared → Prop}
set_option maxRecDepth 100000
set_option maxHeartbeats 1000000 in
theorem closes_spec {a : Addr} {ps : List (Str × Tok)} {xs : List (List Nat)} (G : Gl w.params s.heap) (r : Rm A 3) (hl : s.heap.IsList a (strValues ps).toArray) (hps : ps.map (·.1) = xs.map T) (hx : xs.length ≤ 100000)
    (hR : ∀ s', Ok s s' → R (.ok (.ret (.bool (balF 0 xs)))) s') : codeAny (model prog w) A (.call (.ref 115) ⟨[.ref a], []⟩) R s := by
  refine enter r.room (G.K 115 _ rfl) rfl G.nolimit (codeRec_of G.K (by kernel_rfl)) rfl (locs (by kernel_rfl)) (fun s₁ fr sm₁ => ?_)
  have r' : ∀ env, Rm (A.deeper env) 2 := fun env => Rm.deeper r
  obtain ⟨m₁, hm₁, fr⟩ : ∃ m₁, m₁ "signs" = some (.ref a) ∧ Fr s.heap s.heap.objs.size s₁.heap m₁ := ⟨_, rfl, fr⟩
  have hl₁ : s₁.heap.IsList a (strValues ps).toArray := let ⟨o, ho, q⟩ := hl; ⟨o, fr.keep _ _ ho, q⟩
  have ha : a < s₁.heap.objs.size := by obtain ⟨o, ho, _⟩ := hl₁; exact Heap.lt_size ho
  have hsz : (strValues ps).toArray.size = xs.length := by have := congrArg List.length hps; simpa [strValues] using this
  refine wpAny_execs_cons (asg (h₀ := s.heap) (by kernel_rfl) (by kernel_rfl) (Call_method1 rfl rfl rfl (wpAny_Constant_str (on1 F.plainAttrs_str F.slot_str_join F.type_str_join (typeIs_str _ _ _) (fun _ e => nomatch e) ?_))))
  refine wpAny_ListComp_walk brV (fun v y => y = v) (by decide +kernel) (by decide +kernel) (by kernel_rfl) (by decide +kernel) (by kernel_rfl) ?_ (by intro _; rfl)
  refine ldN (s := { s₁ with toks := s₁.toks + 1 }) fr.ns hm₁ (wpAny_pyIter_list hl₁ ?_) (by kernel_rfl) (by kernel_rfl)
  refine ⟨_, _, _, _, _, _, rfl, Walks.list (r' _).hand s₁.heap.objs.size a (Nat.ne_of_lt ha) (strValues ps).toArray, ?_, ⟨⟨_, Heap.get?_push_size _ rfl, rfl, rfl⟩, hl₁.push _⟩, ?_, ⟨?_, ?_⟩, ?_⟩
  · rw [hsz, sizeLine_eq]; omega
  · intro b hb
    show b < (s₁.heap.push _).objs.size
    rw [Heap.size_push]
    rcases List.mem_cons.mp hb with rfl | hb
    · exact Nat.lt_succ_self _
    · rw [List.mem_singleton.mp hb]; exact Nat.lt_succ_of_lt ha
  · intro C i v s₃ m₃ E' hP hn₃ hm₃ hk₃ _
    obtain ⟨p, rfl⟩ : ∃ p : Str × Tok, v = .str p.1 p.2 := by
      rw [List.getElem?_toArray, strValues, List.getElem?_map] at hP
      cases hq : ps[i]? with
      | none => rw [hq] at hP; cases hP
      | some p => rw [hq] at hP; exact ⟨p, (Option.some.inj hP).symm⟩
    rw [List.forIn_cons]
    refine wpAny_bind ?_
    rw [if_pos rfl]
    refine wpAny_bind (wpAny_isTrue_BoolOp (wpAny_allTrue_Or_cons (wpAny_isTrue_Compare1 (ldN hn₃ hm₃ (wpAny_Constant_str (P.eq_str (wpAny_truthy_bool ?_))) (by kernel_rfl) (by kernel_rfl)) rfl)))
    have e := lit2 p.1.cps.toList
    rw [T_of] at e
    have eb : brV (.str p.1 p.2) = isBr p.1.cps.toList := rfl
    rw [eb, ← e]
    cases h1 : (p.1.cps.toList == (Str.ofString "(").cps.toList)
    · rw [if_neg Bool.false_ne_true]
      refine wpAny_allTrue_Or_cons (wpAny_isTrue_Compare1 (ldN (s := { s₃ with toks := s₃.toks + 1 }) hn₃ hm₃ (wpAny_Constant_str (P.eq_str (wpAny_truthy_bool ?_))) (by kernel_rfl) (by kernel_rfl)) rfl)
      cases h2 : (p.1.cps.toList == (Str.ofString ")").cps.toList)
      · rw [if_neg Bool.false_ne_true]
        exact wpAny_allTrue_Or_nil (wpAny_pure (wpAny_pure ⟨rfl, _, _, rfl, fun _ _ e => e⟩))
      · rw [if_pos rfl]
        exact wpAny_pure (wpAny_pure ⟨rfl, _, _, rfl, fun _ _ e => e⟩)
    · rw [if_pos rfl]
      exact wpAny_pure (wpAny_pure ⟨rfl, _, _, rfl, fun _ _ e => e⟩)
  · intro C i v s₃ m₃ E' hP _ hn₃ hm₃ hk₃ _
    exact ldN hn₃ hm₃ ⟨rfl, _, _, rfl, fun _ _ e => e⟩ (by kernel_rfl) (by kernel_rfl)
  · intro D h' tk' ys vs hD hl' hpl hlen hP hF hk'
    obtain rfl := vals_of hlen hP
    have e1 := paired_same hF
    rw [brV_filter] at e1
    have hl'' : h'.IsList D (strValues (ps.filter fun p => isBr p.1.cps.toList)).toArray := by rw [← e1]; simpa using hl'
    have hk'' : ∀ b o, s₁.heap.get? b = some o → h'.get? b = some o := fun b o e => hk' b o (fun q => Nat.ne_of_lt (Heap.lt_size e) (List.mem_singleton.mp q)) (Heap.get?_push_of_some _ e)
    refine SC.join hl'' (br_map hps) (joinOk_T (N := 100000) (B := 1) (Nat.le_trans (List.length_filter_le ..) hx) (fun x hx => ?_) (by decide)) fun t' k => ⟨_, Fr.kept fr hk'', fun s₂ fr₂ hs₂ sm₂ => ?_⟩
    · have := (List.mem_filter.mp hx).2
      unfold isBr at this
      simp only [Bool.or_eq_true, beq_iff_eq] at this
      rcases this with rfl | rfl <;> simp
    · rw [join_T] at fr₂
      have e3 : (xs.filter isBr).flatten = rowOf xs := rfl
      rw [e3] at fr₂
      have hbal : balF 0 xs = bal1 (rowOf xs) := balF_row xs 0
      rw [hbal] at hR
      have sm : Sm s s₂ := ⟨sm₂.gens.trans sm₁.gens, sm₂.os.trans sm₁.os⟩
      obtain ⟨m₂, hm₂', fr₂'⟩ : ∃ m₂, m₂ "row" = some (.str (T (rowOf xs)) t') ∧ Fr s.heap s.heap.objs.size s₂.heap m₂ := ⟨_, put_eq, fr₂⟩
      have hlen := rowOf_len xs
      have hmem := @rowOf_mem xs
      clear fr₂ e3 hbal
      generalize rowOf xs = row at hR hm₂' hlen hmem
      refine wpAny_execs_cons (wpAny_While (codeAny_whileLoop (fun n s' => ∃ l t m, n = l.length ∧ m "row" = some (.str (T l) t) ∧ Fr s.heap s.heap.objs.size s'.heap m ∧ Sm s s' ∧ l.length ≤ 100000 ∧ (∀ c ∈ l, c = 40 ∨ c = 41) ∧ bal1 l = bal1 row) ?_ row.length ⟨row, t', m₂, rfl, hm₂', fr₂', sm, by omega, hmem, rfl⟩))
      rintro n s₃ ⟨l, t, m, rfl, hm, fr₃, sm₃, hll, hc, hb⟩
      refine wpAny_isTrue_Compare1 (wpAny_Constant_str (ldN (s := { s₃ with toks := s₃.toks + 1 }) fr₃.ns hm (SB.contains (wpAny_truthy_bool ?_)) (by kernel_rfl) (by kernel_rfl))) rfl
      rw [show (Str.ofString "()" : Str) = T [40, 41] by decide +kernel]
      cases hct : Txt.contains (T l) (T [40, 41])
      · rw [if_neg Bool.false_ne_true]
        refine wpAny_execs_nil (wpAny_execs_cons (wpAny_Return_some (wpAny_Compare1 (ldN (s := { s₃ with toks := s₃.toks + 1 }) fr₃.ns hm (wpAny_Constant_str (P.eq_str ?_)) (by kernel_rfl) (by kernel_rfl)) rfl)))
        rw [str_eq_empty, ← bal1_end hc (brk_free hct), hb]
        exact hR _ (Sm.ok ⟨sm₃.gens, sm₃.os⟩ fr₃.keep)
      · rw [if_pos rfl]
        obtain ⟨p, qs, hqs, e, hrep⟩ := brk_cut hct
        refine wpAny_execs_cons (asg (h₀ := s.heap) (by kernel_rfl) (by kernel_rfl) (Call_method2 rfl rfl rfl (ldN (s := { s₃ with toks := s₃.toks + 1 }) fr₃.ns hm (on2 F.plainAttrs_str F.slot_str_replace F.type_str_replace (typeIs_str _ _ _) (fun _ e => nomatch e) (wpAny_Constant_str (wpAny_Constant_str (SC.replace ?_ ?_ ?_ (by decide +kernel) ?_ fun t' k => ⟨_, fr₃, fun s₄ fr₄ hs₄ sm₄ => wpAny_execs_nil ?_⟩)))) (by kernel_rfl) (by kernel_rfl))))
        · show s₃.toks + 1 ≠ 0; omega
        · show s₃.toks + 1 + 1 ≠ 0; omega
        · show s₃.toks + 1 ≠ s₃.toks + 1 + 1; omega
        · rw [T_len]; show l.length + (l.length + 1) * 0 ≤ _; omega
        · rw [show (Str.ofString "" : Str) = T [] by decide +kernel, hrep] at fr₄
          have hlt : (p ++ qs.flatten).length < l.length := by
            rw [e]
            have h1 := flat_le qs
            have h2 : qs.length ≠ 0 := fun h => hqs (List.length_eq_zero_iff.mp h)
            rw [List.length_append, List.length_append]; omega
          refine ⟨_, hlt, p ++ qs.flatten, t', _, rfl, put_eq, fr₄, ⟨sm₄.gens.trans sm₃.gens, sm₄.os.trans sm₃.os⟩, by omega, fun c hcm => hc c ?_, ?_⟩
          · rw [e]
            rcases List.mem_append.mp hcm with h | h
            · exact List.mem_append_left _ h
            · obtain ⟨x, hx, hcx⟩ := List.mem_flatten.mp h
              exact List.mem_append_right _ (List.mem_flatMap.mpr ⟨x, hx, List.mem_append_right _ hcx⟩)
          · rw [← bal1_cut, ← e]; exact hb
end
end
end Mine

namespace Mine
section
open PySem
set_option autoImplicit false
abbrev Sgs := List (List Nat)
def fStep (q : List Sgs × Sgs) (x : List Nat) : List Sgs × Sgs := if x = [34] then (q.1 ++ [q.2], []) else (q.1, q.2 ++ [x])
def fTo (xs : Sgs) (j : Nat) : List Sgs × Sgs := (xs.take j).foldl fStep ([], [])
theorem fTo_succ {xs : Sgs} {j : Nat} {x : List Nat} (h : xs[j]? = some x) : fTo xs (j + 1) = fStep (fTo xs j) x := by
  unfold fTo; rw [List.take_add_one, h, Option.toList_some, List.foldl_append]; rfl
def fAll (xs : Sgs) : List Sgs := (fTo xs xs.length).1 ++ [(fTo xs xs.length).2]
def lTo (fs : List Sgs) (k : Nat) : Sgs := (List.range k).flatMap fun j => fs.getD (2 * j) []
theorem lTo_succ (fs : List Sgs) (k : Nat) : lTo fs (k + 1) = lTo fs k ++ fs.getD (2 * k) [] := by
  unfold lTo; rw [List.range_succ, List.flatMap_append]; simp
def outsOf (xs : Sgs) : Sgs := lTo (fAll xs) (((fAll xs).length + 1) / 2) ++ (if (fAll xs).length % 2 = 0 then [34] :: (fTo xs xs.length).2 else [])

theorem fStep_bd (N : Nat) : ∀ (xs : Sgs) (q : List Sgs × Sgs), q.1.length + (q.1.map List.length).sum + q.2.length + xs.length ≤ N → ((xs.foldl fStep q).1.length + ((xs.foldl fStep q).1.map List.length).sum + (xs.foldl fStep q).2.length ≤ N)
  | [], q, h => by simpa using h
  | x :: xs, q, h => by
    rw [List.foldl_cons]
    refine fStep_bd N xs _ ?_
    unfold fStep
    split
    · simp at h ⊢; omega
    · simp at h ⊢; omega
theorem fTo_bd (xs : Sgs) (j : Nat) : (fTo xs j).1.length + ((fTo xs j).1.map List.length).sum + (fTo xs j).2.length ≤ xs.length := by
  refine fStep_bd xs.length _ _ ?_
  simp; omega
theorem lTo_bd {fs : List Sgs} {B : Nat} (h : ∀ f ∈ fs, f.length ≤ B) : ∀ k, (lTo fs k).length ≤ k * B
  | 0 => by simp [lTo]
  | k + 1 => by
    have ih := lTo_bd h k
    rw [lTo_succ, List.length_append, Nat.add_mul, Nat.one_mul]
    have : (fs.getD (2 * k) []).length ≤ B := by
      by_cases hk : 2 * k < fs.length
      · rw [List.getD_eq_getElem?_getD, List.getElem?_eq_getElem hk]; exact h _ (List.getElem_mem hk)
      · rw [List.getD_eq_getElem?_getD, List.getElem?_eq_none (by omega)]; simp
    omega
theorem fAll_each (xs : Sgs) : ∀ f ∈ fAll xs, f.length ≤ xs.length := by
  have h := fTo_bd xs xs.length
  intro f hf
  rcases List.mem_append.mp hf with hf | hf
  · have : f.length ≤ ((fTo xs xs.length).1.map List.length).sum := by
      have : ∀ (l : List Sgs), f ∈ l → f.length ≤ (l.map List.length).sum := by
        intro l
        induction l with
        | nil => intro h; cases h
        | cons a l ih =>
          intro h
          rw [List.map_cons, List.sum_cons]
          rcases List.mem_cons.mp h with rfl | h
          · omega
          · have := ih h; omega
      exact this _ hf
    omega
  · rw [List.mem_singleton.mp hf]; omega
theorem fAll_len (xs : Sgs) : (fAll xs).length ≤ xs.length + 1 := by
  have h := fTo_bd xs xs.length
  unfold fAll; rw [List.length_append, List.length_singleton]; omega
end
end Mine

namespace Mine
section
open PySem PySem.W PyProof.Rows PySem.Builtin PySem.Builtin.Str
set_option autoImplicit false
/-- a list of texts -/
def TL (h : Heap) (a : Addr) (xs : Sgs) : Prop := ∃ ps : List (Str × Tok), PlainL h a (strValues ps).toArray ∧ ps.map (·.1) = xs.map T
def PK (h h' : Heap) (a : Addr) : Prop := ∀ its, PlainL h a its → PlainL h' a its
theorem TL.pk {h h' : Heap} {a : Addr} {xs : Sgs} (x : TL h a xs) (k : PK h h' a) : TL h' a xs := let ⟨ps, a, b⟩ := x; ⟨ps, k _ a, b⟩
theorem TL.keep {h h' : Heap} {a : Addr} {xs : Sgs} (x : TL h a xs) (k : ∀ b o, h.get? b = some o → h'.get? b = some o) : TL h' a xs := x.pk fun _ y => y.keeps k
theorem TL.nil {h : Heap} {a : Addr} (x : PlainL h a #[]) : TL h a [] := ⟨[], x, rfl⟩
inductive LLs (h : Heap) : List Addr → List Sgs → Prop
  | nil : LLs h [] []
  | cons {a : Addr} {x : Sgs} {as : List Addr} {xs : List Sgs} : TL h a x → LLs h as xs → LLs h (a :: as) (x :: xs)
theorem LLs.pk {h h' : Heap} {as : List Addr} {xs : List Sgs} (x : LLs h as xs) (k : ∀ a ∈ as, PK h h' a) : LLs h' as xs := by
  induction x with
  | nil => exact .nil
  | cons a _ ih => exact .cons (a.pk (k _ (List.mem_cons_self ..))) (ih fun b hb => k b (List.mem_cons_of_mem _ hb))
theorem LLs.snoc {h : Heap} {as : List Addr} {xs : List Sgs} {a : Addr} {x : Sgs} (y : LLs h as xs) (z : TL h a x) : LLs h (as ++ [a]) (xs ++ [x]) := by
  induction y with
  | nil => exact .cons z .nil
  | cons a _ ih => exact .cons a ih
theorem LLs.length {h : Heap} {as : List Addr} {xs : List Sgs} (y : LLs h as xs) : as.length = xs.length := by
  induction y with
  | nil => rfl
  | cons _ _ ih => simp [ih]
theorem LLs.at {h : Heap} {as : List Addr} {xs : List Sgs} (y : LLs h as xs) : ∀ {k : Nat}, k < xs.length → ∃ a, as[k]? = some a ∧ TL h a (xs.getD k []) := by
  induction y with
  | nil => intro k hk; cases hk
  | cons a _ ih =>
    intro k hk
    cases k with
    | zero => exact ⟨_, rfl, a⟩
    | succ k =>
      obtain ⟨b, h1, h2⟩ := ih (k := k) (by simpa using hk)
      exact ⟨b, by simpa using h1, by simpa using h2⟩

structure OV (L Fa : Addr) (as : List Addr) (c : Addr) (q : List Sgs × Sgs) (m : Str → Option Value) (h : Heap) : Prop where
  fields : m "fields" = some (.ref Fa)
  lf : L < Fa
  lst : PlainL h Fa ((as ++ [c]).map Value.ref).toArray
  ini : LLs h as q.1
  cur : TL h c q.2
  sep : ∀ a ∈ as, a ≠ c ∧ a ≠ Fa ∧ L < a
  cf : c ≠ Fa
  lc : L < c
theorem OV.pk {L Fa : Addr} {as : List Addr} {c : Addr} {q : List Sgs × Sgs} {m : Str → Option Value} {h h' : Heap} (x : OV L Fa as c q m h) (k : ∀ a, L < a → PK h h' a) : OV L Fa as c q m h' :=
  { x with
    lst := k _ x.lf _ x.lst
    ini := x.ini.pk fun a ha => k a (x.sep a ha).2.2
    cur := x.cur.pk (k _ x.lc) }
theorem OV.put {L Fa : Addr} {as : List Addr} {c : Addr} {q : List Sgs × Sgs} {m : Str → Option Value} {h : Heap} {y : Str} {v : Value} (x : OV L Fa as c q m h) (hy : (Str.ofString "fields" == y) = false) : OV L Fa as c q (Mine.put m y v) h :=
  { x with fields := put_of hy x.fields }
theorem pk_keep {h h' : Heap} (k : ∀ b o, h.get? b = some o → h'.get? b = some o) (a : Addr) : PK h h' a := fun _ x => x.keeps k
theorem pk_same {h h' : Heap} {L a : Addr} (k : Heap.SameBut L h h') (hL : L < a) : PK h h' a := fun _ x => x.extBut k.extBut (Nat.ne_of_gt hL)
theorem pk_kp {h h' : Heap} {L I a : Addr} (i : ItAt h I) (k : Kp L I h h') (hL : L < a) : PK h h' a := fun _ x => PlainL.kp x (Nat.ne_of_gt hL) i k
theorem it_ne {h : Heap} {I a : Addr} {its : Array Value} (i : ItAt h I) (x : PlainL h a its) : I ≠ a := by
  rintro rfl
  obtain ⟨o, ho, hi⟩ := i
  obtain ⟨o', n, ho', hc, _⟩ := x
  rw [ho] at ho'; obtain rfl := Option.some.inj ho'
  rcases hi with h | h | h | h <;> (rw [h] at hc; exact absurd hc (by decide))

section
variable {prog : Program} {w : World} {A : Around} {E : Value → Shared → Prop} {s : Shared} {env : Env} {base : Heap} {m : Str → Option Value}

theorem addL {l b : Addr} {vs ws : List Value} {Q : Value → Shared → Prop} (hl : s.heap.IsList l vs.toArray) (hb : s.heap.IsList b ws.toArray)
    (hsz : vs.length + ws.length ≤ sizeLine)
    (h : ∀ h', (∀ b o, s.heap.get? b = some o → h'.get? b = some o) → PlainL h' s.heap.objs.size (vs ++ ws).toArray → Q (.ref s.heap.objs.size) { s with heap := h' }) :
    wpAny (model prog w) A (binaryOp .Add (.ref l) (.ref b)) Q E s := by
  obtain ⟨⟨cls, dd, data, sl⟩, ho, hc, n, hd⟩ := id hl
  obtain ⟨⟨cls2, dd2, data2, sl2⟩, ho2, hc2, n2, hd2⟩ := id hb
  simp only at hc hd hc2 hd2
  subst hc hd hc2 hd2
  have e : vs.toArray ++ ws.toArray = (vs ++ ws).toArray := by simp
  refine concat_meets ⟨_, ho, rfl⟩ ⟨_, ho2, rfl⟩ noFill_list_add seq_list_add PySem.F.slot_list_add PySem.F.entry_list_add (PySem.F.args_list_add_2 _ _) (list_addW l b vs.toArray ws.toArray n n2 dd dd2 sl sl2 (by simpa using hsz)) ⟨ho, ho2, ?_⟩
  rw [e]
  exact h _ (fun b o e => Heap.get?_push_of_some _ e) ⟨_, _, Heap.get?_push_size _ rfl, rfl, rfl, rfl⟩
theorem addTL {l b : Addr} {xs ys : Sgs} {Q : Value → Shared → Prop} (hl : TL s.heap l xs) (hb : TL s.heap b ys) (hsz : xs.length + ys.length ≤ 10000000)
    (h : ∀ D h', (∀ b o, s.heap.get? b = some o → h'.get? b = some o) → TL h' D (xs ++ ys) → s.heap.objs.size ≤ D → Q (.ref D) { s with heap := h' }) :
    wpAny (model prog w) A (binaryOp .Add (.ref l) (.ref b)) Q E s := by
  obtain ⟨ps, hl, e1⟩ := hl
  obtain ⟨qs, hb, e2⟩ := hb
  have l1 := congrArg List.length e1
  have l2 := congrArg List.length e2
  simp only [List.length_map] at l1 l2
  refine addL hl.isList hb.isList (by rw [sizeLine_eq]; simp only [strValues, List.length_map]; omega) fun h' hk hp => h _ _ hk ⟨ps ++ qs, ?_, ?_⟩ (Nat.le_refl _)
  · have : strValues ps ++ strValues qs = strValues (ps ++ qs) := by simp [strValues]
    rw [← this]; exact hp
  · rw [List.map_append, List.map_append, e1, e2]

/-- for x in range(0, n, 2): .. -/
theorem forRange2_small (n : Nat) (hn : n ≤ 100000) : Builtin.Range.small 0 (n : Int) 2 = true := by
  have hsz : Builtin.Range.rangeSize 0 (n : Int) 2 = (((n + 1) / 2 : Nat) : Int) := by rw [rangeSize_pos (by omega) (by omega)]; omega
  unfold Builtin.Range.small
  rw [hsz]
  have h : ∀ z : Int, -1000000 ≤ z → z ≤ 1000000 → Builtin.Range.rangeFitsLong z = true := fun z h1 h2 => by
    unfold Builtin.Range.rangeFitsLong
    simp only [Bool.and_eq_true, decide_eq_true_eq]; omega
  rw [h 0 (by omega) (by omega), h n (by omega) (by omega), h 2 (by omega) (by omega), h _ (by omega) (by omega), if_pos (by decide), h _ (by omega) (by omega)]
  simp
theorem forRange2 {x : Str} {px p1 p2 p3 p4 p5 : Pos} {k1 k2 : Nat} {e : Expr} {body : List Stmt} {n : Nat} {J : Nat → (Str → Option Value) → Shared → Prop} {m : Str → Option Value} {Q : Flow → Shared → Prop} {d : Nat}
    (r : Rm A d) (hn : n ≤ 100000) (G : Gl w.params s.heap) (hk : env.scope.kind = .function) (hx : env.kindOf x = some .local) (hxr : env.kindOf "range" = some .globalImplicit) (hg : env.globals = mainGlobals) (hb : env.builtins = builtinsNs)
    (hst : starEach [.Constant (.int 0) k1 p4, e, .Constant (.int 2) k2 p5] env = [(false, eval (.Constant (.int 0) k1 p4) env), (false, eval e env), (false, eval (.Constant (.int 2) k2 p5) env)])
    (he : wpAny (model prog w) A (eval e env) (fun v s₁ => ∃ t k, v = .int (n : Int) t ∧ s₁ = { s with toks := k }) E { s with toks := s.toks + 1 }) (fr : Fr base env.locals s.heap m)
    (j0 : ∀ s', (∀ b o, s.heap.get? b = some o → s'.heap.get? b = some o) → Sm s s' → J 0 m s')
    (hJ : ∀ I, s.heap.objs.size ≤ I → ∀ j m s s', ItAt s.heap I → Fr base env.locals s.heap m → J j m s → Sm s s' → Kp env.locals I s.heap s'.heap → J j m s')
    (hturn : ∀ I, s.heap.objs.size ≤ I → ∀ j t m s₁, j < (n + 1) / 2 → Fr base env.locals s₁.heap (put m x (.int ((2 * j : Nat) : Int) t)) → J j m s₁ → ItAt s₁.heap I →
      wpAny (model prog w) A (execs body env) (fun f s₂ => match f with
        | .next | .cont => (∀ o, s₁.heap.get? I = some o → s₂.heap.get? I = some o) ∧ ∃ m', Fr base env.locals s₂.heap m' ∧ J (j + 1) m' s₂
        | .brk => False
        | .ret v => Q (.ret v) s₂) (fun _ _ => False) s₁)
    (hend : ∀ m s', Fr base env.locals s'.heap m → J ((n + 1) / 2) m s' → Q .next s') :
    wpAny (model prog w) A (exec (.For (.Name x px) (.Call (.Name "range" p1) [.Constant (.int 0) k1 p4, e, .Constant (.int 2) k2 p5] [] p2) body [] p3) env) Q E s := by
  have hsz : Builtin.Range.rangeSize 0 (n : Int) 2 = (((n + 1) / 2 : Nat) : Int) := by rw [rangeSize_pos (by omega) (by omega)]; omega
  refine wpAny_For ?_ (by intro _; rfl)
  show wpAny (model prog w) A (do callWith p2 (← eval (.Name "range" p1) env) [] (backTo p2 (starEach [.Constant (.int 0) k1 p4, e, .Constant (.int 2) k2 p5] env)) (backToKw p2 (keywordEach [] env))) _ E s
  rw [hst]
  refine wpAny_bind (nm_blt (P := w.params) G (by kernel_rfl) boot_range (by decide +kernel) ?_ hk hxr hg hb (by decide +kernel))
  refine PySem.callWith_type rfl (Calls.evalArgs_plain (Calls.spliced_cons (wpAny_Constant_int (k := k1) (pos := p4) (Calls.spliced_cons (wpAny_mono he (fun v s₁ h₁ => ?_) fun _ _ x => x)))))
  obtain ⟨t, k, rfl, rfl⟩ := h₁
  refine Calls.spliced_cons (wpAny_Constant_int (k := k2) (pos := p5) (Calls.spliced_nil ?_))
  refine call_range_3 (by decide) (wpAny_pyIter_range (IsRange.new ..) ?_ ?_) (.inl (PyProof.noPylong_small (by decide)))
  · exact forRange2_small n hn
  rw [hsz]
  have hL : env.locals < s.heap.objs.size := fr.ns.lt
  have hkeep : ∀ (o₁ o₂ : Obj) b o, s.heap.get? b = some o → ((s.heap.push o₁).push o₂).get? b = some o := fun o₁ o₂ b o e => Heap.get?_push_of_some _ (Heap.get?_push_of_some _ e)
  have hI : ∀ o₁ : Obj, s.heap.objs.size ≤ (s.heap.push o₁).objs.size := fun o₁ => by rw [Heap.size_push]; omega
  refine for_walk (J := J) (m := m) (Walks.range r.hand _ 0 2 ((n + 1) / 2)) (fun i h st => itAt_range st) hk hx ?_ (Fr.kept fr (hkeep _ _)) (j0 _ (hkeep _ _) ⟨rfl, rfl⟩) ?_ (Nat.lt_of_lt_of_le hL (hI _)) (hJ _ (hI _)) ?_ hend
  · have e := Heap.get?_push_size (s.heap.push { cls := .type "range", data := .fields #[.int 0 s.toks, .int n t, .int 2 k] }) (o := { cls := .type "range_iterator", data := .fields #[rawInt 0, rawInt (((n + 1) / 2 : Nat) : Int), rawInt 2] }) rfl
    simpa using e
  · exact fun q => Nat.ne_of_lt (Nat.lt_of_lt_of_le hL (hI _)) (List.mem_singleton.mp q)
  · rintro j v m s₁ hj ⟨tv, rfl⟩ fr₁ j₁ it₁
    have e : (0 : Int) + (j : Int) * 2 = ((2 * j : Nat) : Int) := by omega
    rw [e] at fr₁
    refine wpAny_mono (hturn _ (hI _) j tv m s₁ hj fr₁ j₁ it₁) (fun f s₂ h₂ => ?_) fun _ _ x => x
    cases f with
    | next => exact ⟨fun b hb o e => by rw [List.mem_singleton.mp hb] at e ⊢; exact h₂.1 o e, h₂.2⟩
    | cont => exact ⟨fun b hb o e => by rw [List.mem_singleton.mp hb] at e ⊢; exact h₂.1 o e, h₂.2⟩
    | brk => exact h₂
    | ret v => exact h₂

theorem sg_at {ps : List (Str × Tok)} {xs : Sgs} (h : ps.map (·.1) = xs.map T) {j : Nat} {v : Value} (hv : (strValues ps).toArray[j]? = some v) : ∃ x t, xs[j]? = some x ∧ v = .str (T x) t := by
  rw [List.getElem?_toArray, strValues, List.getElem?_map] at hv
  cases hq : ps[j]? with
  | none => rw [hq] at hv; cases hv
  | some p =>
    rw [hq] at hv
    have e := Option.some.inj hv
    have h1 : (ps.map (·.1))[j]? = (xs.map T)[j]? := by rw [h]
    rw [List.getElem?_map, List.getElem?_map, hq] at h1
    cases hx : xs[j]? with
    | none => rw [hx] at h1; cases h1
    | some x =>
      rw [hx] at h1
      have e2 : p.1 = T x := Option.some.inj h1
      exact ⟨x, p.2, rfl, by rw [← e, ← e2]⟩
theorem last_at {as : List Addr} {c : Addr} : ((as ++ [c]).map Value.ref).toArray[((-1 : Int) + (((as ++ [c]).map Value.ref).toArray.size : Int)).toNat]? = some (.ref c) := by
  have e : ((-1 : Int) + (((as ++ [c]).map Value.ref).toArray.size : Int)).toNat = as.length := by simp; omega
  rw [e, List.getElem?_toArray, List.getElem?_map, List.getElem?_append_right (Nat.le_refl _)]; simp
end

section
variable {prog : Program} {w : World} {A : Around} {s : Shared} {R : Result → Shared → Prop}
set_option maxRecDepth 100000
set_option maxHeartbeats 4000000 in
theorem outside_spec {a : Addr} {ps : List (Str × Tok)} {xs : Sgs} (G : Gl w.params s.heap) (r : Rm A 3) (hl : s.heap.IsList a (strValues ps).toArray) (hps : ps.map (·.1) = xs.map T) (hx : xs.length ≤ 2000)
    (hR : ∀ D s', TL s'.heap D (outsOf xs) → Ok s s' → R (.ok (.ret (.ref D))) s') : codeAny (model prog w) A (.call (.ref 110) ⟨[.ref a], []⟩) R s := by
  refine enter r.room (G.K 110 _ rfl) rfl G.nolimit (codeRec_of G.K (by kernel_rfl)) rfl (locs (by kernel_rfl)) (fun s₁ fr sm₁ => ?_)
  have r' : ∀ env, Rm (A.deeper env) 2 := fun env => Rm.deeper r
  obtain ⟨m₁, hm₁, fr⟩ : ∃ m₁, m₁ "signs" = some (.ref a) ∧ Fr s.heap s.heap.objs.size s₁.heap m₁ := ⟨_, rfl, fr⟩
  have hL₁ : s.heap.objs.size < s₁.heap.objs.size := fr.ns.lt
  obtain ⟨oa, hoa, hoa'⟩ := hl
  have hla : ∀ {h : Heap}, (∀ b o, s.heap.get? b = some o → h.get? b = some o) → h.IsList a (strValues ps).toArray := fun k => ⟨oa, k _ _ hoa, hoa'⟩
  have haL : a ≠ s.heap.objs.size := Nat.ne_of_lt (Heap.lt_size hoa)
  refine wpAny_execs_cons (asg (h₀ := s.heap) (by kernel_rfl) (by kernel_rfl) (wpAny_List (wpAny_items_cons (wpAny_List (wpAny_items_nil ⟨by decide, wpAny_items_nil ⟨by show 1 ≤ sizeLine; decide, _, Fr.push (Fr.push fr _) _, fun s₂ fr₂ hs₂ sm₂ => ?_⟩⟩)) rfl)) rfl)
  have sm : Sm s s₂ := ⟨sm₂.gens.trans sm₁.gens, sm₂.os.trans sm₁.os⟩
  obtain ⟨m₂, Fa, c, ov₂, hms₂, fr₂'⟩ : ∃ m₂ Fa c, OV s.heap.objs.size Fa [] c ([], []) m₂ s₂.heap ∧ m₂ "signs" = some (.ref a) ∧ Fr s.heap s.heap.objs.size s₂.heap m₂ := by
    refine ⟨_, (s₁.heap.push { cls := .type "list", data := .seq #[] }).objs.size, s₁.heap.objs.size, ?_, put_of (by decide +kernel) hm₁, fr₂⟩
    have hlt : s₁.heap.objs.size < (s₁.heap.push { cls := .type "list", data := .seq #[] }).objs.size := by rw [Heap.size_push]; exact Nat.lt_succ_self _
    have hL₂ := Nat.lt_trans hL₁ hlt
    exact {
      fields := put_eq
      lf := hL₂
      lst := ⟨_, _, (hs₂.2 _ (Nat.ne_of_gt hL₂)).trans (Heap.get?_push_size _ rfl), rfl, rfl, rfl⟩
      ini := .nil
      cur := .nil ⟨_, _, (hs₂.2 _ (Nat.ne_of_gt hL₁)).trans (Heap.get?_push_of_some _ (Heap.get?_push_size _ rfl)), rfl, rfl, rfl⟩
      sep := fun _ h => nomatch h
      cf := Nat.ne_of_lt hlt
      lc := hL₁ }
  clear fr₂ hs₂
  have hsz : (strValues ps).toArray.size = xs.length := by have := congrArg List.length hps; simpa [strValues] using this
  refine wpAny_execs_cons (forList (base := s.heap) (m := m₂) (items := (strValues ps).toArray) (J := fun j m s' => (∃ as c, OV s.heap.objs.size Fa as c (fTo xs j) m s'.heap) ∧ Sm s s')
    (r' _) (by kernel_rfl) (by kernel_rfl) (by kernel_rfl) (by decide +kernel) fr₂' hms₂ (hla fr₂'.keep) haL ?_ ?_ ?_ ?_)
  · intro s' hk sm'
    exact ⟨⟨[], c, ov₂.pk fun b _ => pk_keep hk b⟩, sm.trans sm'⟩
  · rintro I hI j m s₁ s' it fr₁ ⟨⟨as, c, ov⟩, sm₁⟩ sm' kp
    exact ⟨⟨as, c, ov.pk fun b hb => pk_kp it kp hb⟩, sm₁.trans sm'⟩
  · rintro I hI j v m s₃ hv fr₃ ⟨⟨as, c, ov⟩, sm₃⟩ it
    obtain ⟨x, tx, hxj, rfl⟩ := sg_at hps hv
    have ov' := ov.put (y := "sign") (v := .str (T x) tx) (by decide +kernel)
    have msg : put m "sign" (.str (T x) tx) "sign" = some (.str (T x) tx) := put_eq
    generalize put m "sign" (.str (T x) tx) = m₄ at fr₃ ov' msg
    have hbd := fTo_bd xs j
    have hal := ov'.ini.length
    rw [fTo_succ hxj]
    generalize fTo xs j = q at ov' hbd hal ov
    have key : ∀ s₄ : Shared, Fr s.heap s.heap.objs.size s₄.heap m₄ → ∀ o, s₃.heap.get? a = some o → s₄.heap.get? a = some o := fun s₄ fr₄ o ho => by
      rw [fr₃.keep _ _ hoa] at ho; obtain rfl := Option.some.inj ho; exact fr₄.keep _ _ hoa
    refine wpAny_execs_cons (wpAny_If (wpAny_isTrue_Compare1 (ldN fr₃.ns msg (wpAny_Constant_str (P.eq_str (wpAny_truthy_bool ?_))) (by kernel_rfl) (by kernel_rfl)) rfl))
    rw [quote_eq]
    by_cases hq : x = [34]
    · rw [decide_eq_true hq, if_pos rfl]
      refine wpAny_execs_cons (app1 (s := { s₃ with toks := s₃.toks + 1 }) (by kernel_rfl) fr₃ ov'.fields ov'.lst ov'.lf (by kernel_rfl) (fun E => wpAny_List (wpAny_items_nil ⟨by decide, fun b o e => Heap.get?_push_of_some _ e, ?_, fun s₄ pl₄ hs₄ fr₄ sm₄ => wpAny_execs_nil (wpAny_execs_nil ⟨fun o e => ?_, key s₄ fr₄, _, fr₄, ⟨as ++ [c], s₃.heap.objs.size, ?_⟩, ⟨sm₄.gens.trans sm₃.gens, sm₄.os.trans sm₃.os⟩⟩)⟩)) rfl rfl rfl rfl (by decide +kernel))
      · simp; rw [sizeLine_eq]; omega
      · exact (hs₄.2 I (it_ne it ov'.lst)).trans (Heap.get?_push_of_some _ e)
      · have hF : Fa < s₃.heap.objs.size := ov'.lst.lt
        have hpk : ∀ b, b ≠ Fa → PK s₃.heap s₄.heap b := fun b hb its y => (PlainL.keeps y fun _ _ e => Heap.get?_push_of_some _ e).extBut hs₄.extBut hb
        have hcc : c < s₃.heap.objs.size := by obtain ⟨_, y, _⟩ := ov'.cur; exact y.lt
        unfold fStep
        rw [if_pos hq]
        exact {
          fields := ov'.fields
          lf := ov'.lf
          lst := by
            have e : ((as ++ [c] ++ [s₃.heap.objs.size]).map Value.ref).toArray = ((as ++ [c]).map Value.ref).toArray.push (.ref s₃.heap.objs.size) := by simp
            rw [e]; exact pl₄
          ini := (ov'.ini.pk fun b hb => hpk b (ov'.sep b hb).2.1).snoc (ov'.cur.pk (hpk c ov'.cf))
          cur := .nil ⟨_, _, (hs₄.2 _ (Nat.ne_of_gt hF)).trans (Heap.get?_push_size _ rfl), rfl, rfl, rfl⟩
          sep := fun b hb => by
            rcases List.mem_append.mp hb with h | h
            · refine ⟨Nat.ne_of_lt ?_, (ov'.sep b h).2⟩
              obtain ⟨k, hk, rfl⟩ := List.mem_iff_getElem.mp h
              obtain ⟨b', h1, _, h2, _⟩ := ov'.ini.at (k := k) (by omega)
              rw [List.getElem?_eq_getElem hk] at h1
              rw [Option.some.inj h1]; exact h2.lt
            · rw [List.mem_singleton.mp h]; exact ⟨Nat.ne_of_lt hcc, ov'.cf, ov'.lc⟩
          cf := Nat.ne_of_gt hF
          lc := Nat.lt_trans ov'.lc hcc }
    · rw [decide_eq_false hq, if_neg Bool.false_ne_true]
      obtain ⟨qs, hpc, hqs⟩ := ov'.cur
      have lq := congrArg List.length hqs
      simp only [List.length_map] at lq
      refine wpAny_execs_cons (wpAny_Expr (wpAny_Call_append rfl rfl rfl rfl (Subscript_UnaryOp (ldN (s := { s₃ with toks := s₃.toks + 1 }) fr₃.ns ov'.fields (wpAny_UnaryOp (wpAny_Constant_int (P.neg_int ⟨"list", _, slot_list_getitem.lookup, ov'.lst.isList.typeIs, wpAny_getItem_list_neg (x := .ref c) ov'.lst.isList (by decide) ?_ (by decide) last_at ⟨c, _, rfl, hpc, ldN fr₃.ns msg (list_append_plainL hpc (fun h₄ pl₄ hs₄ => wpAny_execs_nil (wpAny_execs_nil ⟨fun o e => (hs₄.2 I (it_ne it hpc)).trans e, ?_⟩)) ?_) (by kernel_rfl) (by kernel_rfl)⟩⟩))) (by kernel_rfl) (by kernel_rfl)) (by intro _ _; rfl))) rfl rfl)
      · simp; omega
      · have fr₄ : Fr s.heap s.heap.objs.size h₄ m₄ := Fr.other fr₃ hs₄ (Nat.ne_of_gt ov'.lc) (Fr.fresh fr₃ ov'.lc)
        have hpk : ∀ b, b ≠ c → PK s₃.heap h₄ b := fun b hb its y => y.extBut hs₄.extBut hb
        refine ⟨fun o ho => ?_, _, fr₄, ⟨as, c, ?_⟩, ⟨sm₃.gens, sm₃.os⟩⟩
        · rw [fr₃.keep _ _ hoa] at ho; obtain rfl := Option.some.inj ho; exact fr₄.keep _ _ hoa
        · unfold fStep
          rw [if_neg hq]
          exact { ov' with
            lst := hpk _ (Ne.symm ov'.cf) _ ov'.lst
            ini := ov'.ini.pk fun b hb => hpk b (ov'.sep b hb).1
            cur := ⟨qs ++ [(T x, tx)], by
              have e : (strValues (qs ++ [(T x, tx)])).toArray = (strValues qs).toArray.push (.str (T x) tx) := by simp [strValues]
              rw [e]; exact pl₄, by rw [List.map_append, List.map_append, hqs]; rfl⟩ }
      · simp [strValues]; rw [sizeLine_eq]; omega
  · rintro m₅ s₅ fr₅ ⟨⟨as, c, ov⟩, sm₅⟩
    rw [hsz] at ov
    have hall := fAll_each xs
    have hfl := fAll_len xs
    have hbd := fTo_bd xs xs.length
    have hout : outsOf xs = lTo (fAll xs) (((fAll xs).length + 1) / 2) ++ (if (fAll xs).length % 2 = 0 then [34] :: (fTo xs xs.length).2 else []) := rfl
    rw [hout] at hR
    have hll : ∀ {h : Heap} {m : Str → Option Value}, OV s.heap.objs.size Fa as c (fTo xs xs.length) m h → LLs h (as ++ [c]) (fAll xs) := fun o => o.ini.snoc o.cur
    have hal : (as ++ [c]).length = (fAll xs).length := (hll ov).length
    generalize hfs : fAll xs = fs at *
    generalize hqq : fTo xs xs.length = q at *
    clear hout
    refine wpAny_execs_cons (asg (h₀ := s.heap) (by kernel_rfl) (by kernel_rfl) (wpAny_List (wpAny_items_nil ⟨by decide, _, Fr.push fr₅ _, fun s₆ fr₆ hs₆ sm₆ => ?_⟩)) rfl)
    have hL₅ : s.heap.objs.size < s₅.heap.objs.size := fr₅.ns.lt
    have ov₆ := (ov.pk (h' := s₆.heap) fun b hb its y => (PlainL.keeps y fun _ _ e => Heap.get?_push_of_some _ e).extBut hs₆.extBut (Nat.ne_of_gt hb)).put (y := "left") (v := .ref s₅.heap.objs.size) (by decide +kernel)
    obtain ⟨m₆, D₆, ov₆, hD₆, hlD₆, ml₆, fr₆'⟩ : ∃ m₆ D, OV s.heap.objs.size Fa as c q m₆ s₆.heap ∧ TL s₆.heap D [] ∧ s.heap.objs.size < D ∧ m₆ "left" = some (.ref D) ∧ Fr s.heap s.heap.objs.size s₆.heap m₆ :=
      ⟨_, _, ov₆, .nil ⟨_, _, (hs₆.2 _ (Nat.ne_of_gt hL₅)).trans (Heap.get?_push_size _ rfl), rfl, rfl, rfl⟩, hL₅, put_eq, fr₆⟩
    have sm₆' : Sm s s₆ := ⟨sm₆.gens.trans sm₅.gens, sm₆.os.trans sm₅.os⟩
    clear fr₆ hs₆
    have hlen : ∀ {h : Heap} {m : Str → Option Value}, OV s.heap.objs.size Fa as c q m h → ((as ++ [c]).map Value.ref).toArray.size = fs.length := fun _ => by rw [List.size_toArray, List.length_map]; exact hal
    refine wpAny_execs_cons (forRange2 (n := fs.length) (base := s.heap) (m := m₆) (J := fun k m s' => OV s.heap.objs.size Fa as c q m s'.heap ∧ (∃ D, TL s'.heap D (lTo fs k) ∧ s.heap.objs.size < D ∧ m "left" = some (.ref D)) ∧ Sm s s')
      (r' _) (by omega) (G.keeps fr₆'.keep) (by kernel_rfl) (by kernel_rfl) (by kernel_rfl) (by kernel_rfl) (by kernel_rfl) rfl ?_ fr₆' ?_ ?_ ?_ ?_)
    · refine callB1 (P := w.params) "len" (s := { s₆ with toks := s₆.toks + 1 }) (G.keeps fr₆'.keep) (by kernel_rfl) boot_len (by decide +kernel) (by kernel_rfl) (by kernel_rfl) (by kernel_rfl) (by kernel_rfl) rfl (by decide +kernel)
        (ldN (s := { s₆ with toks := s₆.toks + 1 }) fr₆'.ns ov₆.fields (Calls.call_len_list ov₆.lst.isList (by rw [hlen ov₆]; omega) ⟨_, _, by rw [hlen ov₆], rfl⟩) (by kernel_rfl) (by kernel_rfl))
    · intro s' hk sm'
      exact ⟨ov₆.pk fun b _ => pk_keep hk b, ⟨D₆, hD₆.keep hk, hlD₆, ml₆⟩, sm₆'.trans sm'⟩
    · rintro I hI j m s₁ s' it fr₁ ⟨ov, ⟨D, hD, hlD, ml⟩, sm₁⟩ sm' kp
      exact ⟨ov.pk fun b hb => pk_kp it kp hb, ⟨D, hD.pk (pk_kp it kp hlD), hlD, ml⟩, sm₁.trans sm'⟩
    · rintro I hI j tj m s₇ hj fr₇ ⟨ov, ⟨D, hD, hlD, ml⟩, sm₇⟩ it
      have ov' := ov.put (y := "k") (v := .int ((2 * j : Nat) : Int) tj) (by decide +kernel)
      have mk : put m "k" (.int ((2 * j : Nat) : Int) tj) "k" = some (.int ((2 * j : Nat) : Int) tj) := put_eq
      have ml' : put m "k" (.int ((2 * j : Nat) : Int) tj) "left" = some (.ref D) := put_of (by decide +kernel) ml
      generalize put m "k" (.int ((2 * j : Nat) : Int) tj) = m₈ at fr₇ ov' mk ml'
      have hlt : 2 * j < fs.length := by omega
      obtain ⟨b, hb1, hb2⟩ := (hll ov).at (k := 2 * j) hlt
      have hlb := lTo_bd hall j
      have hjB : j * xs.length ≤ 2001 * 2000 := Nat.mul_le_mul (by omega) hx
      have hfb : (fs.getD (2 * j) []).length ≤ 2000 := by
        rw [List.getD_eq_getElem?_getD, List.getElem?_eq_getElem hlt]; exact Nat.le_trans (hall _ (List.getElem_mem hlt)) hx
      refine wpAny_execs_cons (asg (h₀ := s.heap) (by kernel_rfl) (by kernel_rfl) (wpAny_BinOp (ldN fr₇.ns ml' (Subscript_Name (ldN fr₇.ns ov'.fields (ldN fr₇.ns mk ⟨"list", _, slot_list_getitem.lookup, ov'.lst.isList.typeIs, wpAny_getItem_list (x := .ref b) ov'.lst.isList (by omega) (by omega) ?_ (addTL hD hb2 (by omega) fun D' h₈ hk₈ hD₈ hn₈ => ⟨_, Fr.kept fr₇ hk₈, fun s₉ fr₉ hs₉ sm₉ => wpAny_execs_nil ?_⟩)⟩ (by kernel_rfl) (by kernel_rfl)) (by kernel_rfl) (by kernel_rfl)) (by intro _ _; rfl)) (by kernel_rfl) (by kernel_rfl))) rfl)
      · rw [Int.toNat_natCast, List.getElem?_toArray, List.getElem?_map, hb1]; rfl
      · have hlD' : s.heap.objs.size < D' := Nat.lt_of_lt_of_le fr₇.ns.lt hn₈
        have ov₉ := (ov'.pk (h' := s₉.heap) fun b hb its y => (PlainL.keeps y hk₈).extBut hs₉.extBut (Nat.ne_of_gt hb)).put (y := "left") (v := .ref D') (by decide +kernel)
        refine ⟨fun o e => (hs₉.2 I ?_).trans (hk₈ I o e), _, fr₉, ov₉, ⟨D', ?_, hlD', put_eq⟩, ⟨sm₉.gens.trans sm₇.gens, sm₉.os.trans sm₇.os⟩⟩
        · exact Nat.ne_of_gt (Nat.lt_of_lt_of_le fr₆'.ns.lt hI)
        · rw [lTo_succ]; exact hD₈.pk (pk_same hs₉ hlD')
    · rintro m₇ s₇ fr₇ ⟨ov, ⟨D, hD, hlD, ml⟩, sm₇⟩
      have hlb := lTo_bd hall ((fs.length + 1) / 2)
      have hjB : (fs.length + 1) / 2 * xs.length ≤ 2001 * 2000 := Nat.mul_le_mul (by omega) hx
      refine wpAny_execs_cons (wpAny_If (wpAny_isTrue_Compare1 (wpAny_BinOp (callB1 (P := w.params) "len" (G.keeps fr₇.keep) (by kernel_rfl) boot_len (by decide +kernel) (by kernel_rfl) (by kernel_rfl) (by kernel_rfl) (by kernel_rfl) rfl (by decide +kernel)
        (ldN fr₇.ns ov.fields (Calls.call_len_list ov.lst.isList (by rw [hlen ov]; omega) (wpAny_Constant_int (mod_int' (by decide) (wpAny_Constant_int (P.eq_int (wpAny_truthy_bool ?_)))))) (by kernel_rfl) (by kernel_rfl)))) rfl))
      rw [hlen ov]
      have e : (Int.fmod (fs.length : Int) 2 == 0) = decide (fs.length % 2 = 0) := by
        rw [Int.fmod_eq_emod_of_nonneg _ (by omega)]
        by_cases h : fs.length % 2 = 0
        · rw [decide_eq_true h]; simp; omega
        · rw [decide_eq_false h]; simp; omega
      rw [e]
      by_cases h2 : fs.length % 2 = 0
      · rw [decide_eq_true h2, if_pos rfl]
        rw [if_pos h2] at hR
        refine wpAny_execs_cons (asg (h₀ := s.heap) (by kernel_rfl) (by kernel_rfl) (wpAny_BinOp (wpAny_BinOp (ldN (s := { s₇ with toks := _ }) fr₇.ns ml (wpAny_List (wpAny_items_cons (wpAny_Constant_str (wpAny_items_nil ⟨by show 1 ≤ sizeLine; decide, addTL (ys := [[34]]) (hD.keep fun b o e => Heap.get?_push_of_some _ e) ⟨[(Str.ofString "\"", _)], ⟨_, _, Heap.get?_push_size _ rfl, rfl, rfl, rfl⟩, by show [Str.ofString "\""] = [T [34]]; rw [show (Str.ofString "\"" : Str) = T [34] by decide +kernel]⟩ (by simp; omega) fun D' h₈ hk₈ hD₈ hn₈ => ?_⟩)) rfl)) (by kernel_rfl) (by kernel_rfl)))) rfl)
        have hk₈' : ∀ b o, s₇.heap.get? b = some o → h₈.get? b = some o := fun b o e => hk₈ b o (Heap.get?_push_of_some _ e)
        have ov₈ := ov.pk fun b _ => pk_keep hk₈' b
        have fr₈ := Fr.kept fr₇ hk₈'
        refine Subscript_UnaryOp (ldN fr₈.ns ov₈.fields (wpAny_UnaryOp (wpAny_Constant_int (P.neg_int ⟨"list", _, slot_list_getitem.lookup, ov₈.lst.isList.typeIs, wpAny_getItem_list_neg (x := .ref c) ov₈.lst.isList (by decide) ?_ (by decide) last_at (addTL hD₈ ov₈.cur ?_ fun D₉ h₉ hk₉ hD₉ hn₉ => ⟨_, Fr.kept fr₈ hk₉, fun s₉ fr₉ hs₉ sm₉ => wpAny_execs_nil (wpAny_execs_cons (wpAny_Return_some (ldN fr₉.ns put_eq (hR D₉ s₉ ?_ (Sm.ok ⟨sm₉.gens.trans sm₇.gens, sm₉.os.trans sm₇.os⟩ fr₉.keep)) (by kernel_rfl) (by kernel_rfl))))⟩)⟩))) (by kernel_rfl) (by kernel_rfl)) (by intro _ _; rfl)
        · simp; omega
        · simp; omega
        · have e9 : lTo fs ((fs.length + 1) / 2) ++ [34] :: q.2 = lTo fs ((fs.length + 1) / 2) ++ [[34]] ++ q.2 := by simp
          rw [e9]
          exact hD₉.pk (pk_same hs₉ (Nat.lt_of_lt_of_le fr₈.ns.lt hn₉))
      · rw [decide_eq_false h2, if_neg Bool.false_ne_true]
        rw [if_neg h2, List.append_nil] at hR
        refine wpAny_execs_nil (wpAny_execs_cons (wpAny_Return_some (ldN fr₇.ns ml (hR D _ hD ?_) (by kernel_rfl) (by kernel_rfl))))
        exact Sm.ok ⟨sm₇.gens, sm₇.os⟩ fr₇.keep
end
end
end Mine

namespace Mine
section
open PySem PySem.W PyProof.Rows PySem.Builtin PySem.Builtin.Str
set_option autoImplicit false
inductive CPs : List (Option Expr) → List Expr → List (Nat × List Nat) → Prop
  | nil : CPs [] [] []
  | cons {k z : Str} {c : Nat} {zs : List Nat} {n n' : Nat} {p p' : Pos} {ks : List (Option Expr)} {vs : List Expr} {refs : List (Nat × List Nat)} (hk : k = T [c]) (hz : z = T zs) (r : CPs ks vs refs) :
    CPs (some (.Constant (.str k) n p) :: ks) (.Constant (.str z) n' p' :: vs) ((c, zs) :: refs)
theorem CPs.lens {ks : List (Option Expr)} {vs : List Expr} {refs : List (Nat × List Nat)} (x : CPs ks vs refs) : ks.all (·.isSome) = true ∧ ks.length = vs.length ∧ ks.length = refs.length := by
  induction x with
  | nil => exact ⟨rfl, rfl, rfl⟩
  | cons _ _ _ ih => exact ⟨by simpa using ih.1, by simp [ih.2.1], by simp [ih.2.2]⟩
theorem KvR.keys {kvs : List (Str × Value)} {refs : List (Nat × List Nat)} (x : KvR kvs refs) : kvs.map (·.1) = refs.map fun p => T [p.1] := by
  induction x with
  | nil => rfl
  | cons _ ih => simp [ih]

structure WR (prog : Program) (w : World) (l : List Nat) (lo : Nat) (h : Heap) (v : Value) (refs : List (Nat × List Nat)) : Prop where
  ex : ∃ a t d, v = .ref a ∧ h.get? a = some { cls := .type "tuple", data := .seq #[.str (T (spell refs l)) t, .ref d] } ∧ DRef prog w h d refs ∧ lo ≤ d
theorem WR.keep {prog : Program} {w : World} {l : List Nat} {lo : Nat} {h h' : Heap} {v : Value} {refs : List (Nat × List Nat)} (x : WR prog w l lo h v refs) (k : ∀ b o, h.get? b = some o → h'.get? b = some o) : WR prog w l lo h' v refs :=
  let ⟨a, t, d, e, ho, hd, hlo⟩ := x.ex; ⟨a, t, d, e, k _ _ ho, hd.keep k, hlo⟩

section
variable {prog : Program} {w : World} {A : Around} {E : Value → Shared → Prop} {s : Shared} {env : Env} {base : Heap} {m : Str → Option Value}

theorem cps_walk {pos : Pos} {ks : List (Option Expr)} {vs : List Expr} {refs : List (Nat × List Nat)} (x : CPs ks vs refs) : ∀ {s : Shared} {Q : List (Value × Value) → Shared → Prop},
    (∀ us kvs k, Carries (PySem.strKind prog w) us kvs → KvR kvs refs → Q us { s with toks := k }) → wpAny (model prog w) A (evalPairs (pairTrees ks vs env pos)) Q E s := by
  induction x with
  | nil => intro s Q h; exact pairTrees_nil_walk (h [] [] s.toks trivial .nil)
  | cons hk hz _ ih =>
    intro s Q h
    subst hk hz
    refine pairTrees_cons_walk (wpAny_Constant_str (wpAny_Constant_str (ih fun us kvs k hc hkv => h _ ((T [_], .str (T _) (s.toks + 1)) :: kvs) _ ⟨PySem.strKind_is prog w _ _, rfl, hc⟩ (.cons hkv))))

theorem sys_lt (G : Gl w.params s.heap) : (s.heap.objs.size == sysModules) = false := by
  have h : 120 < s.heap.objs.size := Heap.lt_size (G.K 120 _ rfl)
  have h2 : sysModules ≤ 120 := by decide
  exact beq_false_of_ne (Nat.ne_of_gt (Nat.lt_of_le_of_lt h2 h))

theorem dict_disp {pos : Pos} {ks : List (Option Expr)} {vs : List Expr} {refs : List (Nat × List Nat)} {Q : Value → Shared → Prop} (G : Gl w.params s.heap) (x : CPs ks vs refs) (h0 : refs ≠ []) (hn : (refs.map (·.1)).Nodup) (hl : refs.length ≤ 15)
    (hq : ∀ d h' k, (∀ b o, s.heap.get? b = some o → h'.get? b = some o) → DRef prog w h' d refs → s.heap.objs.size ≤ d → Q (.ref d) { s with heap := h', toks := k }) : wpAny (model prog w) A (eval (.Dict ks vs pos) env) Q E s := by
  obtain ⟨h1, h2, h3⟩ := x.lens
  refine wpAny_Dict_walk (knd := PySem.strKind prog w) h1 h2 (fun e => h0 (List.length_eq_zero_iff.mp (by rw [← h3, e]; rfl))) (by omega) ?_
  refine cps_walk (prog := prog) (w := w) x fun us kvs k hc hkv => ⟨kvs, hc, Heap.DictOf.new _, fun h' hd hs => hq _ h' _ (fun b o e => (hs.2 b (Nat.ne_of_lt (Heap.lt_size e))).trans (Heap.get?_push_of_some _ e)) ⟨sys_lt G, kvs, ?_, hkv⟩ (Nat.le_refl _)⟩
  rw [merged_nil_of_nodup] at hd
  · exact hd
  · rw [hkv.keys]
    have : refs.map (fun p => T [p.1]) = (refs.map (·.1)).map fun c => T [c] := by rw [List.map_map]; rfl
    rw [this]
    exact List.Pairwise.map _ (fun a b e h => e (by simpa using T_inj h)) hn

theorem wr_tuple {x : Str} (f : Addr) {refs : List (Nat × List Nat)} {l : List Nat} {t : Tok} {ks : List (Option Expr)} {vs : List Expr} {p1 p2 p3 p4 p5 : Pos} {kk : Nat} {Q : Value → Shared → Prop} (G : Gl w.params base) (fr : Fr base env.locals s.heap m) (hm : m "text" = some (.str (T l) t))
    (hx : nsIn (KP w.params) mainGlobals x = some (some (.ref f))) (hf : fnIn (KP w.params) f = true) (hk : env.scope.kind = .function) (hxk : env.kindOf x = some .globalImplicit) (htk : env.kindOf "text" = some .local) (hg : env.globals = mainGlobals)
    (hd : (x == ("__debug__" : Str)) = false) (cps : CPs ks vs refs) (h0 : refs ≠ []) (hn : (refs.map (·.1)).Nodup) (hl : refs.length ≤ 15)
    (esc : ∀ {R : Result → Shared → Prop} {s : Shared}, Gl w.params s.heap → (∀ t' s', Ok s s' → R (.ok (.ret (.str (T (spell refs l)) t'))) s') → codeAny (model prog w) A (.call (.ref f) ⟨[.str (T l) t], []⟩) R s)
    (hq : ∀ v s', Ok s s' → Fr base env.locals s'.heap m → WR prog w l base.objs.size s'.heap v refs → Q v s')
    (hst1 : starEach [.Call (.Name x p1) [.Name "text" p2] [] p3, .Dict ks vs p4] env = (false, eval (.Call (.Name x p1) [.Name "text" p2] [] p3) env) :: starEach [.Dict ks vs p4] env) (hst2 : starEach [.Dict ks vs p4] env = [(false, eval (.Dict ks vs p4) env)]) :
    wpAny (model prog w) A (eval (.Tuple [.Call (.Name x p1) [.Name "text" p2] [] p3, .Dict ks vs p4] kk p5) env) Q E s := by
  have G₁ : Gl w.params s.heap := G.keeps fr.keep
  refine wpAny_Tuple (wpAny_items_cons (callG1 (P := w.params) f G₁ hx hf hk hxk hg rfl hd (ldN fr.ns hm ⟨G₁, wpAny_call (esc G₁ fun t' s₁ ok₁ => wpAny_items_cons (dict_disp (G₁.keeps ok₁.keep) cps h0 hn hl fun d h' k hk' hd' hlo => wpAny_items_nil ⟨by show 2 ≤ sizeLine; decide, ?_⟩) hst2)⟩ hk htk (by decide +kernel))) hst1)
  have hkp : ∀ (o : Obj) b o', s₁.heap.get? b = some o' → (h'.push o).get? b = some o' := fun o b o' e => Heap.get?_push_of_some _ (hk' b o' e)
  exact hq _ _ (ok₁.trans (Ok.of (hkp _))) (Fr.kept fr fun b o e => hkp _ b o (ok₁.keep b o e)) ⟨_, t', d, rfl, Heap.get?_push_size _ rfl, hd'.keep fun b o e => Heap.get?_push_of_some _ e, Nat.le_trans (Nat.le_trans fr.above (Nat.le_of_lt (Fr.kept fr ok₁.keep).ns.lt)) hlo⟩

set_option maxRecDepth 100000
set_option maxHeartbeats 4000000 in
theorem writ_spec {R : Result → Shared → Prop} {l : List Nat} {t : Tok} (G : Gl w.params s.heap) (r : Rm A 3) (hl : l.length ≤ 1000)
    (hR : ∀ D v1 v2 v3 v4 v5 s', PlainL s'.heap D #[v1, v2, v3, v4, v5] → WR prog w l s.heap.objs.size s'.heap v1 rCdata → WR prog w l s.heap.objs.size s'.heap v2 rAttrib → WR prog w l s.heap.objs.size s'.heap v3 rHtml → WR prog w l s.heap.objs.size s'.heap v4 rCdataC → WR prog w l s.heap.objs.size s'.heap v5 rAttribC → Ok s s' → R (.ok (.ret (.ref D))) s') :
    codeAny (model prog w) A (.call (.ref 91) ⟨[.str (T l) t], []⟩) R s := by
  refine enter r.room (G.K 91 _ rfl) rfl G.nolimit (codeRec_of G.K (by kernel_rfl)) rfl (locs (by kernel_rfl)) (fun s₁ fr sm₁ => ?_)
  have r' : ∀ env, Rm (A.deeper env) 2 := fun env => Rm.deeper r
  obtain ⟨m₁, hm₁, fr⟩ : ∃ m₁, m₁ "text" = some (.str (T l) t) ∧ Fr s.heap s.heap.objs.size s₁.heap m₁ := ⟨_, rfl, fr⟩
  refine wpAny_execs_cons (wpAny_Return_some (wpAny_List ?_))
  refine wpAny_items_cons (wr_tuple 49 (refs := rCdata) G fr hm₁ (by kernel_rfl) (by kernel_rfl) (by kernel_rfl) (by kernel_rfl) (by kernel_rfl) (by kernel_rfl) (by decide +kernel) ?c1 (by decide) (by decide) (by decide) (fun G h => cdata_spec G (r' _) hl h) (fun v1 s2 ok1 fr1 w1 => ?_) rfl rfl) rfl
  case c1 => repeat (first | exact .nil | refine .cons (by decide +kernel) (by decide +kernel) ?_)
  refine wpAny_items_cons (wr_tuple 56 (refs := rAttrib) G fr1 hm₁ (by kernel_rfl) (by kernel_rfl) (by kernel_rfl) (by kernel_rfl) (by kernel_rfl) (by kernel_rfl) (by decide +kernel) ?c2 (by decide) (by decide) (by decide) (fun G h => attrib_spec G (r' _) hl h) (fun v2 s3 ok2 fr2 w2 => ?_) rfl rfl) rfl
  case c2 => repeat (first | exact .nil | refine .cons (by decide +kernel) (by decide +kernel) ?_)
  refine wpAny_items_cons (wr_tuple 63 (refs := rHtml) G fr2 hm₁ (by kernel_rfl) (by kernel_rfl) (by kernel_rfl) (by kernel_rfl) (by kernel_rfl) (by kernel_rfl) (by decide +kernel) ?c3 (by decide) (by decide) (by decide) (fun G h => html_spec G (r' _) hl h) (fun v3 s4 ok3 fr3 w3 => ?_) rfl rfl) rfl
  case c3 => repeat (first | exact .nil | refine .cons (by decide +kernel) (by decide +kernel) ?_)
  refine wpAny_items_cons (wr_tuple 70 (refs := rCdataC) G fr3 hm₁ (by kernel_rfl) (by kernel_rfl) (by kernel_rfl) (by kernel_rfl) (by kernel_rfl) (by kernel_rfl) (by decide +kernel) ?c4 (by decide) (by decide) (by decide) (fun G h => cdataC_spec G (r' _) hl h) (fun v4 s5 ok4 fr4 w4 => ?_) rfl rfl) rfl
  case c4 => repeat (first | exact .nil | refine .cons (by decide +kernel) (by decide +kernel) ?_)
  refine wpAny_items_cons (wr_tuple 77 (refs := rAttribC) G fr4 hm₁ (by kernel_rfl) (by kernel_rfl) (by kernel_rfl) (by kernel_rfl) (by kernel_rfl) (by kernel_rfl) (by decide +kernel) ?c5 (by decide) (by decide) (by decide) (fun G h => attribC_spec G (r' _) hl h) (fun v5 s6 ok5 fr5 w5 => ?_) rfl rfl) rfl
  case c5 => repeat (first | exact .nil | refine .cons (by decide +kernel) (by decide +kernel) ?_)
  have hkp : ∀ (o₁ : Obj) b o, s6.heap.get? b = some o → (s6.heap.push o₁).get? b = some o := fun o₁ b o e => Heap.get?_push_of_some _ e
  refine wpAny_items_nil ⟨by show 5 ≤ sizeLine; decide, hR _ v1 v2 v3 v4 v5 _ ⟨_, _, Heap.get?_push_size _ rfl, rfl, rfl, rfl⟩ ?_ ?_ ?_ ?_ ?_ ?_⟩
  · exact w1.keep fun b o e => hkp _ b o (ok5.keep b o (ok4.keep b o (ok3.keep b o (ok2.keep b o e))))
  · exact w2.keep fun b o e => hkp _ b o (ok5.keep b o (ok4.keep b o (ok3.keep b o e)))
  · exact w3.keep fun b o e => hkp _ b o (ok5.keep b o (ok4.keep b o e))
  · exact w4.keep fun b o e => hkp _ b o (ok5.keep b o e)
  · exact w5.keep fun b o e => hkp _ b o e
  · have ok := (((ok1.trans ok2).trans ok3).trans ok4).trans ok5
    have hg := sm₁.gs.trans ok.gs
    exact ⟨fun b o e => hkp _ b o (fr5.keep b o e), hg.os, hg.bare, hg.gens⟩
end
end
end Mine

namespace Mine
section
open PySem PySem.W PyProof.Rows PySem.Builtin PySem.Builtin.Str
set_option autoImplicit false
def Pcs (h : Heap) (a : Addr) : Prop := ∃ ps : List (Str × Tok), PlainL h a (strValues ps).toArray ∧ ps.length = 16 ∧ (ps.map (·.1)).all (fun x => decide (x.length ≤ 4)) = true
theorem Pcs.pk {h h' : Heap} {a : Addr} (x : Pcs h a) (k : PK h h' a) : Pcs h' a := let ⟨ps, a, b⟩ := x; ⟨ps, k _ a, b⟩
theorem Pcs.at {h : Heap} {a : Addr} (x : Pcs h a) : ∃ its, h.IsList a its ∧ ∀ k : Nat, k < 16 → ∃ l t, its[k]? = some (.str (T l) t) ∧ l.length ≤ 4 := by
  obtain ⟨ps, hp, hl, ha⟩ := x
  refine ⟨_, hp.isList, fun k hk => ?_⟩
  have hk' : k < ps.length := by omega
  refine ⟨ps[k].1.cps.toList, ps[k].2, ?_, ?_⟩
  · rw [List.getElem?_toArray, strValues, List.getElem?_map, List.getElem?_eq_getElem hk', T_of]; rfl
  · have := List.all_eq_true.mp ha ps[k].1 (List.mem_map.mpr ⟨_, List.getElem_mem hk', rfl⟩)
    exact of_decide_eq_true this
theorem ints_at {vs : List Value} {ns : List Int} (h : IntsAre vs ns) {j : Nat} {v : Value} (hv : vs.toArray[j]? = some v) : ∃ n t, v = .int n t := by
  rw [List.getElem?_toArray] at hv
  induction h generalizing j with
  | nil => cases hv
  | cons n t _ ih =>
    cases j with
    | zero => exact ⟨n, t, (Option.some.inj hv).symm⟩
    | succ j => exact ih (by simpa using hv)

inductive SLits : List Expr → List Str → Prop
  | nil : SLits [] []
  | cons {z : Str} {n : Nat} {p : Pos} {es : List Expr} {zs : List Str} (r : SLits es zs) : SLits (.Constant (.str z) n p :: es) (z :: zs)
theorem lits {M : Model} {A : Around} {E : Value → Shared → Prop} {env : Env} {pos : Pos} {es : List Expr} {zs : List Str} (x : SLits es zs) : ∀ {s : Shared} {Q : List Value → Shared → Prop},
    (∀ ps k, ps.map (·.1) = zs → Q (strValues ps) { s with toks := k }) → wpAny M A (spliced (backTo pos (starEach es env))) Q E s := by
  induction x with
  | nil => intro s Q h; exact wpAny_items_nil (h [] s.toks rfl)
  | cons _ ih =>
    intro s Q h
    refine wpAny_items_cons (wpAny_Constant_str (ih fun ps k e => ?_)) rfl
    exact h ((_, s.toks) :: ps) k (by rw [List.map_cons, e])

def pieces : List Str := ["\"(", "&", "\\\"", "<)", "\"", "\\", ")", "(", ">", "\\\\", "\r", "\n", "\t", "a", "\\(", "&lt;"]
theorem pieces_ok : pieces.length = 16 ∧ pieces.all (fun x => decide (x.length ≤ 4)) = true := by decide +kernel

section
variable {prog : Program} {w : World} {A : Around} {s : Shared} {R : Result → Shared → Prop}
set_option maxRecDepth 100000
set_option maxHeartbeats 400000 in
theorem text_spec {a : Addr} {vs : List Value} {ns : List Int} (G : Gl w.params s.heap) (r : Rm A 3) (hl : s.heap.IsList a vs.toArray) (hi : IntsAre vs ns) (hn : ns.length ≤ 63)
    (hR : ∀ l t s', l.length ≤ 252 → Ok s s' → R (.ok (.ret (.str (T l) t))) s') : codeAny (model prog w) A (.call (.ref 84) ⟨[.ref a], []⟩) R s := by
  refine enter r.room (G.K 84 _ rfl) rfl G.nolimit (codeRec_of G.K (by kernel_rfl)) rfl (locs (by kernel_rfl)) (fun s₁ fr sm₁ => ?_)
  have r' : ∀ env, Rm (A.deeper env) 2 := fun env => Rm.deeper r
  obtain ⟨m₁, hm₁, fr⟩ : ∃ m₁, m₁ "script" = some (.ref a) ∧ Fr s.heap s.heap.objs.size s₁.heap m₁ := ⟨_, rfl, fr⟩
  have hL₁ : s.heap.objs.size < s₁.heap.objs.size := fr.ns.lt
  obtain ⟨oa, hoa, hoa'⟩ := hl
  have hla : ∀ {h : Heap}, (∀ b o, s.heap.get? b = some o → h.get? b = some o) → h.IsList a vs.toArray := fun k => ⟨oa, k _ _ hoa, hoa'⟩
  have hlen : vs.length = ns.length := hi.length
  refine wpAny_execs_cons ?_
  refine asg (h₀ := s.heap) ?a1 ?a2 ?a3 ?a4
  case a1 => kernel_rfl
  case a2 => kernel_rfl
  case a4 => rfl
  refine wpAny_List ?_
  refine lits (zs := pieces) ?_ ?_
  · repeat (first | exact .nil | refine .cons ?_)
  intro ps k hps
  refine ⟨?_, _, Fr.push fr _, fun s₂ fr₂ hs₂ sm₂ => ?_⟩
  · have := congrArg List.length hps
    rw [List.length_map, pieces_ok.1] at this
    rw [strValues, List.length_map, this, sizeLine_eq]; decide
  have hp₂ : Pcs s₂.heap s₁.heap.objs.size := ⟨ps, ⟨_, _, (hs₂.2 _ (Nat.ne_of_gt hL₁)).trans (Heap.get?_push_size _ rfl), rfl, rfl, rfl⟩, by have := congrArg List.length hps; rwa [List.length_map, pieces_ok.1] at this, by rw [hps]; exact pieces_ok.2⟩
  clear hps
  obtain ⟨m₂, Pa, hp₂, hLp, mp₂, ms₂, fr₂⟩ : ∃ m₂ Pa, Pcs s₂.heap Pa ∧ s.heap.objs.size < Pa ∧ m₂ "pieces" = some (.ref Pa) ∧ m₂ "script" = some (.ref a) ∧ Fr s.heap s.heap.objs.size s₂.heap m₂ := ⟨_, _, hp₂, hL₁, put_eq, put_of (by decide +kernel) hm₁, fr₂⟩
  have sm : Sm s s₂ := ⟨sm₂.gens.trans sm₁.gens, sm₂.os.trans sm₁.os⟩
  clear hs₂ hm₁ hL₁ fr sm₂ sm₁
  have hL₂ : s.heap.objs.size < s₂.heap.objs.size := fr₂.ns.lt
  refine wpAny_execs_cons ?_
  refine asg (h₀ := s.heap) ?b1 ?b2 ?b3 ?b4
  case b1 => kernel_rfl
  case b2 => kernel_rfl
  case b4 => rfl
  refine Subscript_Slice (ldN fr₂.ns ms₂ ?_ (by kernel_rfl) (by kernel_rfl)) (by intro _ _; rfl)
  refine wpAny_Slice (evalPart_none_step (evalPart_some_step (wpAny_Constant_int (evalPart_none_step ?_))))
  refine ⟨"list", _, slot_list_getitem.lookup, ((hla fr₂.keep).push _).typeIs, ?_⟩
  refine wpAny_getItem_list_slice ((hla fr₂.keep).push _) (Heap.IsSliceOf.new ..) .none (.int _ _) .none (by simp) ?_ ?_
  rotate_left
  · rw [sizeLine_eq, List.size_toArray]; omega
  refine ⟨_, Fr.push (Fr.push fr₂ _) _, fun s₃ fr₃ hs₃ sm₃ => ?_⟩
  have hkk : ∀ (o₁ o₂ : Obj) b o, b ≠ s.heap.objs.size → s₂.heap.get? b = some o → ((s₂.heap.push o₁).push o₂).get? b = some o := fun o₁ o₂ b o _ e => Heap.get?_push_of_some _ (Heap.get?_push_of_some _ e)
  obtain ⟨m₃, ws, ks, Ra, hRa, hws, hks, hLR, mr₃, mp₃, hp₃, fr₃⟩ : ∃ m₃ ws ks Ra, s₃.heap.IsList Ra ws.toArray ∧ IntsAre ws ks ∧ ks.length ≤ 63 ∧ s.heap.objs.size < Ra ∧ m₃ "rows" = some (.ref Ra) ∧ m₃ "pieces" = some (.ref Pa) ∧ Pcs s₃.heap Pa ∧ Fr s.heap s.heap.objs.size s₃.heap m₃ := by
    have hpk := hi.pick none (some 10) none
    refine ⟨_, (slicePick vs.toArray none (some 10) none).toList, pickNums ns none (some 10) none, _, ?_, hpk, ?_, ?_, put_eq, put_of (by decide +kernel) mp₂, ?_, fr₃⟩
    · refine ⟨_, (hs₃.2 _ ?_).trans (Heap.get?_push_size _ rfl), rfl, 0, ?_⟩
      · exact Nat.ne_of_gt (Nat.lt_of_lt_of_le hL₂ (by rw [Heap.size_push]; exact Nat.le_succ _))
      · simp
    · have h1 := hpk.length
      have h2 := slicePick_size_le vs.toArray none (some 10) none
      have e1 : vs.toArray.size = vs.length := List.size_toArray ..
      have e2 : (slicePick vs.toArray none (some 10) none).toList.length = (slicePick vs.toArray none (some 10) none).size := Array.length_toList ..
      rw [e1] at h2; rw [e2] at h1
      omega
    · exact Nat.lt_of_lt_of_le hL₂ (by rw [Heap.size_push]; exact Nat.le_succ _)
    · exact hp₂.pk fun its y => (PlainL.keeps y fun b o e => Heap.get?_push_of_some _ (Heap.get?_push_of_some _ e)).extBut hs₃.extBut (Nat.ne_of_gt hLp)
  have sm₃' : Sm s s₃ := ⟨sm₃.gens.trans sm.gens, sm₃.os.trans sm.os⟩
  clear hs₃ hkk
  refine wpAny_execs_cons (wpAny_mono (Q := fun f s' => f = .next ∧ ∃ m' ws ks Ra, s'.heap.IsList Ra ws.toArray ∧ IntsAre ws ks ∧ ks.length ≤ 63 ∧ s.heap.objs.size < Ra ∧ m' "rows" = some (.ref Ra) ∧ m' "pieces" = some (.ref Pa) ∧ Pcs s'.heap Pa ∧ Fr s.heap s.heap.objs.size s'.heap m' ∧ Sm s s') (E := fun _ _ => False) ?_ ?_ fun _ _ x => x)
  · refine wpAny_If ?_
    refine wpAny_isTrue_Compare1 (ldN fr₃.ns mr₃ ?_ (by kernel_rfl) (by kernel_rfl)) rfl
    refine wpAny_List (wpAny_items_nil ⟨by decide, ?_⟩)
    have hk : ∀ (o₁ : Obj) b o, s₃.heap.get? b = some o → (s₃.heap.push o₁).get? b = some o := fun o₁ b o e => Heap.get?_push_of_some _ e
    have hRa' : (s₃.heap.push { cls := .type "list", data := .seq ([] : List Value).toArray }).IsList Ra ws.toArray := hRa.push _
    refine eq_intsK hRa' hws (us := []) (ms := []) ⟨_, Heap.get?_push_size _ rfl, rfl, _, rfl⟩ .nil ?_ (wpAny_truthy_bool ?_)
    · have := (r' (envOf "" unitsScope 0 0 .none)).units
      show A.units + 3 + 64 < 9900
      have h9 : A.units + 20 * 3 < 9000 := r.units
      omega
    by_cases he : ks = []
    · rw [decide_eq_true he, if_pos rfl]
      refine wpAny_execs_cons ?_
      refine asg (h₀ := s.heap) ?c1 ?c2 ?c3 ?c4
      case c1 => kernel_rfl
      case c2 => kernel_rfl
      case c4 => rfl
      refine wpAny_List ?_
      iterate 5 refine wpAny_items_cons (wpAny_Constant_int ?_) rfl
      refine wpAny_items_nil ⟨by show 5 ≤ sizeLine; decide, _, Fr.push (Fr.push fr₃ _) _, fun s₄ fr₄ hs₄ sm₄ => wpAny_execs_nil ?_⟩
      have hL₃ : s.heap.objs.size < s₃.heap.objs.size := fr₃.ns.lt
      refine ⟨rfl, _, [.int 15 _, .int 3 _, .int 0 _, .int 12 _, .int 18 _], [15, 3, 0, 12, 18], _, ⟨_, (hs₄.2 _ ?_).trans (Heap.get?_push_size _ rfl), rfl, _, rfl⟩, .cons _ _ (.cons _ _ (.cons _ _ (.cons _ _ (.cons _ _ .nil)))), by decide, ?_, put_eq, put_of (by decide +kernel) mp₃, ?_, fr₄, ⟨sm₄.gens.trans sm₃'.gens, sm₄.os.trans sm₃'.os⟩⟩
      · exact Nat.ne_of_gt (Nat.lt_of_lt_of_le hL₃ (by show _ ≤ (s₃.heap.push _).objs.size; rw [Heap.size_push]; exact Nat.le_succ _))
      · exact Nat.lt_of_lt_of_le hL₃ (by show _ ≤ (s₃.heap.push _).objs.size; rw [Heap.size_push]; exact Nat.le_succ _)
      · exact hp₃.pk fun its y => (PlainL.keeps y fun b o e => Heap.get?_push_of_some _ (Heap.get?_push_of_some _ e)).extBut hs₄.extBut (Nat.ne_of_gt hLp)
    · rw [decide_eq_false he, if_neg Bool.false_ne_true]
      exact wpAny_execs_nil ⟨rfl, _, ws, ks, Ra, hRa', hws, hks, hLR, mr₃, mp₃, hp₃.pk fun its y => y.keeps (hk _), Fr.push fr₃ _, ⟨sm₃'.gens, sm₃'.os⟩⟩
  rintro f s₅ ⟨rfl, m₅, ws, ks, Ra, hRa, hws, hks, hLR, mr₅, mp₅, hp₅, fr₅, sm₅⟩
  clear fr₃ hp₃ mr₃ mp₃ sm₃' hp₂ mp₂ ms₂ fr₂
  refine wpAny_execs_cons ?_
  refine asg (h₀ := s.heap) ?x1 ?x2 ?x3 ?x4
  case x1 => kernel_rfl
  case x2 => kernel_rfl
  case x4 => rfl
  refine wpAny_Constant_str ⟨_, fr₅, fun s₆ fr₆ hs₆ sm₆ => ?_⟩
  rw [show (Str.ofString "" : Str) = T [] by decide +kernel] at fr₆
  obtain ⟨m₆, mt₆, mr₆, mp₆, fr₆⟩ : ∃ m₆, m₆ "text" = some (.str (T []) s₅.toks) ∧ m₆ "rows" = some (.ref Ra) ∧ m₆ "pieces" = some (.ref Pa) ∧ Fr s.heap s.heap.objs.size s₆.heap m₆ := ⟨_, put_eq, put_of (by decide +kernel) mr₅, put_of (by decide +kernel) mp₅, fr₆⟩
  have hp₆ : Pcs s₆.heap Pa := hp₅.pk (pk_same hs₆ hLp)
  have hRa₆ : s₆.heap.IsList Ra ws.toArray := hRa.extBut hs₆.extBut (Nat.ne_of_gt hLR)
  have sm₆' : Sm s s₆ := ⟨sm₆.gens.trans sm₅.gens, sm₆.os.trans sm₅.os⟩
  have hsz : ws.toArray.size = ks.length := by rw [List.size_toArray]; exact hws.length
  clear hs₆ hp₅ hRa mr₅ mp₅ fr₅
  refine wpAny_execs_cons ?_
  refine forList (base := s.heap) (m := m₆) (items := ws.toArray) (J := fun j m s' => m "pieces" = some (.ref Pa) ∧ Pcs s'.heap Pa ∧ (∃ l t, m "text" = some (.str (T l) t) ∧ l.length ≤ 4 * j) ∧ Sm s s')
    (r' _) ?y1 ?y2 ?y3 ?y4 fr₆ mr₆ hRa₆ (Nat.ne_of_gt hLR) ?y5 ?y6 ?y7 ?y8
  case y1 => kernel_rfl
  case y2 => kernel_rfl
  case y3 => kernel_rfl
  case y4 => decide +kernel
  case y5 =>
    intro s' hk sm'
    exact ⟨mp₆, hp₆.pk fun its y => y.keeps hk, ⟨[], _, mt₆, Nat.le_refl _⟩, sm₆'.trans sm'⟩
  case y6 =>
    rintro I hI j m s₁ s' it fr₁ ⟨mp, hp, ht, sm₁⟩ sm' kp
    exact ⟨mp, hp.pk (pk_kp it kp hLp), ht, sm₁.trans sm'⟩
  case y7 =>
    rintro I hI j v m s₇ hv fr₇ ⟨mp, hp, ⟨l, t, ht, hll⟩, sm₇⟩ it
    obtain ⟨n, tn, rfl⟩ := ints_at hws hv
    have hj : j < 63 := by
      have : j < ws.toArray.size := by
        rcases Nat.lt_or_ge j ws.toArray.size with h | h
        · exact h
        · rw [Array.getElem?_eq_none h] at hv; cases hv
      omega
    have mn : put m "n" (.int n tn) "n" = some (.int n tn) := put_eq
    have mp' : put m "n" (.int n tn) "pieces" = some (.ref Pa) := put_of (by decide +kernel) mp
    have ht' : put m "n" (.int n tn) "text" = some (.str (T l) t) := put_of (by decide +kernel) ht
    generalize put m "n" (.int n tn) = m₈ at fr₇ mn mp' ht'
    have fin : ∀ (s₈ s₉ : Shared) (l' : List Nat) (t' : Tok), l'.length ≤ 4 → s₈.heap = s₇.heap → s₈.gens = s₇.gens → s₈.os = s₇.os → Fr s.heap s.heap.objs.size s₉.heap (put m₈ "text" (.str (T (l ++ l')) t')) → Heap.SameBut s.heap.objs.size s₈.heap s₉.heap → Sm s₈ s₉ →
        (∀ o, s₇.heap.get? I = some o → s₉.heap.get? I = some o) ∧ (∀ o, s₇.heap.get? Ra = some o → s₉.heap.get? Ra = some o) ∧ ∃ m', Fr s.heap s.heap.objs.size s₉.heap m' ∧ m' "pieces" = some (.ref Pa) ∧ Pcs s₉.heap Pa ∧ (∃ l t, m' "text" = some (.str (T l) t) ∧ l.length ≤ 4 * (j + 1)) ∧ Sm s s₉ := by
      intro s₈ s₉ l' t' hl' e1 e2 e3 fr₉ hs₉ sm₉
      rw [e1] at hs₉
      refine ⟨fun o e => (hs₉.2 I ?_).trans e, fun o e => (hs₉.2 Ra (Nat.ne_of_gt hLR)).trans e, _, fr₉, put_of (by decide +kernel) mp', hp.pk (pk_same hs₉ hLp), ⟨l ++ l', t', put_eq, ?_⟩, ⟨sm₉.gens.trans (e2.trans sm₇.gens), sm₉.os.trans (e3.trans sm₇.os)⟩⟩
      · exact Nat.ne_of_gt (Nat.lt_of_lt_of_le fr₆.ns.lt hI)
      · rw [List.length_append]; omega
    have hf0 : ∀ k : Int, 0 < k → 0 ≤ Int.fmod (Int.fdiv n 3) k ∧ Int.fmod (Int.fdiv n 3) k < k := fun k hk => ⟨Int.fmod_nonneg_of_pos _ hk, Int.fmod_lt_of_pos _ hk⟩
    refine wpAny_execs_cons (wpAny_If ?_)
    refine wpAny_isTrue_Compare1 (wpAny_BinOp (ldN fr₇.ns mn (wpAny_Constant_int (mod_int' (by decide) (wpAny_Constant_int (P.eq_int (wpAny_truthy_bool ?_))))) (by kernel_rfl) (by kernel_rfl))) rfl
    cases hb : (Int.fmod n 3 == 2)
    · rw [if_neg Bool.false_ne_true]
      obtain ⟨its, hits, hat⟩ := hp.at
      have h16 := hf0 16 (by decide)
      obtain ⟨l', t', hl', hl4⟩ := hat (Int.fmod (Int.fdiv n 3) 16).toNat (by omega)
      refine wpAny_execs_cons ?_
      refine asg (h₀ := s.heap) ?z1 ?z2 ?z3 ?z4
      case z1 => kernel_rfl
      case z2 => kernel_rfl
      case z4 => rfl
      refine wpAny_BinOp (ldN (s := { s₇ with toks := _ }) fr₇.ns ht' ?_ (by kernel_rfl) (by kernel_rfl))
      refine Subscript_BinOp (ldN (s := { s₇ with toks := _ }) fr₇.ns mp' ?_ (by kernel_rfl) (by kernel_rfl)) (by intro _ _; rfl)
      refine wpAny_BinOp (wpAny_BinOp (ldN (s := { s₇ with toks := _ }) fr₇.ns mn ?_ (by kernel_rfl) (by kernel_rfl)))
      refine wpAny_Constant_int (floordiv_int (by decide) (wpAny_Constant_int (mod_int' (by decide) ?_)) (.inl (PyProof.noPylong_small (by decide))))
      refine ⟨"list", _, slot_list_getitem.lookup, hits.typeIs, ?_⟩
      refine wpAny_getItem_list hits h16.1 (by omega) hl' ?_
      refine SB.add (fun t'' k'' => ⟨_, fr₇, fun s₉ fr₉ hs₉ sm₉ => wpAny_execs_nil ?_⟩) ?_
      · rw [T_append] at fr₉
        exact wpAny_execs_nil (fin { s₇ with toks := k'' } s₉ l' t'' hl4 rfl rfl rfl fr₉ hs₉ sm₉)
      · rw [T_len, T_len, sizeLine_eq]; omega
    · rw [if_pos rfl]
      have h5 := hf0 50000 (by decide)
      refine wpAny_execs_cons ?_
      refine asg (h₀ := s.heap) ?w1 ?w2 ?w3 ?w4
      case w1 => kernel_rfl
      case w2 => kernel_rfl
      case w4 => rfl
      refine wpAny_BinOp (ldN (s := { s₇ with toks := _ }) fr₇.ns ht' ?_ (by kernel_rfl) (by kernel_rfl))
      refine callB1 (P := w.params) "chr" (s := { s₇ with toks := _ }) (G.keeps fr₇.keep) (by kernel_rfl) bootS_chr (by decide +kernel) (by kernel_rfl) (by kernel_rfl) (by kernel_rfl) (by kernel_rfl) rfl (by decide +kernel) ?_
      refine wpAny_BinOp (wpAny_Constant_int (wpAny_BinOp (wpAny_BinOp (ldN (s := { s₇ with toks := _ }) fr₇.ns mn ?_ (by kernel_rfl) (by kernel_rfl)))))
      refine wpAny_Constant_int (floordiv_int (by decide) (wpAny_Constant_int (mod_int' (by decide) (P.add_int ?_))) (.inl (PyProof.noPylong_small (by decide))))
      refine chr_of_range (by omega) (by omega) ?_
      refine SB.add (x := T l) (y := T [(32 + Int.fmod (Int.fdiv n 3) 50000).toNat]) (fun t'' k'' => ⟨_, fr₇, fun s₉ fr₉ hs₉ sm₉ => wpAny_execs_nil ?_⟩) ?_
      · rw [T_append] at fr₉
        exact wpAny_execs_nil (fin { s₇ with toks := k'' } s₉ _ t'' (by simp) rfl rfl rfl fr₉ hs₉ sm₉)
      · rw [T_len, T_len, sizeLine_eq]; simp; omega
  case y8 =>
    rintro m' s' fr' ⟨mp, hp, ⟨l, t, ht, hll⟩, sm'⟩
    rw [hsz] at hll
    exact wpAny_execs_cons (wpAny_Return_some (ldN fr'.ns ht (hR l t s' (by omega) (sm'.ok fr'.keep)) (by kernel_rfl) (by kernel_rfl)))
end
end
end Mine

namespace Mine
section
open PySem PySem.W PyProof.Rows PySem.Builtin PySem.Builtin.Str
set_option autoImplicit false
def allNews (h : Heap) (L : Addr) : List (Addr × Obj) := (List.range h.objs.size).filterMap fun a => if a = L then none else (h.get? a).map fun o => (a, o)
theorem mem_allNews {h : Heap} {L a : Addr} {o : Obj} : (a, o) ∈ allNews h L ↔ a ≠ L ∧ h.get? a = some o := by
  unfold allNews
  rw [List.mem_filterMap]
  constructor
  · rintro ⟨b, _, e⟩
    by_cases hb : b = L
    · rw [if_pos hb] at e; cases e
    · rw [if_neg hb] at e
      cases hg : h.get? b with
      | none => rw [hg] at e; cases e
      | some o' =>
        rw [hg] at e
        have := Option.some.inj e
        cases this
        exact ⟨hb, hg⟩
  · rintro ⟨hne, hg⟩
    exact ⟨a, List.mem_range.mpr (Heap.lt_size hg), by rw [if_neg hne, hg]; rfl⟩
theorem empty_get (a : Addr) : ({ objs := #[] } : Heap).get? a = none := Heap.get?_none_of_le (Nat.zero_le _)
theorem allNews_ok (h : Heap) (L : Addr) : News { objs := #[] } L h (allNews h L) := fun p hp => by
  obtain ⟨a, o⟩ := p
  have := mem_allNews.mp hp
  exact ⟨this.2, this.1, empty_get _⟩
theorem Us.get {h : Heap} {vs : List Value} {us : List (Nat × List Nat)} (x : Us h vs us) : ∀ {i : Nat} {v : Value}, vs[i]? = some v → ∃ u, us[i]? = some u ∧ IsU h v u := by
  induction x with
  | nil => intro i v e; cases e
  | cons a _ ih =>
    intro i v e
    cases i with
    | zero => exact ⟨_, rfl, by have := Option.some.inj e; rw [← this]; exact a⟩
    | succ i => exact ih (by simpa using e)

section
variable {prog : Program} {w : World} {A : Around} {E : Value → Shared → Prop} {s : Shared} {env : Env} {base : Heap} {m : Str → Option Value}

theorem unit_rest {L : Addr} {h₁ : Heap} {scope : Scope} {cl : List (Str × Addr)} {vs : List Value} {us : List (Nat × List Nat)} {S : List (Addr × Obj) → Prop} {Fin : List Value → List (Addr × Obj) → Prop} {p : Pos} {s₂ : Shared}
    (hU : Us h₁ vs us) (hns : ∃ m, h₁.Ns L m) (hS : S (allNews h₁ L)) (hsk : ∀ C, (compEnvC scope cl C env).scope.kind = .function) (hk : ∀ C, (compEnvC scope cl C env).kindOf "unit" = some .local) (hC : ∀ C, (compEnvC scope cl C env).locals = C)
    (fin : ∀ ps : List (Str × Tok), ps.map (·.1) = (us.map (·.2)).map T → Fin (strValues ps) (allNews h₁ L)) :
    ∀ (k i : Nat) (ps : List (Str × Tok)), i + k = vs.length → ps.map (·.1) = ((us.take i).map (·.2)).map T →
      LCp.CompRestP prog w A { objs := #[] } L m env (.Name "unit" p) "place" "unit" scope cl s₂ S (fun i v => vs.toArray[i]? = some v) Fin k i (strValues ps) (allNews h₁ L)
  | 0, i, ps, hik, hps => by
    refine LCp.CompRestP.zero (fin ps ?_)
    rw [hps, List.take_of_length_le (by have := hU.length; omega)]
  | k + 1, i, ps, hik, hps => by
    refine LCp.CompRestP.succ fun v hv => ?_
    rw [List.getElem?_toArray] at hv
    obtain ⟨⟨n, c⟩, hu, a, t1, t2, rfl, ho⟩ := hU.get hv
    have haL : a ≠ L := by
      rintro rfl
      obtain ⟨m', o', es, ep, ho', hd, _⟩ := hns
      rw [ho] at ho'; obtain rfl := Option.some.inj ho'; cases hd
    refine ⟨a, _, _, _, _, rfl, mem_allNews.mpr ⟨haL, ho⟩, rfl, rfl, fun I oI C oC D m₂ h tk E' hoC m1 m2 F N off ne => ?_⟩
    refine ldN (env := compEnvC scope cl C env) (s := { s₂ with heap := h, toks := tk }) (m := m₂) (by rw [hC]; exact hoC.ns (N (C, oC) (List.mem_cons_of_mem _ List.mem_cons_self)).1) m2 ?_ (hsk C) (hk C) (by decide +kernel)
    refine ⟨h, tk, _, rfl, F, N, off, hS, ?_⟩
    have e : strValues ps ++ [.str (T c) t2] = strValues (ps ++ [(T c, t2)]) := by simp [strValues]
    show LCp.CompRestP prog w A _ L m env _ _ _ scope cl s₂ S _ Fin k (i + 1) (strValues ps ++ [.str (T c) t2]) _
    rw [e]
    refine unit_rest hU hns hS hsk hk hC fin k (i + 1) _ (by omega) ?_
    rw [List.map_append, hps, List.take_add_one, hu]; simp

theorem comp_signs {iter : Expr} {px px₂ tp py p pos spos : Pos} {tk : Nat} {scope : Scope} {us : List (Nat × List Nat)} {Q : Flow → Shared → Prop} {s : Shared} (fr : Fr base env.locals s.heap m) (hh : A.handled = none) (hus : us.length ≤ 1000000)
    (hkf : env.scope.kind = .function) (hy : env.kindOf "signs" = some .local)
    (hsw : swapsWith (.ListComp (.Name "unit" p) [⟨.Tuple [.Name "place" px, .Name "unit" px₂] tk tp, iter, [], 0⟩] scope pos) (some (.Name "signs" py)) spos.line env = pure true)
    (hclos : closureFor scope env = pure []) (hcell : ∀ z ∈ scope.names, z.2 ≠ .cell) (hkind : scope.kind = .function)
    (hnames : ∀ z ∈ scope.names, z.2 = .local → scope.names.lookup z.1 = some .local) (hx : scope.names.lookup (Str.ofString "place") = some .local) (hx₂ : scope.names.lookup (Str.ofString "unit") = some .local)
    (hsk : ∀ C, (compEnvC scope [] C env).scope.kind = .function) (hkk : ∀ C, (compEnvC scope [] C env).kindOf "unit" = some .local)
    (h : wpAny (model prog w) A (eval iter env) (fun v s₁ => ∃ D vs, v = .ref D ∧ PlainL s₁.heap D vs.toArray ∧ Us s₁.heap vs us ∧ Fr base env.locals s₁.heap m ∧ D ≠ env.locals ∧
      ∀ D' s', TL s'.heap D' (us.map (·.2)) → Fr base env.locals s'.heap (put m "signs" (.ref D')) → (∀ b o, b ≠ env.locals → s₁.heap.get? b = some o → s'.heap.get? b = some o) → Sm s₁ s' → D' ≠ env.locals → Q .next s') E s)
    (hs : ∀ x, foldedSetIterable iter env x = pure x) :
    wpAny (model prog w) A (exec (.Assign [.Name "signs" py] (.ListComp (.Name "unit" p) [⟨.Tuple [.Name "place" px, .Name "unit" px₂] tk tp, iter, [], 0⟩] scope pos) spos) env) Q E s := by
  refine LCp.Assign_ListComp_P (h₀ := { objs := #[] }) (L := env.locals) (m := m) ⟨fr.ns, fun b o e => (by rw [empty_get] at e; cases e), Nat.zero_le _⟩ rfl hsw hclos hcell hkind hnames hx hx₂ (by decide +kernel) hy (by rw [hkf]; rfl) (wpAny_mono h (fun v s₁ h₁ => ?_) fun _ _ x => x) hs
  obtain ⟨D, vs, rfl, hpl, hU, fr₁, hDL, hq⟩ := h₁
  have hlen := hU.length
  obtain ⟨oD, nD, hoD, hcD, hdD, hsD⟩ := id hpl
  have hSrc : LCg.SrcAt { objs := #[] } D vs.toArray (allNews s₁.heap env.locals) := .inr ⟨oD, mem_allNews.mpr ⟨hDL, hoD⟩, hcD, nD, hsD⟩
  refine ⟨D, vs.toArray, allNews s₁.heap env.locals, rfl, hh, ⟨fr₁.ns, fun b o e => (by rw [empty_get] at e; cases e), Nat.zero_le _⟩, allNews_ok _ _, hSrc, by rw [List.size_toArray, sizeLine_eq]; omega, fun s₂ hs₂ => ?_⟩
  obtain ⟨g, rfl⟩ := hs₂
  refine unit_rest (L := env.locals) hU ⟨m, fr₁.ns⟩ hSrc hsk hkk (fun _ => rfl) (fun ps hps => ?_) vs.toArray.size 0 [] (by rw [List.size_toArray]; omega) rfl
  intro D' h' tk' F' N' off
  have hD' := N' (D', LCg.lst (strValues ps)) List.mem_cons_self
  refine hq D' _ ⟨ps, ⟨_, _, hD'.1, rfl, rfl, rfl⟩, hps⟩ ⟨F'.ns, fun b o e => ?_, fr₁.above⟩ (fun b o hb e => (N' (b, o) (List.mem_cons_of_mem _ (mem_allNews.mpr ⟨hb, e⟩))).1) ⟨rfl, rfl⟩ hD'.2.1
  have hb : b ≠ env.locals := Nat.ne_of_lt (Nat.lt_of_lt_of_le (Heap.lt_size e) fr₁.above)
  exact (N' (b, o) (List.mem_cons_of_mem _ (mem_allNews.mpr ⟨hb, fr₁.keep b o e⟩))).1
end
end
end Mine

namespace Mine
section
open PySem PySem.W PyProof.Rows PySem.Builtin PySem.Builtin.Str
set_option autoImplicit false
/-- units that are not the generator's frame -/
def UsC (C : Addr) (h : Heap) (vs : List Value) (us : List (Nat × List Nat)) : Prop := Us h vs us ∧ ∀ v ∈ vs, v ≠ .ref C
theorem Us.out {C S : Addr} {h h' : Heap} {vs : List Value} {us : List (Nat × List Nat)} (x : Us h vs us) (hc : ∀ v ∈ vs, v ≠ .ref C) (hS : ∃ o, h.get? S = some o ∧ o.cls = .type "list") (k : ∀ b o, b ≠ S → ¬ Prv C b o → h.get? b = some o → h'.get? b = some o) : Us h' vs us := by
  induction x with
  | nil => exact .nil
  | @cons v u vs us hU hx ih =>
    refine .cons ?_ (ih fun v hv => hc v (List.mem_cons_of_mem _ hv))
    obtain ⟨a, t1, t2, rfl, ho⟩ := hU
    refine ⟨a, t1, t2, rfl, k a _ ?_ ?_ ho⟩
    · rintro rfl
      obtain ⟨o', ho', hcl⟩ := hS
      rw [ho] at ho'; obtain rfl := Option.some.inj ho'
      exact absurd (show Value.type "tuple" = .type "list" from hcl) (by decide)
    · rintro (p | ⟨_, p, _⟩)
      · exact hc _ (List.mem_cons_self ..) (by rw [p])
      · rcases p with p | p | p
        · exact absurd (show Value.type "tuple" = .type "enumerate" from p) (by decide)
        · exact absurd (show Value.type "tuple" = .type "str_iterator" from p) (by decide)
        · exact absurd (show Value.type "tuple" = .type "str_ascii_iterator" from p) (by decide)

structure LMv (S : Addr) (g : Nat) (C : Addr) (s s' : Shared) : Prop where
  out : ∀ b o, b ≠ S → ¬ Prv C b o → s.heap.get? b = some o → s'.heap.get? b = some o
  gens : GenOnlyQ g s.gens s'.gens
  os : s'.os = s.os
theorem LMv.trans {S : Addr} {g : Nat} {C : Addr} {s s' s'' : Shared} (a : LMv S g C s s') (b : LMv S g C s' s'') : LMv S g C s s'' := ⟨fun x o h1 h2 e => b.out x o h1 h2 (a.out x o h1 h2 e), a.gens.trans b.gens, b.os.trans a.os⟩
theorem GMv.l {S : Addr} {g : Nat} {C : Addr} {s s' : Shared} (a : GMv g C s s') : LMv S g C s s' := ⟨fun x o _ h2 e => a.out x o h2 e, a.gens, a.os⟩

section
variable {prog : Program} {w : World} {A : Around} {R : Result → Shared → Prop} {s : Shared} {a g : Nat} {C : Addr} {us : List (Nat × List Nat)}
theorem list_npr {C S : Addr} {o : Obj} (hC : S ≠ C) (hc : o.cls = .type "list") : ¬ Prv C S o := by
  rintro (p | ⟨_, p, _⟩)
  · exact hC p
  · rcases p with p | p | p <;> (rw [hc] at p; exact absurd p (by decide))

theorem ext_loopG {d : Nat} (r : Rm A (d + 1)) (hn : us.length ≤ 1000000) (S : Addr) (hSC : S ≠ C) (hSa : S ≠ a) (res : Value) (base : Heap) (G₀ : Gl w.params base) (hSb : base.get? S = none) :
    ∀ (k i : Nat) (s : Shared) (acc : Array Value) (c : Nat), us.length - i = k → i ≤ us.length → GSt prog w A.in1 a g C us i s → (∀ b o, base.get? b = some o → s.heap.get? b = some o) → (∀ b o, base.get? b = some o → ¬ Prv C b o) → s.heap.get? S = some { cls := .type "list", dict := none, data := .seq acc c, slots := #[] } → UsC C s.heap acc.toList (us.take i) →
    (∀ s' acc' c', LMv S g C s s' → s'.heap.get? S = some { cls := .type "list", dict := none, data := .seq acc' c', slots := #[] } → UsC C s'.heap acc'.toList us → R (.ok (.ret res)) s') →
    codeAny (model prog w) A (.builtin "list.extend.loop" ⟨[.ref S, .ref a, res], []⟩) R s := by
  intro k
  induction k with
  | zero =>
    intro i s acc c hk hi hst hb hbp hS hacc hR
    have hin : i = us.length := by omega
    subst hin
    refine codeAny_builtin F.entry_extend_loop ?_
    rw [Around.under_plainId F.plain_extend_loop _]
    show wpAny _ A.in1 (pyNext (.ref a) >>= _) _ _ s
    refine wpAny_bind (gen_done r.in1 hst fun s' mv G' => ?_)
    refine wpAny_pure (hR s' acc c mv.l (mv.out S _ (list_npr hSC rfl) hS) ⟨?_, hacc.2⟩)
    have h1 := hacc.1
    rw [List.take_length] at h1
    exact h1.out (S := S) hacc.2 ⟨_, hS, rfl⟩ mv.l.out
  | succ k ih =>
    intro i s acc c hk hi hst hb hbp hS hacc hR
    have hlt : i < us.length := by omega
    have hlen := hacc.1.length
    have hsz : acc.size = i := by
      rw [Array.length_toList, List.length_take] at hlen; omega
    refine codeAny_builtin F.entry_extend_loop ?_
    rw [Around.under_plainId F.plain_extend_loop _]
    show wpAny _ A.in1 (pyNext (.ref a) >>= _) _ _ s
    refine wpAny_bind (gen_item r.in1 hst hlt fun v s' u hu hU hst' mv hvC => ?_)
    have hS' := mv.out S _ (list_npr hSC rfl) hS
    show wpAny _ A.in1 (updateSeq S (·.push v) >>= _) _ _ _
    refine wpAny_bind ?_
    have oth : ∀ b o, b ≠ S → s'.heap.get? b = some o → (s'.heap.update S (Obj.mapSeq (·.push v))).get? b = some o := fun b o hbS e => (Heap.get?_update_other _ _ (Ne.symm hbS)).trans e
    have hb' : ∀ b o, base.get? b = some o → (s'.heap.update S (Obj.mapSeq (·.push v))).get? b = some o := fun b o e => oth b o (fun q => by rw [q, hSb] at e; cases e) (mv.out b o (hbp b o e) (hb b o e))
    refine wpAny_updateSeq hS' rfl (wpAny_pure ⟨plainId_quiet F.plain_extend_loop _, ih (i + 1) _ (acc.push v) _ (by omega) hlt
      (hst'.frame (G₀.keeps hb') (fun b o hp e => oth b o (fun q => ?_) e) (fun o e => oth a o (Ne.symm hSa) e) rfl) hb' hbp (Heap.get?_update_self _ hS' rfl) ⟨?_, ?_⟩ fun s'' acc' c' hm'' hS'' hacc' => ?_⟩)
      (by rw [hsz, sizeLine_eq]; omega) (by show (acc.push v).size ≤ sizeLine + 1; rw [Array.size_push, hsz, sizeLine_eq]; omega)
    · rw [q] at hp e
      rw [hS'] at e; obtain rfl := Option.some.inj e
      exact list_npr hSC rfl hp
    · have h1 : Us s'.heap (acc.push v).toList (us.take (i + 1)) := by
        rw [Array.toList_push, List.take_add_one, hu]
        exact (hacc.1.out (S := S) hacc.2 ⟨_, hS, rfl⟩ mv.l.out).snoc hU
      refine h1.out (C := C) (S := S) ?_ ⟨_, hS', rfl⟩ fun b o hbS _ e => oth b o hbS e
      intro x hx
      rw [Array.toList_push] at hx
      rcases List.mem_append.mp hx with hx | hx
      · exact hacc.2 x hx
      · rw [List.mem_singleton.mp hx]; exact hvC
    · intro x hx
      rw [Array.toList_push] at hx
      rcases List.mem_append.mp hx with hx | hx
      · exact hacc.2 x hx
      · rw [List.mem_singleton.mp hx]; exact hvC
    · exact hR s'' acc' c' (mv.l.trans (LMv.trans (s' := { s' with heap := s'.heap.update S (Obj.mapSeq (·.push v)) }) ⟨fun b o hbS _ e => oth b o hbS e, .inl rfl, rfl⟩ hm'')) hS'' hacc'

theorem GSt.ty {A' : Around} {j : Nat} (x : GSt prog w A' a g C us j s) : s.TypeIs (.ref a) "generator" := x.isg.typeIs

theorem ext_genG {d : Nat} (r : Rm A (d + 1)) (hn : us.length ≤ 1000000) (S : Addr) (hSC : S ≠ C) (hSa : S ≠ a) (res : Value) (c₀ : Nat) (base : Heap) (G₀ : Gl w.params base) (hSb : base.get? S = none) (hst : GSt prog w A.in1 a g C us 0 s)
    (hb : ∀ b o, base.get? b = some o → s.heap.get? b = some o) (hbp : ∀ b o, base.get? b = some o → ¬ Prv C b o) (hS : s.heap.get? S = some { cls := .type "list", data := .seq #[] c₀ })
    (hR : ∀ s' acc' c', LMv S g C s s' → s'.heap.get? S = some { cls := .type "list", dict := none, data := .seq acc' c', slots := #[] } → UsC C s'.heap acc'.toList us → R (.ok (.ret res)) s') :
    wpAny (model prog w) A.in1 (Builtin.List.listExtendWith (.ref S) (.ref a) res)
      (fun fin s' => match fin with | .done f => R (.ok f) s' | .again c' => c'.quiet = true ∧ codeAny (model prog w) A c' R s') (fun e s' => R (.error e) s') s := by
  unfold Builtin.List.listExtendWith
  refine wpAny_bind (wpAny_typeOf hst.ty ?_)
  have h1 : Builtin.List.listSameRef (.ref S) (.ref a) = false := by simp [Builtin.List.listSameRef, hSa]
  have h2 : (Value.type "generator" == Value.type "list") = false := by decide
  have h3 : (Value.type "generator" == Value.type "tuple") = false := by decide
  simp only [h1, h2, h3, Bool.or_false, Bool.false_eq_true, if_false]
  refine wpAny_bind (wpAny_pyIter_gen hst.isg ?_)
  refine wpAny_bind (wpAny_holding ?_)
  unfold Builtin.List.listLengthHint
  refine wpAny_bind (wpAny_specialOf hst.ty F.gen_no_len ?_)
  show wpAny _ A.in1 (specialOf (Value.ref a) (Str.ofString "__length_hint__") >>= _) _ _ _
  refine wpAny_bind (wpAny_specialOf hst.ty F.gen_no_hint ?_)
  refine wpAny_pure ?_
  show wpAny _ A.in1 (rule "list.extend.makes-room" >>= fun _ => Builtin.List.listTouch (.ref S) >>= fun _ =>
    again (.builtin "list.extend.loop" ⟨[.ref S, .ref a, res], []⟩)) _ _ _
  refine wpAny_bind (wpAny_rule ?_)
  refine wpAny_bind ?_
  show wpAny _ A.in1 (updateSeq S (·.push .none) >>= fun _ => updateSeq S (·.pop)) _ _ _
  refine wpAny_bind (wpAny_updateSeq hS rfl ?_)
  have hS₂ := Heap.get?_update_self (Obj.mapSeq (·.push Value.none)) hS rfl
  refine wpAny_updateSeq (hz := by seq_fits) hS₂ rfl ?_
  have hS₃ := Heap.get?_update_self (Obj.mapSeq (·.pop)) hS₂ rfl
  have oth : ∀ b o, b ≠ S → s.heap.get? b = some o → ((s.heap.update S (Obj.mapSeq (·.push Value.none))).update S (Obj.mapSeq (·.pop))).get? b = some o :=
    fun b o hb e => (Heap.get?_update_other _ _ (Ne.symm hb)).trans ((Heap.get?_update_other _ _ (Ne.symm hb)).trans e)
  have hb' : ∀ b o, base.get? b = some o → ((s.heap.update S (Obj.mapSeq (·.push Value.none))).update S (Obj.mapSeq (·.pop))).get? b = some o := fun b o e => oth b o (fun q => by rw [q, hSb] at e; cases e) (hb b o e)
  refine wpAny_pure ⟨plainId_quiet F.plain_extend_loop _, ext_loopG r hn S hSC hSa res base G₀ hSb us.length 0 _ _ _ rfl (Nat.zero_le _)
    (hst.frame (G₀.keeps hb') (fun b o hp e => oth b o (fun q => ?_) e) (fun o e => oth a o (Ne.symm hSa) e) rfl) hb' hbp hS₃ ⟨?_, ?_⟩ fun s' acc' c' hm hS' hacc => ?_⟩
  · rw [q] at hp e
    rw [hS] at e; obtain rfl := Option.some.inj e
    exact list_npr hSC rfl hp
  · exact .nil
  · intro v hv; simp at hv
  · exact hR s' acc' c' (LMv.trans (s' := { s with heap := (s.heap.update S (Obj.mapSeq (·.push Value.none))).update S (Obj.mapSeq (·.pop)) }) ⟨fun b o hbS _ e => oth b o hbS e, .inl rfl, rfl⟩ hm) hS' hacc

theorem init_genG {d : Nat} (r : Rm A (d + 1)) (hn : us.length ≤ 1000000) (S : Addr) (hSC : S ≠ C) (hSa : S ≠ a) (base : Heap) (G₀ : Gl w.params base) (hSb : base.get? S = none) (hst : GSt prog w A.in1 a g C us 0 s)
    (hb : ∀ b o, base.get? b = some o → s.heap.get? b = some o) (hbp : ∀ b o, base.get? b = some o → ¬ Prv C b o) (hS : s.heap.get? S = some { cls := .type "list", data := .seq #[] })
    (hR : ∀ s' acc' c', LMv S g C s s' → s'.heap.get? S = some { cls := .type "list", dict := none, data := .seq acc' c', slots := #[] } → UsC C s'.heap acc'.toList us → R (.ok (.ret .none)) s') :
    wpAny (model prog w) A.in1 (Builtin.«list.__init__» ⟨[.ref S, .ref a], []⟩)
      (fun fin s' => match fin with | .done f => R (.ok f) s' | .again c' => c'.quiet = true ∧ codeAny (model prog w) A c' R s') (fun e s' => R (.error e) s') s := by
  show wpAny _ A.in1 (do let old ← Builtin.List.listItems (.ref S); Builtin.List.listUpdate (.ref S) (fun _ => #[]); letGo old.toList.reverse; Builtin.List.listExtendWith (.ref S) (.ref a) .none) _ _ s
  refine wpAny_bind ?_
  unfold Builtin.List.listItems
  refine wpAny_bind (wpAny_seqItems hS rfl (wpAny_pure ?_))
  show wpAny _ A.in1 (updateSeq S (fun _ => #[]) >>= fun _ => letGo (#[] : Array Value).toList.reverse >>= fun _ => Builtin.List.listExtendWith (.ref S) (.ref a) .none) _ _ s
  refine wpAny_bind (wpAny_updateSeq hS rfl ?_)
  have hS₂ := Heap.get?_update_self (Obj.mapSeq (fun _ => (#[] : Array Value))) hS rfl
  have oth : ∀ b o, b ≠ S → s.heap.get? b = some o → (s.heap.update S (Obj.mapSeq (fun _ => (#[] : Array Value)))).get? b = some o :=
    fun b o hb e => (Heap.get?_update_other _ _ (Ne.symm hb)).trans e
  have hb' : ∀ b o, base.get? b = some o → (s.heap.update S (Obj.mapSeq (fun _ => (#[] : Array Value)))).get? b = some o := fun b o e => oth b o (fun q => by rw [q, hSb] at e; cases e) (hb b o e)
  refine wpAny_bind (wpAny_letGo ?_)
  refine ext_genG r hn S hSC hSa .none _ base G₀ hSb (hst.frame (G₀.keeps hb') (fun b o hp e => oth b o (fun q => ?_) e) (fun o e => oth a o (Ne.symm hSa) e) rfl) hb' hbp hS₂ fun s' acc' c' hm hS' hacc => ?_
  · rw [q] at hp e
    rw [hS] at e; obtain rfl := Option.some.inj e
    exact list_npr hSC rfl hp
  · exact hR s' acc' c' (LMv.trans (s' := { s with heap := s.heap.update S (Obj.mapSeq (fun _ => (#[] : Array Value))) }) ⟨fun b o hbS _ e => oth b o hbS e, .inl rfl, rfl⟩ hm) hS' hacc

/-- list(g) -/
theorem list_gen {E : Value → Shared → Prop} {Q : Value → Shared → Prop} {d : Nat} (r : Rm A (d + 2)) (hn : us.length ≤ 1000000) (base : Heap) (G₀ : Gl w.params base) (hst : GSt prog w A.in1.in1 a g C us 0 s) (hCa : C < a)
    (hb : ∀ b o, base.get? b = some o → s.heap.get? b = some o) (hbC : base.objs.size ≤ C)
    (hQ : ∀ S vs s', PlainL s'.heap S vs.toArray → Us s'.heap vs us → C < S → (∀ b o, b < C → s.heap.get? b = some o → s'.heap.get? b = some o) → GenOnlyQ g s.gens s'.gens → s'.os = s.os → Q (.ref S) s') :
    wpAny (model prog w) A (call (.type "list") [.ref a]) Q E s := by
  have ha : a < s.heap.objs.size := by obtain ⟨o, nm, qn, ho, _⟩ := hst.isg; exact Heap.lt_size ho
  have hSC : s.heap.objs.size ≠ C := Nat.ne_of_gt (Nat.lt_trans hCa ha)
  have hSb : base.get? s.heap.objs.size = none := Heap.get?_none_of_le (Nat.le_trans hbC (Nat.le_of_lt (Nat.lt_trans hCa ha)))
  have hbp : ∀ b o, base.get? b = some o → ¬ Prv C b o := fun b o e => not_prv (Nat.lt_of_lt_of_le (Heap.lt_size e) hbC)
  have hk : ∀ b o, s.heap.get? b = some o → (s.heap.push { cls := .type "list", data := .seq #[] }).get? b = some o := fun b o e => Heap.get?_push_of_some _ e
  refine callType_codes (Q₁ := fun obj s₁ => obj = .ref s.heap.objs.size ∧ s₁ = { s with heap := s.heap.push { cls := .type "list", data := .seq #[] } }) F.called_list (F.typeCall_list_1 _) F.entry_list_init
    (code_list_new _ ⟨rfl, rfl⟩) fun obj s₁ h₁ => ?_
  obtain ⟨rfl, rfl⟩ := h₁
  have hS : (s.heap.push { cls := .type "list", data := .seq #[] }).get? s.heap.objs.size = some { cls := .type "list", data := .seq #[] } := Heap.get?_push_size _ rfl
  refine ⟨⟨_, hS, rfl⟩, F.args_list_init_2 _ _, init_genG r.in1 hn s.heap.objs.size hSC (Nat.ne_of_gt ha) base G₀ hSb (hst.frame (G₀.keeps fun b o e => hk b o (hb b o e)) (.of_keep hk) (fun o e => hk a o e) rfl) (fun b o e => hk b o (hb b o e)) hbp hS fun s' acc' c' hm hS' hacc => ?_⟩
  refine ⟨rfl, hQ s.heap.objs.size acc'.toList s' ⟨_, c', hS', rfl, rfl, by simp⟩ hacc.1 (Nat.lt_trans hCa ha) (fun b o hb e => hm.out b o (Nat.ne_of_lt (Heap.lt_size e)) (not_prv hb) (hk b o e)) hm.gens hm.os⟩
end
end
end Mine

namespace Mine
section
open PySem PySem.W PyProof.Rows PySem.Builtin PySem.Builtin.Str
set_option autoImplicit false
theorem Us.nth {h : Heap} {vs : List Value} {us : List (Nat × List Nat)} (x : Us h vs us) {j : Nat} (hj : j < vs.length) : ∃ u, us[j]? = some u ∧ IsU h vs[j] u := x.get (List.getElem?_eq_getElem hj)

section
variable {prog : Program} {w : World} {A : Around} {E : Value → Shared → Prop} {s : Shared}
theorem eq_unit {v v' : Value} {u : Nat × List Nat} (x : IsU s.heap v u) (y : IsU s.heap v' u) (hu : A.units < cLine) : SeqAt.EqAt A s v v' true := by
  obtain ⟨a, t1, t2, rfl, ha⟩ := x.tuple
  obtain ⟨b, t3, t4, rfl, hb⟩ := y.tuple
  by_cases hab : a = b
  · subst hab; exact .same _
  · refine .of_refs hab ?_
    have h := SeqAt.RcAt.tuples (A := A) (s := s) (e := fun _ => true) ha hb hu (fun j h1 h2 => ?_)
    · exact h
    · match j, h1, h2 with
      | 0, _, _ => simpa using SeqAt.EqAt.int_int (A := A.in1) (s := s) (u.1 : Int) t1 (u.1 : Int) t3
      | 1, _, _ => simpa using SeqAt.EqAt.str_str (A := A.in1) (s := s) (T u.2) t2 (T u.2) t4
theorem ne_units {l b : Addr} {vs ws : List Value} {us : List (Nat × List Nat)} {Q : Value → Shared → Prop} (hl : PlainL s.heap l vs.toArray) (hv : Us s.heap vs us) (hb : PlainL s.heap b ws.toArray) (hw : Us s.heap ws us) (hu : A.units + 5 < cLine) (h : Q (.bool false) s) :
    wpAny (model prog w) A (compareOp .NotEq (.ref l) (.ref b)) Q E s := by
  have e1 := hv.length
  have e2 := hw.length
  suffices hs : SeqAt.RcNeAt A s (.ref l) (.ref b) false from hs prog w E Q h
  have h := SeqAt.RcNeAt.lists (A := A) (s := s) (e := fun _ => true) hl.isList hb.isList (by simp; omega) (by omega) (fun j h1 h2 => ?_)
  · have e : (!(List.range vs.toArray.size).all fun _ => true) = false := by
      rw [List.all_eq_true.mpr fun _ _ => rfl]; rfl
    rw [e] at h; exact h
  · obtain ⟨u, hu1, hU1⟩ := hv.nth (j := j) (by simpa using h1)
    obtain ⟨u', hu2, hU2⟩ := hw.nth (j := j) (by simpa using h2)
    rw [hu1] at hu2; obtain rfl := Option.some.inj hu2
    have := eq_unit (A := A.in1) hU1 hU2 (by show A.units + 1 < _; omega)
    simpa using this
end

section
variable {prog : Program} {w : World} {A : Around} {s : Shared} {env : Env} {base : Heap}
def KpL (L I : Addr) (h h' : Heap) : Prop := ∀ b o, b ≠ L → b ≠ I → h.get? b = some o → h'.get? b = some o
theorem KpL.trans {L I : Addr} {h h' h'' : Heap} (a : KpL L I h h') (b : KpL L I h' h'') : KpL L I h h'' := fun x o h1 h2 e => b x o h1 h2 (a x o h1 h2 e)

/-- for x, y in a list of pairs -/
theorem for_pairs {R : Result → Shared → Prop} {x y : Str} {px py pt : Pos} {k : Nat} {body : List Stmt} {I a : Addr} {items : Array Value} {Jm : (Str → Option Value) → Prop} {m : Str → Option Value}
    (hh : A.handled = none) (hx : env.kindOf x = some .local) (hy : env.kindOf y = some .local) (hk : env.scope.kind = .function) (hit : s.heap.IsListIter I a 0) (hl : s.heap.IsList a items) (hIL : env.locals < I) (haL : a ≠ env.locals) (haI : a ≠ I)
    (fr : Fr base env.locals s.heap m) (j0 : Jm m)
    (hitem : ∀ (j : Nat) (v : Value), items[j]? = some v → ∃ t u z, v = .ref t ∧ s.heap.IsTuple t #[u, z] ∧ t ≠ env.locals ∧ t ≠ I)
    (hturn : ∀ (j : Nat) t u z m s₁, items[j]? = some (.ref t) → s.heap.IsTuple t #[u, z] → Fr base env.locals s₁.heap (put (put m x u) y z) → Jm m → KpL env.locals I s.heap s₁.heap → Gs s s₁ →
      wpAny (model prog w) A (execs body env) (fun f s₂ => match f with
        | .next | .cont => (∀ b o, b ≠ env.locals → s₁.heap.get? b = some o → s₂.heap.get? b = some o) ∧ Gs s₁ s₂ ∧ ∃ m', Fr base env.locals s₂.heap m' ∧ Jm m'
        | .brk => False
        | .ret v => R (.ok (.ret v)) s₂) (fun _ _ => False) s₁)
    (hend : ∀ m s', Fr base env.locals s'.heap m → Jm m → Gs s s' → R (.ok .next) s') :
    codeAny (model prog w) A (.forLoop (.Tuple [.Name x px, .Name y py] k pt) (.ref I) body [] env) R s := by
  have W := Walks.list (prog := prog) (w := w) hh I a haI items
  have hb : ∀ b o, base.get? b = some o → b ∉ [I] := fun b o e q => by
    rw [List.mem_singleton.mp q] at e
    exact Nat.lt_irrefl _ (Nat.lt_of_lt_of_le (Heap.lt_size e) (Nat.le_trans fr.above (Nat.le_of_lt hIL)))
  have hLI : env.locals ∉ [I] := fun q => Nat.ne_of_lt hIL (List.mem_singleton.mp q)
  refine codeAny_forLoop_any (fun n s' => ∃ j m, j ≤ items.size ∧ n = items.size - j ∧ (s'.heap.IsListIter I a j ∧ s'.heap.IsList a items) ∧ Fr base env.locals s'.heap m ∧ Jm m ∧ KpL env.locals I s.heap s'.heap ∧ Gs s s') ?_ items.size
    ⟨0, m, Nat.zero_le _, rfl, ⟨hit, hl⟩, fr, j0, fun _ _ _ _ e => e, .refl s⟩
  rintro n s₁ ⟨j, m₁, hj, rfl, st₁, fr₁, j₁, kp₁, gs₁⟩
  by_cases hlt : j < items.size
  · refine W.item j _ _ _ hlt st₁ fun v h₂ tk₂ hP st₂ hk₂ => ?_
    have fr₂ : Fr base env.locals h₂ m₁ := ⟨fr₁.ns.at' fun o e => hk₂ _ o hLI e, fun b o e => hk₂ b o (hb b o e) (fr₁.keep b o e), fr₁.above⟩
    obtain ⟨t, u, z, rfl, ht, htL, htI⟩ := hitem j v hP
    have kp₂ : KpL env.locals I s.heap h₂ := fun b o h1 h2 e => hk₂ b o (fun q => h2 (List.mem_singleton.mp q)) (kp₁ b o h1 h2 e)
    have ht₂ : h₂.IsTuple t #[u, z] := let ⟨o, ho, q⟩ := ht; ⟨o, kp₂ t o htL htI ho, q⟩
    refine wpAny_letOwnedTupleGo_listiter (s := { s₁ with heap := h₂, toks := tk₂ }) st₂.1 ?_
    refine assign_pair (s := { s₁ with heap := h₂, toks := tk₂ }) hh ht₂ fr₂.ns hx hy hk fun h₃ tk₃ hn₃ hk₃ => ?_
    have fr₃ : Fr base env.locals h₃ (put (put m₁ x u) y z) := ⟨hn₃, fun b o e => hk₃ b o (Nat.ne_of_lt (Nat.lt_of_lt_of_le (Heap.lt_size e) fr₂.above)) (fr₂.keep b o e), fr₂.above⟩
    have kp₃ : KpL env.locals I s.heap h₃ := fun b o h1 h2 e => hk₃ b o h1 (kp₂ b o h1 h2 e)
    have gs₃ : Gs s { s₁ with heap := h₃, toks := tk₃ } := gs₁.trans ⟨rfl, fun h => h, fun _ _ e => e⟩
    refine wpAny_mono (hturn j t u z m₁ { s₁ with heap := h₃, toks := tk₃ } hP ht fr₃ j₁ kp₃ gs₃) (fun f s₄ h₄ => ?_) fun _ _ x => x.elim
    have key : ((∀ b o, b ≠ env.locals → h₃.get? b = some o → s₄.heap.get? b = some o) ∧ Gs { s₁ with heap := h₃, toks := tk₃ } s₄ ∧ ∃ m', Fr base env.locals s₄.heap m' ∧ Jm m') → ∃ n', n' < items.size - j ∧ ∃ j' m', j' ≤ items.size ∧ n' = items.size - j' ∧ (s₄.heap.IsListIter I a j' ∧ s₄.heap.IsList a items) ∧ Fr base env.locals s₄.heap m' ∧ Jm m' ∧ KpL env.locals I s.heap s₄.heap ∧ Gs s s₄ := by
      rintro ⟨k4, g4, m', fr4, j4⟩
      refine ⟨items.size - (j + 1), by omega, j + 1, m', hlt, rfl, W.frame _ _ _ st₂ fun b hb o e => ?_, fr4, j4, fun b o h1 h2 e => k4 b o h1 (kp₃ b o h1 h2 e), gs₃.trans g4⟩
      have hbL : b ≠ env.locals := by
        rcases List.mem_cons.mp hb with q | q
        · rw [q]; exact Nat.ne_of_gt hIL
        · rw [List.mem_singleton.mp q]; exact haL
      exact k4 b o hbL (hk₃ b o hbL e)
    cases f with
    | next => exact key h₄
    | cont => exact key h₄
    | brk => exact h₄.elim
    | ret v => exact h₄
  · have hjn : j = items.size := by omega
    subst hjn
    refine W.done _ _ _ st₁ fun h₂ tk₂ hk₂ => wpAny_execs_nil ?_
    have fr₂ : Fr base env.locals h₂ m₁ := ⟨fr₁.ns.at' fun o e => hk₂ _ o hLI e, fun b o e => hk₂ b o (hb b o e) (fr₁.keep b o e), fr₁.above⟩
    exact hend m₁ _ fr₂ j₁ (gs₁.trans ⟨rfl, fun h => h, fun _ _ e => e⟩)
end
end
end Mine

namespace Mine
section
open PySem
set_option autoImplicit false
def sgs (l : List Nat) : Sgs := (iterE 0 false l).map (·.2)
def leftOf (refs : List (Nat × List Nat)) (l : List Nat) : Sgs := if (refs.lookup 34).isSome = true then sgs l else outsOf (sgs l)

theorem iterE_two : ∀ (l : List Nat) (p : Nat) (esc : Bool), ∀ u ∈ iterE p esc l, 1 ≤ u.2.length ∧ u.2.length ≤ 2
  | [], p, true, u, h => by simp [iterE] at h; subst h; simp
  | [], p, false, u, h => by simp [iterE] at h
  | c :: r, p, true, u, h => by
    rw [iterE] at h
    rcases List.mem_cons.mp h with rfl | h
    · simp
    · exact iterE_two r _ _ u h
  | c :: r, p, false, u, h => by
    rw [iterE] at h
    split at h
    · exact iterE_two r _ _ u h
    · rcases List.mem_cons.mp h with rfl | h
      · simp
      · exact iterE_two r _ _ u h
theorem sgs_two {l : List Nat} : ∀ x ∈ sgs l, 1 ≤ x.length ∧ x.length ≤ 2 := by
  intro x hx
  obtain ⟨u, hu, rfl⟩ := List.mem_map.mp hx
  exact iterE_two l 0 false u hu
theorem sgs_len (l : List Nat) : (sgs l).length ≤ l.length := by
  unfold sgs; rw [List.length_map]
  have := iterE_len l 0 false
  simpa using this

theorem fStep_mem {P : List Nat → Prop} : ∀ (xs : Sgs) (q : List Sgs × Sgs), (∀ x ∈ xs, P x) → (∀ f ∈ q.1, ∀ x ∈ f, P x) → (∀ x ∈ q.2, P x) → (∀ f ∈ (xs.foldl fStep q).1, ∀ x ∈ f, P x) ∧ ∀ x ∈ (xs.foldl fStep q).2, P x
  | [], q, _, h1, h2 => ⟨h1, h2⟩
  | x :: xs, q, h, h1, h2 => by
    rw [List.foldl_cons]
    refine fStep_mem xs _ (fun y hy => h y (List.mem_cons_of_mem _ hy)) ?_ ?_
    · unfold fStep
      split
      · intro f hf
        rcases List.mem_append.mp hf with hf | hf
        · exact h1 f hf
        · rw [List.mem_singleton.mp hf]; exact h2
      · exact h1
    · unfold fStep
      split
      · intro y hy; cases hy
      · intro y hy
        rcases List.mem_append.mp hy with hy | hy
        · exact h2 y hy
        · rw [List.mem_singleton.mp hy]; exact h x (List.mem_cons_self ..)
theorem outs_mem {P : List Nat → Prop} {xs : Sgs} (h : ∀ x ∈ xs, P x) (h34 : P [34]) : ∀ x ∈ outsOf xs, P x := by
  have hm := fStep_mem (P := P) (xs.take xs.length) ([], []) (fun x hx => h x (List.mem_of_mem_take hx)) (by intro f hf; cases hf) (by intro x hx; cases hx)
  have hall : ∀ f ∈ fAll xs, ∀ x ∈ f, P x := by
    intro f hf
    rcases List.mem_append.mp hf with hf | hf
    · exact hm.1 f hf
    · rw [List.mem_singleton.mp hf]; exact hm.2
  intro x hx
  rcases List.mem_append.mp hx with hx | hx
  · obtain ⟨j, _, hj⟩ := List.mem_flatMap.mp hx
    by_cases hk : 2 * j < (fAll xs).length
    · rw [List.getD_eq_getElem?_getD, List.getElem?_eq_getElem hk] at hj; exact hall _ (List.getElem_mem hk) x hj
    · rw [List.getD_eq_getElem?_getD, List.getElem?_eq_none (by omega)] at hj; cases hj
  · split at hx
    · rcases List.mem_cons.mp hx with rfl | hx
      · exact h34
      · exact hm.2 x hx
    · cases hx
theorem outs_len {xs : Sgs} (h : xs.length ≤ 252) : (outsOf xs).length ≤ 40000 := by
  have h1 := lTo_bd (fAll_each xs) (((fAll xs).length + 1) / 2)
  have h2 := fAll_len xs
  have h3 := fTo_bd xs xs.length
  have h4 : ((fAll xs).length + 1) / 2 * xs.length ≤ 127 * 252 := Nat.mul_le_mul (by omega) h
  unfold outsOf
  rw [List.length_append]
  have h5 : (if (fAll xs).length % 2 = 0 then [34] :: (fTo xs xs.length).2 else []).length ≤ 253 := by
    split
    · rw [List.length_cons]; omega
    · simp
  omega
theorem left_bd {refs : List (Nat × List Nat)} {l : List Nat} (hl : l.length ≤ 252) : (leftOf refs l).length ≤ 40000 ∧ ∀ x ∈ leftOf refs l, x.length ≤ 2 := by
  have h1 := sgs_len l
  unfold leftOf
  split
  · exact ⟨by omega, fun x hx => (sgs_two x hx).2⟩
  · exact ⟨outs_len (by omega), outs_mem (fun x hx => (sgs_two x hx).2) (by simp)⟩
theorem flat_bd {xs : Sgs} {B : Nat} (h : ∀ x ∈ xs, x.length ≤ B) : xs.flatten.length ≤ xs.length * B := by
  induction xs with
  | nil => simp
  | cons x xs ih =>
    have h1 := ih fun y hy => h y (List.mem_cons_of_mem _ hy)
    have h2 := h x (List.mem_cons_self ..)
    rw [List.flatten_cons, List.length_append, List.length_cons, Nat.add_mul, Nat.one_mul]; omega

structure PureOk (uA : List (Nat × List Nat) → List Nat → List (Nat × List Nat)) (refs : List (Nat × List Nat)) (l : List Nat) : Prop where
  p2 : uA refs l = iterE 0 false (spell refs l)
  p3 : stripP (spell refs l) = spell refs (leftOf refs l).flatten
  p4 : balF 0 (sgs (stripP (spell refs l))) = balF 0 (leftOf refs l)
end
end Mine

namespace Mine
section
open PySem PySem.W PyProof.Rows PySem.Builtin PySem.Builtin.Str
set_option autoImplicit false
def unitsP (refs : List (Nat × List Nat)) (l : List Nat) : List (Nat × List Nat) := (uAll refs (partsOf l) (partsOf l).length).2.2
def five : List (List (Nat × List Nat)) := [rCdata, rAttrib, rHtml, rCdataC, rAttribC]
theorem five_six : ∀ refs ∈ five, ∀ p ∈ refs, p.2.length ≤ 6 := by decide

section
variable {prog : Program} {w : World} {A : Around} {E : Value → Shared → Prop} {s : Shared} {env : Env}
/-- a call of a built-in by its name, two arguments -/
theorem callB2 {P : Params} {M : Model} {x : Str} (id : String) {e₁ e₂ : Expr} {p1 p2 : Pos} {Q : Value → Shared → Prop} (G : Gl P s.heap) (hx : nsIn (KP P) mainGlobals x = some none) (hv : bootBuiltins x = some (.builtin id)) (hn : x ≠ "__name__")
    (hk : env.scope.kind = .function) (hxk : env.kindOf x = some .globalImplicit) (hg : env.globals = mainGlobals) (hb : env.builtins = builtinsNs) (hst : starEach [e₁, e₂] env = [(false, eval e₁ env), (false, eval e₂ env)]) (hd : (x == ("__debug__" : Str)) = false)
    (h : wpAny M A (eval e₁ env) (fun v s₁ => wpAny M A (eval e₂ env) (fun u s₂ => wpAny M A (call (.builtin id) [v, u]) Q E s₂) E s₁) E s) : wpAny M A (eval (.Call (.Name x p1) [e₁, e₂] [] p2) env) Q E s := by
  show wpAny M A (do callWith p2 (← eval (.Name x p1) env) [] (backTo p2 (starEach [e₁, e₂] env)) (backToKw p2 (keywordEach [] env))) Q E s
  rw [hst]
  refine wpAny_bind (nm_blt (P := P) G hx hv hn ?_ hk hxk hg hb hd)
  exact Calls.callWith_builtin rfl (Calls.evalArgs_plain (Calls.spliced_cons (wpAny_mono h (fun _ _ h₁ => Calls.spliced_cons (wpAny_mono h₁ (fun _ _ h₂ => Calls.spliced_nil h₂) fun _ _ e => e)) fun _ _ e => e)))
theorem boot_list : bootBuiltins "list" = some (.type "list") := by decide +kernel
theorem boot_isi : bootBuiltins "isinstance" = some (.builtin "isinstance") := by decide +kernel
theorem boot_bool : bootBuiltins "bool" = some (.type "bool") := by decide +kernel

abbrev lawScope : Scope :=
  { kind := .function, names := [("script", .local), ("text", .local), ("signs", .local), ("outside", .local), ("written", .local), ("refs", .local), ("left", .local), ("taken", .local), ("_law_text", .globalImplicit), ("_law_units", .globalImplicit), ("_law_outside", .globalImplicit), ("_law_writings", .globalImplicit), ("_law_spelled", .globalImplicit), ("list", .globalImplicit), ("_iter_escaped_chars", .globalImplicit), ("_strip_quoted_realnames", .globalImplicit), ("_check_parenthesis", .globalImplicit), ("isinstance", .globalImplicit), ("bool", .globalImplicit), ("_law_closes", .globalImplicit)],
    isGenerator := false, isCoroutine := false, more := [("fast", .str "script"), ("fast", .str "text"), ("fast", .str "place"), ("fast", .str "unit"), ("fast", .str "signs"), ("fast", .str "outside"), ("fast", .str "written"), ("fast", .str "refs"), ("fast", .str "left"), ("fast", .str "taken")] }

theorem five_wr {prog : Program} {w : World} {l : List Nat} {lo : Nat} {h : Heap} {v1 v2 v3 v4 v5 : Value} (w1 : WR prog w l lo h v1 rCdata) (w2 : WR prog w l lo h v2 rAttrib) (w3 : WR prog w l lo h v3 rHtml) (w4 : WR prog w l lo h v4 rCdataC) (w5 : WR prog w l lo h v5 rAttribC)
    {j : Nat} {v : Value} (hv : #[v1, v2, v3, v4, v5][j]? = some v) : ∃ refs ∈ five, WR prog w l lo h v refs := by
  match j, hv with
  | 0, hv => obtain rfl : v1 = v := Option.some.inj hv; exact ⟨rCdata, by simp [five], w1⟩
  | 1, hv => obtain rfl : v2 = v := Option.some.inj hv; exact ⟨rAttrib, by simp [five], w2⟩
  | 2, hv => obtain rfl : v3 = v := Option.some.inj hv; exact ⟨rHtml, by simp [five], w3⟩
  | 3, hv => obtain rfl : v4 = v := Option.some.inj hv; exact ⟨rCdataC, by simp [five], w4⟩
  | 4, hv => obtain rfl : v5 = v := Option.some.inj hv; exact ⟨rAttribC, by simp [five], w5⟩
  | n + 5, hv => rw [Array.getElem?_eq_none (by simp)] at hv; cases hv

structure LN (l : List Nat) (Sg Og : Addr) (m : Str → Option Value) : Prop where
  text : ∃ t, m "text" = some (.str (T l) t)
  signs : m "signs" = some (.ref Sg)
  outside : m "outside" = some (.ref Og)
theorem LN.put {l : List Nat} {Sg Og : Addr} {m : Str → Option Value} {y : Str} {v : Value} (x : LN l Sg Og m) (hy : (["text", "signs", "outside"] : List Str).all (fun n => !(n == y)) = true) : LN l Sg Og (Mine.put m y v) := by
  simp only [List.all_cons, List.all_nil, Bool.and_true, Bool.and_eq_true, Bool.not_eq_true'] at hy
  obtain ⟨h1, h2, h3⟩ := hy
  exact ⟨let ⟨t, e⟩ := x.text; ⟨t, put_of h1 e⟩, put_of h2 x.signs, put_of h3 x.outside⟩
end

section
variable {prog : Program} {w : World} {A : Around} {s : Shared} {R : Result → Shared → Prop}
set_option maxRecDepth 100000
set_option maxHeartbeats 1000000 in
theorem law_spec {a : Addr} {vs : List Value} {ns : List Int} (G : Gl w.params s.heap) (r : Rm A 12) (hl : s.heap.IsList a vs.toArray) (hi : IntsAre vs ns) (hn : ns.length ≤ 63)
    (hp0 : ∀ l, unitsP [] l = iterE 0 false l) (hp : ∀ l, ∀ refs ∈ five, PureOk unitsP refs l)
    (hR : ∀ s', Ok s s' → R (.ok (.ret (.bool true))) s') : codeAny (model prog w) A (.call (.ref 120) ⟨[.ref a], []⟩) R s := by
  refine enter r.room (G.K 120 _ rfl) rfl G.nolimit (codeRec_of G.K (by kernel_rfl)) rfl (locs (by kernel_rfl)) (fun s₁ fr sm₁ => ?_)
  have r' : ∀ env, Rm (A.deeper env) 11 := fun env => Rm.deeper r
  obtain ⟨m₁, hm₁, fr⟩ : ∃ m₁, m₁ "script" = some (.ref a) ∧ Fr s.heap s.heap.objs.size s₁.heap m₁ := ⟨_, rfl, fr⟩
  obtain ⟨oa, hoa, hoa'⟩ := hl
  have hla : ∀ {h : Heap}, (∀ b o, s.heap.get? b = some o → h.get? b = some o) → h.IsList a vs.toArray := fun k => ⟨oa, k _ _ hoa, hoa'⟩
  refine wpAny_execs_cons ?_
  refine asg (h₀ := s.heap) ?a1 ?a2 ?a3 ?a4
  case a1 => kernel_rfl
  case a2 => kernel_rfl
  case a4 => rfl
  refine callG1 (P := w.params) 84 (G.keeps fr.keep) (by kernel_rfl) (by kernel_rfl) (by kernel_rfl) (by kernel_rfl) (by kernel_rfl) rfl (by decide +kernel) (ldN fr.ns hm₁ ⟨G.keeps fr.keep, ?_⟩ (by kernel_rfl) (by kernel_rfl))
  refine wpAny_call (text_spec (G.keeps fr.keep) ((r' _).less (by omega)) (hla fr.keep) hi hn fun l t s₂ hl₂ ok₂ => ⟨m₁, Fr.kept fr ok₂.keep, fun s₃ fr₃ hs₃ sm₃ => ?_⟩)
  have gs₃ : Gs s s₃ := sm₁.gs.trans (ok₂.gs.trans sm₃.gs)
  obtain ⟨m₃, mt₃, fr₃⟩ : ∃ m₃, m₃ "text" = some (.str (T l) t) ∧ Fr s.heap s.heap.objs.size s₃.heap m₃ := ⟨_, put_eq, fr₃⟩
  clear hs₃ sm₃ ok₂ hm₁ fr
  have hil := iterE_len l 0 false
  simp only [Bool.false_eq_true, if_false, Nat.add_zero] at hil
  refine wpAny_execs_cons ?_
  refine comp_signs (us := iterE 0 false l) (base := s.heap) (m := m₃) fr₃ (r' _).hand (by omega) ?b1 ?b2 ?b3 ?b4 ?b5 ?b6 ?b7 ?b8 ?b9 ?b10 ?b11 ?b12 ?b13
  case b1 => kernel_rfl
  case b2 => kernel_rfl
  case b3 => rfl
  case b4 => rfl
  case b5 => decide +kernel
  case b6 => rfl
  case b7 => decide +kernel
  case b8 => kernel_rfl
  case b9 => kernel_rfl
  case b10 => intro C; kernel_rfl
  case b11 => intro C; kernel_rfl
  case b13 => intro _; rfl
  have hk3 : ∀ (o₁ : Obj) b o, s₃.heap.get? b = some o → (s₃.heap.push o₁).get? b = some o := fun o₁ b o e => Heap.get?_push_of_some _ e
  refine callG2 (P := w.params) 103 (G.keeps fr₃.keep) (by kernel_rfl) (by kernel_rfl) (by kernel_rfl) (by kernel_rfl) (by kernel_rfl) rfl (by decide +kernel) (ldN fr₃.ns mt₃ (wpAny_Dict_empty ⟨G.keeps fun b o e => hk3 _ b o (fr₃.keep b o e), ?_⟩) (by kernel_rfl) (by kernel_rfl))
  refine wpAny_call (units_spec (refs := []) (G.keeps fun b o e => hk3 _ b o (fr₃.keep b o e)) ((r' _).less (by omega)) (by omega) ⟨sys_lt (G.keeps fr₃.keep), [], Heap.DictOf.new _, .nil⟩ (fun p hp => nomatch hp) fun D vs s₄ pl₄ us₄ hD₄ ok₄ => ?_)
  have hu0 : (uAll [] (partsOf l) (partsOf l).length).2.2 = iterE 0 false l := hp0 l
  rw [hu0] at us₄
  have hk4 : ∀ b o, s₃.heap.get? b = some o → s₄.heap.get? b = some o := fun b o e => ok₄.keep b o (hk3 _ b o e)
  have hDL : D ≠ s.heap.objs.size := by
    rintro rfl
    have hlt : s.heap.objs.size < s₃.heap.objs.size := fr₃.ns.lt
    obtain ⟨o, _, _, ho, _⟩ := fr₃.ns
    have := hk3 { cls := .type "dict", data := .dict #[] } _ _ ho
    have h2 : (s₃.heap.push { cls := .type "dict", data := .dict #[] }).get? s.heap.objs.size = none := hD₄
    rw [this] at h2; cases h2
  refine ⟨D, vs, rfl, pl₄, us₄, Fr.kept fr₃ hk4, hDL, fun Sg s₅ hSg fr₅ hk₅ sm₅ hSgL => ?_⟩
  have gs₅ : Gs s s₅ := gs₃.trans ((⟨ok₄.os, ok₄.bare, ok₄.gens⟩ : Gs s₃ s₄).trans sm₅.gs)
  have hSgs : TL s₅.heap Sg (sgs l) := hSg
  obtain ⟨m₅, mt₅, ms₅, fr₅⟩ : ∃ m₅, m₅ "text" = some (.str (T l) t) ∧ m₅ "signs" = some (.ref Sg) ∧ Fr s.heap s.heap.objs.size s₅.heap m₅ := ⟨_, put_of (by decide +kernel) mt₃, put_eq, fr₅⟩
  clear hSg hk₅ sm₅ pl₄ us₄ hD₄ ok₄ hk4 hk3 hDL fr₃ mt₃ gs₃
  have hsl := sgs_len l
  obtain ⟨pS, plS, hpS⟩ := hSgs
  refine wpAny_execs_cons ?_
  refine asg (h₀ := s.heap) ?c1 ?c2 ?c3 ?c4
  case c1 => kernel_rfl
  case c2 => kernel_rfl
  case c4 => rfl
  refine callG1 (P := w.params) 110 (G.keeps fr₅.keep) (by kernel_rfl) (by kernel_rfl) (by kernel_rfl) (by kernel_rfl) (by kernel_rfl) rfl (by decide +kernel) (ldN fr₅.ns ms₅ ⟨G.keeps fr₅.keep, ?_⟩ (by kernel_rfl) (by kernel_rfl))
  refine wpAny_call (outside_spec (G.keeps fr₅.keep) ((r' _).less (by omega)) plS.isList hpS (by omega) fun Og s₆ hOg ok₆ => ⟨m₅, Fr.kept fr₅ ok₆.keep, fun s₇ fr₇ hs₇ sm₇ => ?_⟩)
  have hL₆ : s.heap.objs.size < s₆.heap.objs.size := (Fr.kept fr₅ ok₆.keep).ns.lt
  have tl_ne : ∀ {h : Heap} {b : Addr} {xs : Sgs}, TL h b xs → (∃ m, h.Ns s.heap.objs.size m) → b ≠ s.heap.objs.size := by
    rintro h b xs ⟨ps, ⟨o, n, ho, hc, _, hd⟩, _⟩ ⟨m, o', es, ep, ho', hd', _⟩ rfl
    rw [ho] at ho'; obtain rfl := Option.some.inj ho'
    rw [hd] at hd'; cases hd'
  have tS₆ : TL s₆.heap Sg (sgs l) := TL.keep ⟨pS, plS, hpS⟩ ok₆.keep
  have hSgL' := tl_ne tS₆ ⟨_, (Fr.kept fr₅ ok₆.keep).ns⟩
  have hOgL := tl_ne hOg ⟨_, (Fr.kept fr₅ ok₆.keep).ns⟩
  have tS₇ : TL s₇.heap Sg (sgs l) := tS₆.pk fun _ y => y.extBut hs₇.extBut hSgL'
  have tO₇ : TL s₇.heap Og (outsOf (sgs l)) := hOg.pk fun _ y => y.extBut hs₇.extBut hOgL
  have gs₇ : Gs s s₇ := gs₅.trans (ok₆.gs.trans sm₇.gs)
  obtain ⟨m₇, ln₇, fr₇⟩ : ∃ m₇, LN l Sg Og m₇ ∧ Fr s.heap s.heap.objs.size s₇.heap m₇ := ⟨_, ⟨⟨t, put_of (by decide +kernel) mt₅⟩, put_of (by decide +kernel) ms₅, put_eq⟩, fr₇⟩
  clear hs₇ sm₇ hOg ok₆ plS hpS fr₅ ms₅ mt₅ gs₅ tS₆ hL₆
  obtain ⟨t₇, mt₇⟩ := ln₇.text
  refine wpAny_execs_cons ?_
  refine wpAny_For ?_ (by intro _; rfl)
  refine callG1 (P := w.params) 91 (G.keeps fr₇.keep) (by kernel_rfl) (by kernel_rfl) (by kernel_rfl) (by kernel_rfl) (by kernel_rfl) rfl (by decide +kernel) (ldN fr₇.ns mt₇ ⟨G.keeps fr₇.keep, ?_⟩ (by kernel_rfl) (by kernel_rfl))
  refine wpAny_call (writ_spec (G.keeps fr₇.keep) ((r' _).less (by omega)) (by omega) fun Wa v1 v2 v3 v4 v5 s₈ pl₈ w1 w2 w3 w4 w5 ok₈ => ?_)
  refine wpAny_pyIter_list pl₈.isList ?_
  have fr₈ := Fr.kept fr₇ ok₈.keep
  have hWa : Wa < s₈.heap.objs.size := pl₈.lt
  have hL₈ : s.heap.objs.size < s₈.heap.objs.size := fr₈.ns.lt
  have hWaL : Wa ≠ s.heap.objs.size := by
    rintro rfl
    obtain ⟨o, n, ho, hc, _, hd⟩ := pl₈
    obtain ⟨o', es, ep, ho', hd', _⟩ := fr₈.ns
    rw [ho] at ho'; obtain rfl := Option.some.inj ho'
    rw [hd] at hd'; cases hd'
  have hkI : ∀ b o, s₈.heap.get? b = some o → (s₈.heap.push { cls := .type "list_iterator", data := .fields #[.ref Wa, .int 0 0] }).get? b = some o := fun b o e => Heap.get?_push_of_some _ e
  have tS₈ : TL s₈.heap Sg (sgs l) := tS₇.keep ok₈.keep
  have tO₈ : TL s₈.heap Og (outsOf (sgs l)) := tO₇.keep ok₈.keep
  have gs₈ : Gs s s₈ := gs₇.trans ok₈.gs
  have wr : ∀ (j : Nat) (v : Value), #[v1, v2, v3, v4, v5][j]? = some v → ∃ refs ∈ five, WR prog w l s₇.heap.objs.size s₈.heap v refs := by
    exact fun j v hv => five_wr w1 w2 w3 w4 w5 hv
  refine for_pairs (base := s.heap) (m := m₇) (items := #[v1, v2, v3, v4, v5]) (a := Wa) (Jm := LN l Sg Og) (r' _).hand ?d1 ?d2 ?d3 ⟨_, Heap.get?_push_size _ rfl, rfl, rfl⟩ (pl₈.isList.push _) hL₈ hWaL (Nat.ne_of_lt hWa) (Fr.kept fr₈ hkI) ln₇ ?d4 ?d5 ?d6
  case d1 => kernel_rfl
  case d2 => kernel_rfl
  case d3 => kernel_rfl
  case d4 =>
    intro j v hv
    obtain ⟨refs, _, tp, tw, d, rfl, ho, hd, hlo⟩ := wr j v hv
    have htl : tp ≠ s.heap.objs.size := by
      rintro rfl
      obtain ⟨o', es, ep, ho', hd', _⟩ := fr₈.ns
      have e := ho'.symm.trans ho
      rw [Option.some.inj e] at hd'; cases hd'
    exact ⟨tp, _, _, rfl, ⟨_, hkI _ _ ho, rfl, _, rfl⟩, htl, Nat.ne_of_lt (Heap.lt_size ho)⟩
  case d6 =>
    intro m' s' fr' ln' gs'
    refine wpAny_execs_cons (wpAny_Return_some (wpAny_Constant_bool (hR s' ?_)))
    exact Gs.ok ⟨gs'.os.trans gs₈.os, fun h => gs'.bare (gs₈.bare h), fun i g e => gs'.gens i g (gs₈.gens i g e)⟩ fr'.keep
  case d5 =>
    intro j tp u z m s₉ hv ht fr₉ ln₉ kp₉ gs₉
    obtain ⟨refs, hrefs, tp', tw, d, he, ho, hd, hlo⟩ := wr j _ hv
    obtain rfl : tp = tp' := by injection he
    obtain ⟨rfl, rfl⟩ : u = .str (T (spell refs l)) tw ∧ z = .ref d := by
      obtain ⟨o', ho', _, n', hd'⟩ := ht
      have e := Option.some.inj ((hkI _ _ ho).symm.trans ho')
      rw [← e] at hd'
      injection hd' with h1 h2
      have h3 := congrArg Array.toList h1
      simp at h3
      exact ⟨h3.1.symm, h3.2.symm⟩
    have Pk := hp l refs hrefs
    have h6 := five_six refs hrefs
    have keepL : ∀ b o, b ≠ s.heap.objs.size → s₈.heap.get? b = some o → s₉.heap.get? b = some o := fun b o hb e => kp₉ b o hb (Nat.ne_of_lt (Heap.lt_size e)) (hkI b o e)
    have hdL : d ≠ s.heap.objs.size := Nat.ne_of_gt (Nat.lt_of_lt_of_le fr₇.ns.lt hlo)
    have hd₉ : DRef prog w s₉.heap d refs := ⟨hd.1, let ⟨kvs, x, y⟩ := hd.2; ⟨kvs, x.at fun o e => keepL d o hdL e, y⟩⟩
    have pkL : ∀ b, b ≠ s.heap.objs.size → PK s₈.heap s₉.heap b := fun b hb its y => y.at fun o e => keepL b o hb e
    have tS₉ : TL s₉.heap Sg (sgs l) := tS₈.pk (pkL Sg hSgL')
    have tO₉ : TL s₉.heap Og (outsOf (sgs l)) := tO₈.pk (pkL Og hOgL)
    have mw : put (put m "written" (.str (T (spell refs l)) tw)) "refs" (.ref d) "written" = some (.str (T (spell refs l)) tw) := put_of (by decide +kernel) put_eq
    have mr : put (put m "written" (.str (T (spell refs l)) tw)) "refs" (.ref d) "refs" = some (.ref d) := put_eq
    have ln : LN l Sg Og (put (put m "written" (.str (T (spell refs l)) tw)) "refs" (.ref d)) := (ln₉.put (by decide +kernel)).put (by decide +kernel)
    generalize put (put m "written" (.str (T (spell refs l)) tw)) "refs" (.ref d) = m₉ at fr₉ mw mr ln
    have hspl : (spell refs l).length ≤ 1512 := by have := spell_len h6 l; omega
    clear ht kp₉ ho hv wr w1 w2 w3 w4 w5 ln₉ hkI pkL keepL
    obtain ⟨tt, mt⟩ := ln.text
    -- written != _law_spelled(text, refs)
    have G₉ : Gl w.params s₉.heap := G.keeps fr₉.keep
    refine wpAny_execs_cons (wpAny_If (wpAny_isTrue_Compare1 (ldN fr₉.ns mw ?_ (by kernel_rfl) (by kernel_rfl)) rfl))
    refine callG2 (P := w.params) 96 G₉ (by kernel_rfl) (by kernel_rfl) (by kernel_rfl) (by kernel_rfl) (by kernel_rfl) rfl (by decide +kernel) (ldN fr₉.ns mt (ldN fr₉.ns mr ⟨G₉, ?_⟩ (by kernel_rfl) (by kernel_rfl)) (by kernel_rfl) (by kernel_rfl))
    refine wpAny_call (spelled_spec G₉ ((r' _).less (by omega)) (by omega) hd₉ h6 fun t' s₁₀ ok₁₀ => P.ne_str (wpAny_truthy_bool ?_))
    rw [show ((T (spell refs l)).cps.toList != (T (spell refs l)).cps.toList) = false by simp, if_neg Bool.false_ne_true]
    refine wpAny_execs_nil ?_
    have fr₁₀ := Fr.kept fr₉ ok₁₀.keep
    have hd₁₀ := hd₉.keep ok₁₀.keep
    have G₁₀ := G₉.keeps ok₁₀.keep
    -- list(_iter_escaped_chars(written)) != _law_units(text, refs)
    refine wpAny_execs_cons (wpAny_If (wpAny_isTrue_Compare1 ?_ rfl))
    refine callT1 (P := w.params) "list" G₁₀ (by kernel_rfl) boot_list (by decide +kernel) (by kernel_rfl) (by kernel_rfl) (by kernel_rfl) (by kernel_rfl) rfl (by decide +kernel) ?_
    refine callG1 (P := w.params) 21 G₁₀ (by kernel_rfl) (by kernel_rfl) (by kernel_rfl) (by kernel_rfl) (by kernel_rfl) rfl (by decide +kernel) (ldN fr₁₀.ns mw ⟨G₁₀, ?_⟩ (by kernel_rfl) (by kernel_rfl))
    have hil' := iterE_len (spell refs l) 0 false
    simp only [Bool.false_eq_true, if_false, Nat.add_zero] at hil'
    refine wpAny_call (iter_spec G₁₀ ((r' _).less (by omega)) fun ga gg C s₁₁ hC hCa hg ok₁₁ gst => ?_)
    refine list_gen (d := 0) ((r' _).less (by omega)) (by omega) s₁₀.heap G₁₀ (gst _ (r' (envOf "law" lawScope s.heap.objs.size 120 (.ref 119))).hand) hCa ok₁₁.keep hC fun S1 vs1 s₁₂ pl₁₂ us₁₂ hCS hk₁₂ hgen hos => ?_
    have hk12 : ∀ b o, s₁₀.heap.get? b = some o → s₁₂.heap.get? b = some o := fun b o e => hk₁₂ b o (Nat.lt_of_lt_of_le (Heap.lt_size e) hC) (ok₁₁.keep b o e)
    have ok₁₂ : Ok s₁₀ s₁₂ := Ok.gen ok₁₁ hg hgen hos hk12
    have fr₁₂ := Fr.kept fr₁₀ hk12
    have G₁₂ := G₁₀.keeps hk12
    refine callG2 (P := w.params) 103 G₁₂ (by kernel_rfl) (by kernel_rfl) (by kernel_rfl) (by kernel_rfl) (by kernel_rfl) rfl (by decide +kernel) (ldN fr₁₂.ns mt (ldN fr₁₂.ns mr ⟨G₁₂, ?_⟩ (by kernel_rfl) (by kernel_rfl)) (by kernel_rfl) (by kernel_rfl))
    refine wpAny_call (units_spec G₁₂ ((r' _).less (by omega)) (by omega) (hd₁₀.keep hk12) h6 fun D2 vs2 s₁₃ pl₁₃ us₁₃ hD2 ok₁₃ => ?_)
    have hu2 : (uAll refs (partsOf l) (partsOf l).length).2.2 = iterE 0 false (spell refs l) := Pk.p2
    rw [hu2] at us₁₃
    refine ne_units (pl₁₂.keeps ok₁₃.keep) (us₁₂.mono (.of_keep ok₁₃.keep)) pl₁₃ us₁₃ ?_ (wpAny_truthy_bool ?_)
    · have := (r' (envOf "law" lawScope s.heap.objs.size 120 (.ref 119))).units
      show (A.deeper (envOf "law" lawScope s.heap.objs.size 120 (.ref 119))).units + 5 < 9900
      omega
    rw [if_neg Bool.false_ne_true]
    refine wpAny_execs_nil ?_
    have ok₉ : Ok s₉ s₁₃ := ok₁₀.trans (ok₁₂.trans ok₁₃)
    have fr₁₃ := Fr.kept fr₉ ok₉.keep
    have hd₁₃ := hd₉.keep ok₉.keep
    have tS₁₃ := tS₉.keep ok₉.keep
    have tO₁₃ := tO₉.keep ok₉.keep
    clear fr₁₀ fr₁₂ G₁₀ G₁₂ hd₁₀ pl₁₂ us₁₂ pl₁₃ us₁₃ hk₁₂ hk12 gst ok₁₀ ok₁₁ ok₁₂ ok₁₃ hgen hos hD2
    -- left = outside; if '"' in refs: left = signs
    refine wpAny_execs_cons ?_
    refine asg (h₀ := s.heap) ?e1 ?e2 ?e3 ?e4
    case e1 => kernel_rfl
    case e2 => kernel_rfl
    case e4 => rfl
    refine ldN fr₁₃.ns ln.outside ⟨_, fr₁₃, fun s₁₄ fr₁₄ hs₁₄ sm₁₄ => ?_⟩ (by kernel_rfl) (by kernel_rfl)
    have tS₁₄ : TL s₁₄.heap Sg (sgs l) := tS₁₃.pk fun _ y => y.extBut hs₁₄.extBut hSgL'
    have tO₁₄ : TL s₁₄.heap Og (outsOf (sgs l)) := tO₁₃.pk fun _ y => y.extBut hs₁₄.extBut hOgL
    have hd₁₄ : DRef prog w s₁₄.heap d refs := ⟨hd₁₃.1, let ⟨kvs, x, y⟩ := hd₁₃.2; ⟨kvs, x.extBut hs₁₄.extBut hdL, y⟩⟩
    have kL₁₄ : ∀ b o, b ≠ s.heap.objs.size → s₉.heap.get? b = some o → s₁₄.heap.get? b = some o := fun b o hb e => (hs₁₄.2 b hb).trans (ok₉.keep b o e)
    have gs₁₄ : Gs s₉ s₁₄ := ok₉.gs.trans sm₁₄.gs
    obtain ⟨m₁₄, ln₁₄, mw₁₄, mr₁₄, ml₁₄, fr₁₄⟩ : ∃ m', LN l Sg Og m' ∧ m' "written" = some (.str (T (spell refs l)) tw) ∧ m' "refs" = some (.ref d) ∧ m' "left" = some (.ref Og) ∧ Fr s.heap s.heap.objs.size s₁₄.heap m' :=
      ⟨_, ln.put (by decide +kernel), put_of (by decide +kernel) mw, put_of (by decide +kernel) mr, put_eq, fr₁₄⟩
    clear hs₁₄ sm₁₄ fr₁₃ hd₁₃ tS₁₃ tO₁₃ ok₉ fr₉ mw mr mt ln hd₉ tS₉ tO₉ G₉
    refine wpAny_execs_cons (wpAny_mono (Q := fun f s' => f = .next ∧ ∃ m' La, LN l Sg Og m' ∧ m' "written" = some (.str (T (spell refs l)) tw) ∧ m' "refs" = some (.ref d) ∧ m' "left" = some (.ref La) ∧ TL s'.heap La (leftOf refs l) ∧ La ≠ s.heap.objs.size ∧ Fr s.heap s.heap.objs.size s'.heap m' ∧ DRef prog w s'.heap d refs ∧
      (∀ b o, b ≠ s.heap.objs.size → s₁₄.heap.get? b = some o → s'.heap.get? b = some o) ∧ Gs s₁₄ s') (E := fun _ _ => False) ?_ ?_ fun _ _ x => x)
    · refine wpAny_If (wpAny_isTrue_Compare1 (wpAny_Constant_str (ldN (s := { s₁₄ with toks := s₁₄.toks + 1 }) fr₁₄.ns mr₁₄ ?_ (by kernel_rfl) (by kernel_rfl))) rfl)
      obtain ⟨hsys, kvs, hdo, hkv⟩ := id hd₁₄
      refine wpAny_in_of (knd := PySem.strKind prog w) (PySem.strKind_is prog w _ _) hsys hdo.mapOf (wpAny_truthy_bool ?_)
      rw [show (Str.ofString "\"" : Str) = T [34] by decide +kernel, hkv.has 34]
      by_cases h34 : (refs.lookup 34).isSome = true
      · rw [h34, if_pos rfl]
        have hlf : leftOf refs l = sgs l := by unfold leftOf; rw [if_pos h34]
        refine wpAny_execs_cons ?_
        refine asg (h₀ := s.heap) ?f1 ?f2 ?f3 ?f4
        case f1 => kernel_rfl
        case f2 => kernel_rfl
        case f4 => rfl
        refine ldN (s := { s₁₄ with toks := s₁₄.toks + 1 + 1 }) fr₁₄.ns ln₁₄.signs ⟨_, fr₁₄, fun s₁₅ fr₁₅ hs₁₅ sm₁₅ => wpAny_execs_nil ?_⟩ (by kernel_rfl) (by kernel_rfl)
        refine ⟨rfl, _, Sg, ln₁₄.put (by decide +kernel), put_of (by decide +kernel) mw₁₄, put_of (by decide +kernel) mr₁₄, put_eq, ?_, hSgL', fr₁₅, ⟨hd₁₄.1, let ⟨kvs, x, y⟩ := hd₁₄.2; ⟨kvs, x.extBut hs₁₅.extBut hdL, y⟩⟩, fun b o hb e => (hs₁₅.2 b hb).trans e, (⟨sm₁₅.gens, sm₁₅.os⟩ : Sm s₁₄ s₁₅).gs⟩
        rw [hlf]; exact tS₁₄.pk fun _ y => y.extBut hs₁₅.extBut hSgL'
      · have hlf : leftOf refs l = outsOf (sgs l) := by unfold leftOf; rw [if_neg h34]
        rw [Bool.not_eq_true] at h34
        rw [h34, if_neg Bool.false_ne_true]
        refine wpAny_execs_nil ⟨rfl, _, Og, ln₁₄, mw₁₄, mr₁₄, ml₁₄, ?_, hOgL, fr₁₄, hd₁₄, fun b o _ e => e, ⟨rfl, fun h => h, fun _ _ e => e⟩⟩
        rw [hlf]; exact tO₁₄
    rintro f s₁₅ ⟨rfl, m₁₅, La, ln₁₅, mw, mr, ml, tL₁₅, hLaL, fr₁₅, hd₁₅, kL₁₅, gs₁₅⟩
    have kL' : ∀ b o, b ≠ s.heap.objs.size → s₉.heap.get? b = some o → s₁₅.heap.get? b = some o := fun b o hb e => kL₁₅ b o hb (kL₁₄ b o hb e)
    have gs' : Gs s₉ s₁₅ := gs₁₄.trans gs₁₅
    clear kL₁₅ gs₁₅ kL₁₄ gs₁₄ fr₁₄ ln₁₄ mw₁₄ mr₁₄ ml₁₄ hd₁₄ tS₁₄ tO₁₄
    obtain ⟨hlb1, hlb2⟩ := left_bd (refs := refs) (l := l) (by omega)
    have hfl := flat_bd hlb2
    -- _strip_quoted_realnames(written) != _law_spelled(''.join(left), refs)
    have G₁₅ : Gl w.params s₁₅.heap := G.keeps fr₁₅.keep
    refine wpAny_execs_cons (wpAny_If (wpAny_isTrue_Compare1 ?_ rfl))
    refine callG1 (P := w.params) 28 G₁₅ (by kernel_rfl) (by kernel_rfl) (by kernel_rfl) (by kernel_rfl) (by kernel_rfl) rfl (by decide +kernel) (ldN fr₁₅.ns mw ⟨G₁₅, ?_⟩ (by kernel_rfl) (by kernel_rfl))
    refine wpAny_call (strip_spec G₁₅ ((r' _).less (by omega)) (by omega) fun t₁ s₁₆ ok₁₆ => ?_)
    have fr₁₆ := Fr.kept fr₁₅ ok₁₆.keep
    have G₁₆ := G₁₅.keeps ok₁₆.keep
    obtain ⟨pL, plL, hpL⟩ := tL₁₅.keep ok₁₆.keep
    refine callG2 (P := w.params) 96 G₁₆ (by kernel_rfl) (by kernel_rfl) (by kernel_rfl) (by kernel_rfl) (by kernel_rfl) rfl (by decide +kernel) ?_
    refine Call_method1 rfl rfl rfl (wpAny_Constant_str (on1 F.plainAttrs_str F.slot_str_join F.type_str_join (typeIs_str _ _ _) (fun _ e => nomatch e) (ldN (s := { s₁₆ with toks := s₁₆.toks + 1 }) fr₁₆.ns ml ?_ (by kernel_rfl) (by kernel_rfl))))
    refine SC.join plL.isList hpL (joinOk_T (N := 40000) (B := 2) hlb1 hlb2 (by decide)) fun t₂ k₂ => ?_
    rw [join_T]
    refine ldN (s := { s₁₆ with toks := k₂ }) fr₁₆.ns mr ⟨G₁₆, ?_⟩ (by kernel_rfl) (by kernel_rfl)
    refine wpAny_call (spelled_spec (s := { s₁₆ with toks := k₂ }) G₁₆ ((r' _).less (by omega)) (by omega) (hd₁₅.keep ok₁₆.keep) h6 fun t₃ s₁₇ ok₁₇ => P.ne_str (wpAny_truthy_bool ?_))
    rw [← Pk.p3, show ((T (stripP (spell refs l))).cps.toList != (T (stripP (spell refs l))).cps.toList) = false by simp, if_neg Bool.false_ne_true]
    refine wpAny_execs_nil ?_
    have ok₁₅ : Ok s₁₅ s₁₇ := ⟨fun b o e => ok₁₇.keep b o (ok₁₆.keep b o e), ok₁₇.os.trans ok₁₆.os, fun h => ok₁₇.bare (ok₁₆.bare h), fun i g e => ok₁₇.gens i g (ok₁₆.gens i g e)⟩
    have fr₁₇ := Fr.kept fr₁₅ ok₁₅.keep
    have G₁₇ := G₁₅.keeps ok₁₅.keep
    -- taken
    refine wpAny_execs_cons ?_
    refine asg (h₀ := s.heap) ?g1 ?g2 ?g3 ?g4
    case g1 => kernel_rfl
    case g2 => kernel_rfl
    case g4 => rfl
    refine callG1 (P := w.params) 35 G₁₇ (by kernel_rfl) (by kernel_rfl) (by kernel_rfl) (by kernel_rfl) (by kernel_rfl) rfl (by decide +kernel) (ldN fr₁₇.ns mw ⟨G₁₇, ?_⟩ (by kernel_rfl) (by kernel_rfl))
    refine wpAny_call (check_spec G₁₇ ((r' _).less (by omega)) (by omega) fun s₁₈ ok₁₈ => ⟨m₁₅, Fr.kept fr₁₇ ok₁₈.keep, fun s₁₉ fr₁₉ hs₁₉ sm₁₉ => ?_⟩)
    have hp4 : balF 0 ((iterE 0 false (stripP (spell refs l))).map (·.2)) = balF 0 (leftOf refs l) := Pk.p4
    rw [hp4] at fr₁₉
    have ok₁₈' := ok₁₅.trans ok₁₈
    obtain ⟨pL', plL', hpL'⟩ := (tL₁₅.keep ok₁₈'.keep).pk (h' := s₁₉.heap) fun _ y => y.extBut hs₁₉.extBut hLaL
    obtain ⟨m₁₉, ln₁₉, mk₁₉, ml₁₉, fr₁₉⟩ : ∃ m', LN l Sg Og m' ∧ m' "taken" = some (.bool (balF 0 (leftOf refs l))) ∧ m' "left" = some (.ref La) ∧ Fr s.heap s.heap.objs.size s₁₉.heap m' := ⟨_, ln₁₅.put (by decide +kernel), put_eq, put_of (by decide +kernel) ml, fr₁₉⟩
    have kL₁₉ : ∀ b o, b ≠ s.heap.objs.size → s₉.heap.get? b = some o → s₁₉.heap.get? b = some o := fun b o hb e => (hs₁₉.2 b hb).trans (ok₁₈'.keep b o (kL' b o hb e))
    have gs₁₉ : Gs s₉ s₁₉ := gs'.trans (ok₁₈'.gs.trans sm₁₉.gs)
    have G₁₉ : Gl w.params s₁₉.heap := G.keeps fr₁₉.keep
    refine wpAny_execs_cons (wpAny_If (wpAny_isTrue_BoolOp (wpAny_allTrue_Or_cons (wpAny_isTrue_Not (wpAny_isTrue_value ?_ rfl)))))
    refine callB2 (P := w.params) "isinstance" G₁₉ (by kernel_rfl) boot_isi (by decide +kernel) (by kernel_rfl) (by kernel_rfl) (by kernel_rfl) (by kernel_rfl) rfl (by decide +kernel) (ldN fr₁₉.ns mk₁₉ (nm_blt (P := w.params) G₁₉ (by kernel_rfl) boot_bool (by decide +kernel) ?_ (by kernel_rfl) (by kernel_rfl) (by kernel_rfl) (by kernel_rfl) (by decide +kernel)) (by kernel_rfl) (by kernel_rfl))
    refine IsiPair.bool_bool (wpAny_truthy_bool ?_)
    rw [Bool.not_true, if_neg Bool.false_ne_true]
    refine wpAny_allTrue_Or_cons (wpAny_isTrue_Compare1 (ldN fr₁₉.ns mk₁₉ ?_ (by kernel_rfl) (by kernel_rfl)) rfl)
    refine callG1 (P := w.params) 115 G₁₉ (by kernel_rfl) (by kernel_rfl) (by kernel_rfl) (by kernel_rfl) (by kernel_rfl) rfl (by decide +kernel) (ldN fr₁₉.ns ml₁₉ ⟨G₁₉, ?_⟩ (by kernel_rfl) (by kernel_rfl))
    refine wpAny_call (closes_spec G₁₉ ((r' _).less (by omega)) plL'.isList hpL' (by omega) fun s₂₀ ok₂₀ => ne_bool (wpAny_truthy_bool ?_))
    rw [show (balF 0 (leftOf refs l) != balF 0 (leftOf refs l)) = false by simp, if_neg Bool.false_ne_true]
    refine wpAny_allTrue_Or_nil ?_
    rw [if_neg Bool.false_ne_true]
    exact wpAny_execs_nil (wpAny_execs_nil ⟨fun b o hb e => ok₂₀.keep b o (kL₁₉ b o hb e), gs₁₉.trans ok₂₀.gs, m₁₉, Fr.kept fr₁₉ ok₂₀.keep, ln₁₉⟩)
end
end
end Mine

namespace Mine
section
open PySem
set_option autoImplicit false
/-- the signs of a text -/
def sg : Bool → List Nat → Sgs
  | true, [] => [[92]]
  | false, [] => []
  | true, c :: r => [92, c] :: sg false r
  | false, c :: r => if c = 92 then sg true r else [c] :: sg false r
theorem sg_iter : ∀ (l : List Nat) (p : Nat) (esc : Bool), (iterE p esc l).map (·.2) = sg esc l
  | [], p, true => rfl
  | [], p, false => rfl
  | c :: r, p, true => by rw [iterE, sg, List.map_cons, sg_iter r]
  | c :: r, p, false => by
    rw [iterE, sg]
    split
    · exact sg_iter r _ _
    · rw [List.map_cons, sg_iter r]
theorem sgs_sg (l : List Nat) : sgs l = sg false l := sg_iter l 0 false
theorem sg_flat : ∀ (l : List Nat) (esc : Bool), (sg esc l).flatten = (if esc then [92] else []) ++ l
  | [], true => rfl
  | [], false => rfl
  | c :: r, true => by rw [sg, List.flatten_cons, sg_flat r]; simp
  | c :: r, false => by
    rw [sg]
    split
    · rename_i h; rw [sg_flat r]; simp [h]
    · rw [List.flatten_cons, sg_flat r]; simp
theorem sg_plain : ∀ (w r : List Nat), 92 ∉ w → sg false (w ++ r) = w.map (fun c => [c]) ++ sg false r
  | [], r, _ => rfl
  | c :: w, r, h => by
    have h1 : ¬ c = 92 := fun e => h (e ▸ List.mem_cons_self ..)
    rw [List.cons_append, sg, if_neg h1, sg_plain w r (fun m => h (List.mem_cons_of_mem _ m))]; rfl

/-- a table that neither holds nor makes backslashes and brackets, and no marks but for its own -/
structure Good (refs : List (Nat × List Nat)) : Prop where
  b : look refs 92 = [92]
  o : look refs 40 = [40]
  c : look refs 41 = [41]
  ne : ∀ d, look refs d ≠ []
  nb : ∀ d, d ≠ 92 → 92 ∉ look refs d
  nq : ∀ d, d ≠ 34 → 34 ∉ look refs d
  nk : ∀ d, d ≠ 40 → d ≠ 41 → 40 ∉ look refs d ∧ 41 ∉ look refs d
  q : if (refs.lookup 34).isSome then 34 ∉ look refs 34 else look refs 34 = [34]

def goodB (refs : List (Nat × List Nat)) : Bool := refs.all fun p => p.1 != 92 && p.1 != 40 && p.1 != 41 && p.2 != [] && !p.2.contains 92 && !p.2.contains 34 && !p.2.contains 40 && !p.2.contains 41
theorem look_cases (refs : List (Nat × List Nat)) (d : Nat) : (look refs d = [d] ∧ refs.lookup d = none) ∨ ∃ z, look refs d = z ∧ (d, z) ∈ refs := by
  unfold look
  cases h : refs.lookup d with
  | none => exact .inl ⟨rfl, rfl⟩
  | some z => exact .inr ⟨z, rfl, lookup_mem h⟩
theorem good_of {refs : List (Nat × List Nat)} (h : goodB refs = true) : Good refs := by
  have hm : ∀ d z, (d, z) ∈ refs → d ≠ 92 ∧ d ≠ 40 ∧ d ≠ 41 ∧ z ≠ [] ∧ 92 ∉ z ∧ 34 ∉ z ∧ 40 ∉ z ∧ 41 ∉ z := by
    intro d z hz
    have := List.all_eq_true.mp h (d, z) hz
    simpa [and_assoc] using this
  refine ⟨?_, ?_, ?_, fun d => ?_, fun d hd => ?_, fun d hd => ?_, fun d h1 h2 => ?_, ?_⟩
  · rcases look_cases refs 92 with ⟨e, _⟩ | ⟨z, e, hz⟩
    · exact e
    · exact absurd rfl (hm _ _ hz).1
  · rcases look_cases refs 40 with ⟨e, _⟩ | ⟨z, e, hz⟩
    · exact e
    · exact absurd rfl (hm _ _ hz).2.1
  · rcases look_cases refs 41 with ⟨e, _⟩ | ⟨z, e, hz⟩
    · exact e
    · exact absurd rfl (hm _ _ hz).2.2.1
  · rcases look_cases refs d with ⟨e, _⟩ | ⟨z, e, hz⟩
    · rw [e]; simp
    · rw [e]; exact (hm _ _ hz).2.2.2.1
  · rcases look_cases refs d with ⟨e, _⟩ | ⟨z, e, hz⟩
    · rw [e]; simpa using Ne.symm hd
    · rw [e]; exact (hm _ _ hz).2.2.2.2.1
  · rcases look_cases refs d with ⟨e, _⟩ | ⟨z, e, hz⟩
    · rw [e]; simpa using Ne.symm hd
    · rw [e]; exact (hm _ _ hz).2.2.2.2.2.1
  · rcases look_cases refs d with ⟨e, _⟩ | ⟨z, e, hz⟩
    · rw [e]; exact ⟨by simpa using Ne.symm h1, by simpa using Ne.symm h2⟩
    · rw [e]; exact (hm _ _ hz).2.2.2.2.2.2
  · split
    · rename_i hs
      rcases look_cases refs 34 with ⟨e, hn⟩ | ⟨z, e, hz⟩
      · rw [hn] at hs; cases hs
      · rw [e]; exact (hm _ _ hz).2.2.2.2.2.1
    · rename_i hs
      rcases look_cases refs 34 with ⟨e, hn⟩ | ⟨z, e, hz⟩
      · exact e
      · unfold look
        cases hl : refs.lookup 34 with
        | none => rfl
        | some z => rw [hl] at hs; exact absurd rfl hs

theorem spell_cons (refs : List (Nat × List Nat)) (c : Nat) (r : List Nat) : spell refs (c :: r) = look refs c ++ spell refs r := by unfold spell; rw [List.flatMap_cons]
theorem spell_app (refs : List (Nat × List Nat)) (a b : List Nat) : spell refs (a ++ b) = spell refs a ++ spell refs b := by unfold spell; rw [List.flatMap_append]

section
variable {refs : List (Nat × List Nat)}
theorem sg_look (g : Good refs) (c : Nat) (r : List Nat) : sg true (look refs c ++ r) = sg true (look refs c) ++ sg false r := by
  by_cases hc : c = 92
  · subst hc; rw [g.b]; rfl
  · cases h : look refs c with
    | nil => exact absurd h (g.ne c)
    | cons d w =>
      have hw : 92 ∉ w := fun m => g.nb c hc (h ▸ List.mem_cons_of_mem _ m)
      have e := sg_plain w [] hw
      rw [List.append_nil] at e
      rw [List.cons_append, sg, sg, sg_plain w r hw, e]; simp [sg]
theorem sg_spell (g : Good refs) : ∀ (l : List Nat) (esc : Bool), sg esc (spell refs l) = (sg esc l).flatMap fun x => sg false (spell refs x)
  | [], true => by
    simp [sg, spell]
    rw [g.b]; rfl
  | [], false => by simp [sg, spell]
  | c :: r, true => by
    have e : spell refs [92, c] = 92 :: look refs c := by rw [spell_cons, g.b, spell_cons]; simp [spell]
    rw [spell_cons, sg_look g, sg_spell g r false, sg, List.flatMap_cons, e]
    congr 1
  | c :: r, false => by
    by_cases hc : c = 92
    · subst hc
      rw [spell_cons, g.b]
      show sg false (92 :: spell refs r) = _
      rw [sg, if_pos rfl, sg, if_pos rfl]
      exact sg_spell g r true
    · have e : spell refs [c] = look refs c := by rw [spell_cons]; simp [spell]
      have e2 := sg_plain (look refs c) [] (g.nb c hc)
      rw [List.append_nil] at e2
      rw [spell_cons, sg_plain _ _ (g.nb c hc), sg_spell g r false, sg, if_neg hc, List.flatMap_cons, e, e2]
      simp [sg]
end

/-- the runs of backslashes -/
theorem dbls_cons (p n : Nat) : dbls p (n + 1) = (p + 1, [92, 92]) :: dbls (p + 2) n := by
  unfold dbls
  rw [List.range_succ_eq_map, List.map_cons, List.map_map]
  congr 1
  apply List.map_congr_left
  intro j _
  simp; omega
theorem iter_run : ∀ (r p : Nat) (t : List Nat), iterE p false (List.replicate r 92 ++ t) = dbls p (r / 2) ++ iterE (p + r) (decide (r % 2 = 1)) t
  | 0, p, t => by simp [dbls]
  | 1, p, t => by simp [dbls, iterE]
  | r + 2, p, t => by
    have ih := iter_run r (p + 2) t
    have e1 : (r + 2) / 2 = r / 2 + 1 := by omega
    have e2 : (r + 2) % 2 = r % 2 := by omega
    have e3 : p + (r + 2) = p + 2 + r := by omega
    rw [e1, e2, e3, dbls_cons, List.cons_append, ← ih]
    show iterE p false (92 :: 92 :: (List.replicate r 92 ++ t)) = _
    rw [iterE, if_pos rfl, iterE]
theorem iter_emit : ∀ (w t : List Nat) (p : Nat), 92 ∉ w → iterE p false (w ++ t) = emit p [] w ++ iterE (p + w.length) false t
  | [], t, p, _ => rfl
  | c :: w, t, p, h => by
    have h1 : ¬ c = 92 := fun e => h (e ▸ List.mem_cons_self ..)
    rw [List.cons_append, iterE, if_neg h1, iter_emit w t (p + 1) (fun m => h (List.mem_cons_of_mem _ m)), emit, List.length_cons]
    have : p + (w.length + 1) = p + 1 + w.length := by omega
    rw [this]; rfl
theorem iter_block (p r : Nat) (sp rest : List Nat) (h92 : 92 ∉ sp) (h : sp ≠ [] ∨ rest = []) :
    iterE p false (List.replicate r 92 ++ (sp ++ rest)) = (dbls p (r / 2) ++ ((if sp = [] ∧ heldOf r ≠ [] then [(p + r - 1, heldOf r)] else []) ++ emit (p + r) (heldOf r) sp)) ++ iterE (p + r + sp.length) false rest := by
  rw [iter_run, List.append_assoc]
  congr 1
  rcases Nat.mod_two_eq_zero_or_one r with hr | hr
  · have hh : heldOf r = [] := by unfold heldOf; rw [hr]; rfl
    rw [hh, if_neg (by simp), hr]
    show iterE (p + r) false (sp ++ rest) = _
    rw [iter_emit sp rest _ h92]; rfl
  · have hh : heldOf r = [92] := by unfold heldOf; rw [hr]; rfl
    rw [hh, hr]
    show iterE (p + r) true (sp ++ rest) = _
    cases sp with
    | nil =>
      have hr0 : rest = [] := by rcases h with h | h; exact absurd rfl h; exact h
      subst hr0
      rw [if_pos ⟨rfl, by simp⟩]; rfl
    | cons c w =>
      rw [if_neg (by simp), List.cons_append, iterE, iter_emit w rest _ (fun m => h92 (List.mem_cons_of_mem _ m)), emit, List.length_cons]
      have : p + r + (w.length + 1) = p + r + 1 + w.length := by omega
      rw [this]; rfl

section
variable {refs : List (Nat × List Nat)}
theorem spell_free (g : Good refs) : ∀ {w : List Nat}, 92 ∉ w → 92 ∉ spell refs w
  | [], _ => by simp [spell]
  | c :: w, h => by
    have h1 : c ≠ 92 := fun e => h (e ▸ List.mem_cons_self ..)
    rw [spell_cons]
    intro m
    rcases List.mem_append.mp m with m | m
    · exact g.nb c h1 m
    · exact spell_free g (fun x => h (List.mem_cons_of_mem _ x)) m
theorem spell_ne (g : Good refs) {w : List Nat} (h : w ≠ []) : spell refs w ≠ [] := by
  cases w with
  | nil => exact absurd rfl h
  | cons c w =>
    rw [spell_cons]
    intro e
    exact g.ne c (List.append_eq_nil_iff.mp e).1

def tailT (refs : List (Nat × List Nat)) (parts : List (List Nat)) (k : Nat) : List Nat :=
  if k = 0 then spell refs (parts.getD 0 []) ++ (parts.drop 1).flatMap (fun x => 92 :: spell refs x) else (parts.drop k).flatMap fun x => 92 :: spell refs x
theorem tail_step {parts : List (List Nat)} {k run : Nat} (hk : k < parts.length) :
    List.replicate run 92 ++ tailT refs parts k = List.replicate (uRun k run) 92 ++ (spell refs (parts.getD k []) ++ tailT refs parts (k + 1)) := by
  unfold tailT uRun
  rw [if_neg (Nat.succ_ne_zero k)]
  by_cases h0 : k = 0
  · subst h0; rw [if_pos rfl, if_neg (by omega)]
  · rw [if_neg h0, if_pos (by omega), List.replicate_succ', List.append_assoc]
    congr 1
    rw [List.drop_eq_getElem_cons hk, List.flatMap_cons, List.getD_eq_getElem?_getD, List.getElem?_eq_getElem hk]
    rfl
theorem units_inv (g : Good refs) {parts : List (List Nat)} (hf : ∀ p ∈ parts, 92 ∉ p) : ∀ k, k ≤ parts.length →
    iterE 0 false (tailT refs parts 0) = (uAll refs parts k).2.2 ++ iterE (uAll refs parts k).1 false (List.replicate (uAll refs parts k).2.1 92 ++ tailT refs parts k) ∧ (k = parts.length → 0 < k → (uAll refs parts k).2.1 = 0)
  | 0, _ => by refine ⟨?_, fun _ h => absurd h (by omega)⟩; simp [uAll]
  | k + 1, hk => by
    have ih := (units_inv g hf k (by omega)).1
    have hlt : k < parts.length := hk
    rw [tail_step hlt] at ih
    rw [uAll_succ]
    generalize uAll refs parts k = q at ih
    obtain ⟨place, run, us⟩ := q
    simp only at ih
    have hmem : parts.getD k [] ∈ parts := by rw [List.getD_eq_getElem?_getD, List.getElem?_eq_getElem hlt]; exact List.getElem_mem hlt
    have h92 := spell_free g (hf _ hmem)
    unfold uTurn
    by_cases hT : parts.getD k [] ≠ [] ∨ k + 1 = parts.length
    · rw [if_pos hT]
      refine ⟨?_, fun _ _ => rfl⟩
      simp only
      rw [ih, iter_block place (uRun k run) (spell refs (parts.getD k [])) (tailT refs parts (k + 1)) h92 ?_, ← List.append_assoc]
      · rfl
      · rcases hT with h | h
        · exact .inl (spell_ne g h)
        · right; unfold tailT; rw [if_neg (Nat.succ_ne_zero k), h, List.drop_length]; rfl
    · rw [if_neg hT]
      simp only [not_or, Classical.not_not] at hT
      refine ⟨?_, fun h _ => absurd h hT.2⟩
      simp only
      rw [ih, hT.1]
      simp [spell]
theorem units_law (g : Good refs) (l : List Nat) : (uAll refs (partsOf l) (partsOf l).length).2.2 = iterE 0 false (spell refs l) := by
  have hf : ∀ p ∈ partsOf l, 92 ∉ p := by
    intro p hp
    obtain ⟨x, hx, rfl⟩ := List.mem_map.mp hp
    exact StrLaws.split_free (T l) 92 x hx
  have hj := StrLaws.join_split (T l) ⟨#[92]⟩
  obtain ⟨p, ps, e⟩ : ∃ p ps, Txt.split (T l) ⟨#[92]⟩ = p :: ps := by
    cases h : Txt.split (T l) ⟨#[92]⟩ with
    | nil =>
      exfalso
      unfold Txt.split at h
      split at h
      · cases h
      · split at h
        · cases h
        · rw [StrLaws.partsBetween_eq] at h
          obtain ⟨a, b, e⟩ := StrLaws.partsFrom_ne (T l) (⟨#[92]⟩ : Str).length 0 (Builtin.Str.occurrences (T l) ⟨#[92]⟩ 0 (T l).length ((T l).length + 1))
          rw [e] at h; cases h
    | cons p ps => exact ⟨p, ps, rfl⟩
  rw [e] at hj
  have hj2 := congrArg (fun x : Str => x.cps.toList) hj
  have hj3 : p.cps.toList ++ ps.flatMap (fun x => [92] ++ x.cps.toList) = l := by
    have := join_flat [92] ps p
    rw [← this]; exact hj2
  have hparts : partsOf l = p.cps.toList :: ps.map (·.cps.toList) := by unfold partsOf; rw [e]; rfl
  have htail : tailT refs (partsOf l) 0 = spell refs l := by
    unfold tailT
    rw [if_pos rfl, hparts]
    conv => rhs; rw [← hj3]
    rw [spell_app]
    have : ∀ qs : List Str, ((qs.map (·.cps.toList)).flatMap fun x => 92 :: spell refs x) = spell refs (qs.flatMap fun x => [92] ++ x.cps.toList) := by
      intro qs
      induction qs with
      | nil => rfl
      | cons q qs ih =>
        rw [List.map_cons, List.flatMap_cons, List.flatMap_cons, spell_app, ih, spell_app]
        have : spell refs [92] = [92] := by rw [spell_cons, g.b]; rfl
        rw [this]; rfl
    rw [← this]; rfl
  have hinv := units_inv g hf (partsOf l).length (Nat.le_refl _)
  have hpos : 0 < (partsOf l).length := by rw [hparts]; simp
  rw [hinv.2 rfl hpos, htail] at hinv
  have ht : tailT refs (partsOf l) (partsOf l).length = [] := by
    unfold tailT; rw [if_neg (by omega), List.drop_length]; rfl
  rw [ht] at hinv
  have := hinv.1
  simpa [iterE] using this.symm
end
end
end Mine

namespace Mine
section
open PySem
set_option autoImplicit false
/-- the even fields, joined -/
def ev : List Sgs → Sgs
  | [] => []
  | [a] => a
  | a :: _ :: r => a ++ ev r
theorem ev_snoc : ∀ (fs : List Sgs) (x : Sgs), ev (fs ++ [x]) = if fs.length % 2 = 0 then ev fs ++ x else ev fs
  | [], x => by simp [ev]
  | [a], x => by simp [ev]
  | a :: b :: r, x => by
    have ih := ev_snoc r x
    have e : (a :: b :: r).length % 2 = r.length % 2 := by simp; omega
    rw [e]
    show ev (a :: b :: (r ++ [x])) = _
    rw [ev, ih, ev]
    split
    · rw [List.append_assoc]
    · rfl
theorem lTo_ev : ∀ (fs : List Sgs), lTo fs ((fs.length + 1) / 2) = ev fs
  | [] => rfl
  | [a] => by simp [lTo, ev]
  | a :: b :: r => by
    have ih := lTo_ev r
    have e : ((a :: b :: r).length + 1) / 2 = (r.length + 1) / 2 + 1 := by simp; omega
    rw [e, ev, ← ih]
    unfold lTo
    rw [List.range_succ_eq_map, List.flatMap_cons, List.flatMap_map]
    congr 1
theorem outs_ev (xs : Sgs) : outsOf xs = (if (fTo xs xs.length).1.length % 2 = 0 then ev (fTo xs xs.length).1 ++ (fTo xs xs.length).2 else ev (fTo xs xs.length).1 ++ [34] :: (fTo xs xs.length).2) := by
  unfold outsOf
  rw [lTo_ev]
  unfold fAll
  rw [ev_snoc, List.length_append, List.length_singleton]
  split
  · rename_i h; rw [if_neg (by omega), List.append_nil]
  · rename_i h; rw [if_pos (by omega)]
theorem fTo_all (xs : Sgs) : fTo xs xs.length = xs.foldl fStep ([], []) := by unfold fTo; rw [List.take_length]

/-- the walk of _strip_quoted_realnames over the units, and the fields -/
structure SRel (W : List Nat) (q : List Sgs × Sgs) (st : Nat × Option Nat × List (List Nat)) : Prop where
  even : q.1.length % 2 = 0 → st.2.1 = none ∧ st.1 ≤ W.length ∧ W.drop st.1 = q.2.flatten ∧ st.2.2.flatten = (ev q.1).flatten
  odd : q.1.length % 2 = 1 → ∃ (ini : List Sgs) (last : Sgs), q.1 = ini ++ [last] ∧ st.2.1 = some (st.1 + last.flatten.length) ∧ st.1 + last.flatten.length < W.length ∧ W.drop st.1 = last.flatten ++ 34 :: q.2.flatten ∧ st.2.2.flatten = (ev ini).flatten

theorem srel_step {l W rest x : List Nat} {p : Nat} {q : List Sgs × Sgs} {st : Nat × Option Nat × List (List Nat)} (r : SRel W q st) (hl : l = W ++ x ++ rest) (hp : p + 1 = (W ++ x).length) :
    SRel (W ++ x) (fStep q x) (stripStep l st (p, x)) := by
  obtain ⟨start, op, res⟩ := st
  obtain ⟨ini, cur⟩ := q
  unfold fStep stripStep
  by_cases hx : x = [34]
  · subst hx
    rw [if_pos rfl, if_pos rfl]
    have hpW : p = W.length := by simp at hp; omega
    rcases Nat.mod_two_eq_zero_or_one ini.length with h | h
    · obtain ⟨h1, h2, h3, h4⟩ := r.even h
      simp only at h1 h2 h3 h4
      subst h1
      have hlen : W.length - start = cur.flatten.length := by rw [← h3, List.length_drop]
      refine ⟨fun h' => ?_, fun _ => ⟨ini, cur, rfl, ?_, ?_, ?_, ?_⟩⟩
      · simp only [List.length_append, List.length_singleton] at h'; omega
      · show some p = some (start + cur.flatten.length); congr 1; omega
      · show start + cur.flatten.length < (W ++ [34]).length; simp; simp at hlen; omega
      · show (W ++ [34]).drop start = cur.flatten ++ 34 :: [].flatten
        rw [List.drop_append_of_le_length h2, h3]; rfl
      · exact h4
    · obtain ⟨ini', last, h1, h2, h3, h4, h5⟩ := r.odd h
      simp only at h1 h2 h3 h4 h5
      subst h1 h2
      refine ⟨fun _ => ⟨rfl, ?_, ?_, ?_⟩, fun h' => ?_⟩
      · show p + 1 ≤ (W ++ [34]).length; omega
      · show (W ++ [34]).drop (p + 1) = _; rw [hp, List.drop_length]; rfl
      · show (if start = start + last.flatten.length then res else res ++ [(l.drop start).take (start + last.flatten.length - start)]).flatten = (ev (ini' ++ [last] ++ [cur])).flatten
        have hodd : (ini' ++ [last]).length % 2 = 1 := h
        have hev : ini'.length % 2 = 0 := by simp at hodd; omega
        have ee : ev (ini' ++ [last] ++ [cur]) = ev ini' ++ last := by rw [ev_snoc, if_neg (by omega), ev_snoc, if_pos hev]
        rw [ee, List.flatten_append, ← h5]
        have htk : (l.drop start).take (start + last.flatten.length - start) = last.flatten := by
          rw [hl, List.append_assoc, List.drop_append_of_le_length (by omega), h4, List.append_assoc, Nat.add_sub_cancel_left, List.take_append_of_le_length (Nat.le_refl _), List.take_length]
        split
        · rename_i he
          have : last.flatten = [] := List.length_eq_zero_iff.mp (by omega)
          rw [this, List.append_nil]
        · rw [htk, List.flatten_append]; simp
      · simp only [List.length_append, List.length_singleton] at h' h; omega
  · rw [if_neg hx, if_neg hx]
    refine ⟨fun h => ?_, fun h => ?_⟩
    · obtain ⟨h1, h2, h3, h4⟩ := r.even h
      refine ⟨h1, by simp only [List.length_append]; simp only at h2; omega, ?_, h4⟩
      simp only at h2 h3 ⊢
      rw [List.drop_append_of_le_length h2, h3, List.flatten_append]; simp
    · obtain ⟨ini', last, h1, h2, h3, h4, h5⟩ := r.odd h
      refine ⟨ini', last, h1, h2, by simp only [List.length_append]; simp only at h3; omega, ?_, h5⟩
      simp only at h3 h4 ⊢
      rw [List.drop_append_of_le_length (by omega), h4, List.append_assoc, List.cons_append, List.flatten_append]; simp
theorem srel_all {l : List Nat} : ∀ (us : List (Nat × List Nat)) (W rest : List Nat) (q : List Sgs × Sgs) (st : Nat × Option Nat × List (List Nat)), SRel W q st → l = W ++ (us.map (·.2)).flatten ++ rest →
    (∀ a u b, us = a ++ u :: b → u.1 + 1 = (W ++ (a.map (·.2)).flatten ++ u.2).length) → SRel (W ++ (us.map (·.2)).flatten) ((us.map (·.2)).foldl fStep q) (us.foldl (stripStep l) st)
  | [], W, rest, q, st, r, _, _ => by simpa using r
  | u :: us, W, rest, q, st, r, hl, hp => by
    have h1 := hp [] u us rfl
    simp only [List.map_nil, List.flatten_nil, List.append_nil] at h1
    have r1 := srel_step (l := l) (rest := (us.map (·.2)).flatten ++ rest) (p := u.1) (x := u.2) r (by rw [hl]; simp [List.append_assoc]) h1
    have := srel_all (l := l) us (W ++ u.2) rest (fStep q u.2) (stripStep l st u) r1 (by rw [hl]; simp [List.append_assoc]) (fun a v b e => by
      have := hp (u :: a) v b (by rw [e]; rfl)
      simpa [List.append_assoc] using this)
    simpa [List.append_assoc] using this
theorem iter_place : ∀ (l : List Nat) (p : Nat) (esc : Bool) (a b : List (Nat × List Nat)) (u : Nat × List Nat), (esc = true → 1 ≤ p) → iterE p esc l = a ++ u :: b → u.1 + 1 + (if esc then 1 else 0) = p + ((a.map (·.2)).flatten ++ u.2).length
  | [], p, false, a, b, u, _, h => by simp [iterE] at h
  | [], p, true, a, b, u, hp, h => by
    have hp' := hp rfl
    cases a with
    | nil => simp [iterE] at h; rw [← h.1]; simp; omega
    | cons x a => simp [iterE] at h
  | c :: r, p, true, a, b, u, hp, h => by
    rw [iterE] at h
    cases a with
    | nil =>
      have : (p, [92, c]) = u := by simpa using (List.cons.inj h).1
      subst this; simp
    | cons x a =>
      obtain ⟨h1, h2⟩ := List.cons.inj h
      have ih := iter_place r (p + 1) false a b u (by simp) h2
      subst h1
      simp at ih ⊢; omega
  | c :: r, p, false, a, b, u, _, h => by
    rw [iterE] at h
    split at h
    · have ih := iter_place r (p + 1) true a b u (by simp) h
      simp at ih ⊢; omega
    · cases a with
      | nil =>
        have : (p, [c]) = u := by simpa using (List.cons.inj h).1
        subst this; simp
      | cons x a =>
        obtain ⟨h1, h2⟩ := List.cons.inj h
        have ih := iter_place r (p + 1) false a b u (by simp) h2
        subst h1
        simp at ih ⊢; omega
theorem strip_flat (l : List Nat) : (stripFin l (stripAll l (iterE 0 false l))).flatten = (outsOf (sgs l)).flatten := by
  have hfl : ((iterE 0 false l).map (·.2)).flatten = l := by rw [sg_iter, sg_flat]; simp
  have r := srel_all (l := l) (iterE 0 false l) [] [] ([], []) (0, none, []) ⟨fun _ => ⟨rfl, Nat.le_refl _, rfl, rfl⟩, fun h => absurd h (by simp)⟩ (by simpa using hfl.symm) (fun a u b e => by
    have := iter_place l 0 false a b u (by simp) e
    simpa using this)
  rw [hfl] at r
  simp only [List.nil_append] at r
  have hq : ((iterE 0 false l).map (·.2)).foldl fStep ([], []) = fTo (sgs l) (sgs l).length := (fTo_all _).symm
  rw [hq] at r
  rw [outs_ev]
  unfold stripAll
  generalize (iterE 0 false l).foldl (stripStep l) (0, none, []) = st at r
  generalize fTo (sgs l) (sgs l).length = q at r
  obtain ⟨start, op, res⟩ := st
  obtain ⟨ini, cur⟩ := q
  unfold stripFin
  rcases Nat.mod_two_eq_zero_or_one ini.length with h | h
  · obtain ⟨h1, h2, h3, h4⟩ := r.even h
    simp only at h1 h2 h3 h4 ⊢
    rw [if_pos h, List.flatten_append, ← h4]
    split
    · rw [List.flatten_append, ← h3]; simp
    · rename_i hs
      rw [← h3, List.drop_eq_nil_of_le (by omega), List.append_nil]
  · obtain ⟨ini', last, h1, h2, h3, h4, h5⟩ := r.odd h
    simp only at h1 h2 h3 h4 h5 ⊢
    subst h1
    have hodd : (ini' ++ [last]).length % 2 = 1 := h
    have hev : ini'.length % 2 = 0 := by simp at hodd; omega
    have ee : ev (ini' ++ [last]) = ev ini' ++ last := by rw [ev_snoc, if_pos hev]
    rw [if_neg (show ¬ (ini' ++ [last]).length % 2 = 0 by omega), ee, if_pos (show start < l.length by omega), List.flatten_append, List.flatten_append, List.flatten_append, ← h5]
    simp [h4]
end
end Mine

namespace Mine
section
open PySem
set_option autoImplicit false
theorem fold_no34 : ∀ (xs : Sgs) (q : List Sgs × Sgs), [34] ∉ xs → xs.foldl fStep q = (q.1, q.2 ++ xs)
  | [], q, _ => by simp
  | x :: xs, q, h => by
    have h1 : ¬ x = [34] := fun e => h (e ▸ List.mem_cons_self ..)
    rw [List.foldl_cons, fStep, if_neg h1, fold_no34 xs _ (fun m => h (List.mem_cons_of_mem _ m))]
    simp
theorem outs_fold (xs : Sgs) : outsOf xs = (if (xs.foldl fStep ([], [])).1.length % 2 = 0 then ev (xs.foldl fStep ([], [])).1 ++ (xs.foldl fStep ([], [])).2 else ev (xs.foldl fStep ([], [])).1 ++ [34] :: (xs.foldl fStep ([], [])).2) := by
  rw [outs_ev, fTo_all]
theorem sgs_flat (l : List Nat) : (sgs l).flatten = l := by rw [sgs_sg, sg_flat]; simp
theorem strip_sg (l : List Nat) : stripP l = (outsOf (sgs l)).flatten := by
  unfold stripP
  split
  · exact strip_flat l
  · rename_i h
    have hn : [34] ∉ sgs l := fun m => h (by rw [← sgs_flat l]; exact List.mem_flatten.mpr ⟨_, m, by simp⟩)
    rw [outs_fold, fold_no34 _ _ hn]
    simp [ev, sgs_flat]

def Cl (x : List Nat) : Prop := (∃ c, c ≠ 92 ∧ x = [c]) ∨ ∃ c, x = [92, c]
theorem sg_wf : ∀ (l : List Nat) (esc : Bool), ∃ ys : Sgs, (∀ y ∈ ys, Cl y) ∧ (sg esc l = ys ∨ sg esc l = ys ++ [[92]])
  | [], true => ⟨[], (fun _ h => nomatch h), .inr rfl⟩
  | [], false => ⟨[], (fun _ h => nomatch h), .inl rfl⟩
  | c :: r, true => by
    obtain ⟨ys, h1, h2⟩ := sg_wf r false
    refine ⟨[92, c] :: ys, fun y hy => ?_, ?_⟩
    · rcases List.mem_cons.mp hy with rfl | hy
      · exact .inr ⟨c, rfl⟩
      · exact h1 y hy
    · rw [sg]
      rcases h2 with h2 | h2
      · exact .inl (by rw [h2])
      · exact .inr (by rw [h2]; rfl)
  | c :: r, false => by
    rw [sg]
    split
    · exact sg_wf r true
    · rename_i hc
      obtain ⟨ys, h1, h2⟩ := sg_wf r false
      refine ⟨[c] :: ys, fun y hy => ?_, ?_⟩
      · rcases List.mem_cons.mp hy with rfl | hy
        · exact .inl ⟨c, hc, rfl⟩
        · exact h1 y hy
      · rcases h2 with h2 | h2
        · exact .inl (by rw [h2])
        · exact .inr (by rw [h2]; rfl)
theorem sg_join : ∀ (ys : Sgs) (r : List Nat), (∀ y ∈ ys, Cl y) → sg false (ys.flatten ++ r) = ys ++ sg false r
  | [], r, _ => rfl
  | y :: ys, r, h => by
    have ih := sg_join ys r fun z hz => h z (List.mem_cons_of_mem _ hz)
    rcases h y (List.mem_cons_self ..) with ⟨c, hc, rfl⟩ | ⟨c, rfl⟩
    · rw [List.flatten_cons, List.append_assoc]
      show sg false (c :: (ys.flatten ++ r)) = _
      rw [sg, if_neg hc, ih]; rfl
    · rw [List.flatten_cons, List.append_assoc]
      show sg false (92 :: c :: (ys.flatten ++ r)) = _
      rw [sg, if_pos rfl, sg, ih]; rfl
theorem outs_snoc (ys : Sgs) : outsOf (ys ++ [[92]]) = outsOf ys ++ [[92]] := by
  rw [outs_fold, outs_fold, List.foldl_append]
  have e : [[92]].foldl fStep (ys.foldl fStep ([], [])) = ((ys.foldl fStep ([], [])).1, (ys.foldl fStep ([], [])).2 ++ [[92]]) := by
    show fStep _ [92] = _
    rw [fStep, if_neg (by decide)]
  rw [e]
  generalize ys.foldl fStep ([], []) = q
  simp only
  split
  · rw [List.append_assoc]
  · rw [List.append_assoc]; rfl
theorem outs_again (l : List Nat) : sgs (outsOf (sgs l)).flatten = outsOf (sgs l) := by
  rw [sgs_sg (outsOf (sgs l)).flatten, sgs_sg l]
  obtain ⟨ys, h1, h2⟩ := sg_wf l false
  have hc : ∀ y ∈ outsOf ys, Cl y := outs_mem h1 (.inl ⟨34, by decide, rfl⟩)
  rcases h2 with h2 | h2
  · rw [h2]
    have := sg_join (outsOf ys) [] hc
    simpa [sg] using this
  · rw [h2, outs_snoc, List.flatten_append]
    have := sg_join (outsOf ys) [92] hc
    simpa [sg] using this
theorem sgs_mem {l : List Nat} : ∀ x ∈ sgs l, Cl x ∨ x = [92] := by
  intro x hx
  rw [sgs_sg] at hx
  obtain ⟨ys, h1, h2⟩ := sg_wf l false
  rcases h2 with h2 | h2
  · rw [h2] at hx; exact .inl (h1 x hx)
  · rw [h2] at hx
    rcases List.mem_append.mp hx with h | h
    · exact .inl (h1 x h)
    · exact .inr (List.mem_singleton.mp h)

section
variable {refs : List (Nat × List Nat)}
abbrev ff (refs : List (Nat × List Nat)) (x : List Nat) : Sgs := sg false (spell refs x)
theorem ff_one (g : Good refs) {c : Nat} (hc : c ≠ 92) : ff refs [c] = (look refs c).map fun d => [d] := by
  have e : spell refs [c] = look refs c := by rw [spell_cons]; simp [spell]
  have e2 := sg_plain (look refs c) [] (g.nb c hc)
  rw [List.append_nil] at e2
  show sg false (spell refs [c]) = _
  rw [e, e2]; simp [sg]
theorem ff_two (g : Good refs) (c : Nat) : ∃ d w, look refs c = d :: w ∧ ff refs [92, c] = [92, d] :: w.map fun d => [d] := by
  have e : spell refs [92, c] = 92 :: look refs c := by rw [spell_cons, g.b, spell_cons]; simp [spell]
  cases h : look refs c with
  | nil => exact absurd h (g.ne c)
  | cons d w =>
    refine ⟨d, w, rfl, ?_⟩
    have hw : 92 ∉ w := by
      by_cases hc : c = 92
      · subst hc; rw [g.b] at h; obtain ⟨_, rfl⟩ := List.cons.inj h; simp
      · exact fun m => g.nb c hc (h ▸ List.mem_cons_of_mem _ m)
    have e2 := sg_plain w [] hw
    rw [List.append_nil] at e2
    show sg false (spell refs [92, c]) = _
    rw [e, h, sg, if_pos rfl, sg, e2]; simp [sg]
theorem ff_b (g : Good refs) : ff refs [92] = [[92]] := by
  show sg false (spell refs [92]) = _
  rw [spell_cons, g.b]; rfl

theorem ff_br (g : Good refs) {x : List Nat} (h : Cl x ∨ x = [92]) : (ff refs x).filter isBr = if isBr x = true then [x] else [] := by
  have hmap : ∀ w : List Nat, 40 ∉ w → 41 ∉ w → (w.map fun d => [d]).filter isBr = [] := by
    intro w h1 h2
    rw [List.filter_eq_nil_iff]
    intro y hy
    obtain ⟨d, hd, rfl⟩ := List.mem_map.mp hy
    have e1 : d ≠ 40 := fun e => h1 (e ▸ hd)
    have e2 : d ≠ 41 := fun e => h2 (e ▸ hd)
    simp [isBr, e1, e2]
  rcases h with (⟨c, hc, rfl⟩ | ⟨c, rfl⟩) | rfl
  · rw [ff_one g hc]
    by_cases h40 : c = 40
    · subst h40; rw [g.o]; rfl
    · by_cases h41 : c = 41
      · subst h41; rw [g.c]; rfl
      · have hk := g.nk c h40 h41
        rw [hmap _ hk.1 hk.2, if_neg (by simp [isBr, h40, h41])]
  · obtain ⟨d, w, h1, h2⟩ := ff_two g c
    rw [h2, List.filter_cons, if_neg (by simp [isBr]), if_neg (by simp [isBr])]
    by_cases h40 : c = 40
    · subst h40; rw [g.o] at h1; obtain ⟨_, rfl⟩ := List.cons.inj h1; rfl
    · by_cases h41 : c = 41
      · subst h41; rw [g.c] at h1; obtain ⟨_, rfl⟩ := List.cons.inj h1; rfl
      · have hk := g.nk c h40 h41
        rw [h1] at hk
        exact hmap w (fun m => hk.1 (List.mem_cons_of_mem _ m)) fun m => hk.2 (List.mem_cons_of_mem _ m)
  · rw [ff_b g]; rfl
theorem row_ff (g : Good refs) : ∀ {xs : Sgs}, (∀ x ∈ xs, Cl x ∨ x = [92]) → (xs.flatMap (ff refs)).filter isBr = xs.filter isBr
  | [], _ => rfl
  | x :: xs, h => by
    rw [List.flatMap_cons, List.filter_append, ff_br g (h x (List.mem_cons_self ..)), row_ff g (fun y hy => h y (List.mem_cons_of_mem _ hy)), List.filter_cons]
    split <;> rfl
theorem bal_ff (g : Good refs) {xs : Sgs} (h : ∀ x ∈ xs, Cl x ∨ x = [92]) : balF 0 (xs.flatMap (ff refs)) = balF 0 xs := by
  rw [balF_row, balF_row xs]
  unfold rowOf
  rw [row_ff g h]

theorem ff_34 (g : Good refs) (hq : look refs 34 = [34]) : ff refs [34] = [[34]] := by rw [ff_one g (by decide), hq]; rfl
theorem ff_no34 (g : Good refs) (hq : look refs 34 = [34]) {x : List Nat} (h : Cl x ∨ x = [92]) (hx : x ≠ [34]) : [34] ∉ ff refs x := by
  have hmap : ∀ w : List Nat, 34 ∉ w → [34] ∉ w.map fun d => [d] := by
    intro w hw m
    obtain ⟨d, hd, e⟩ := List.mem_map.mp m
    have : d = 34 := by simpa using e
    exact hw (this ▸ hd)
  rcases h with (⟨c, hc, rfl⟩ | ⟨c, rfl⟩) | rfl
  · rw [ff_one g hc]
    exact hmap _ (g.nq c fun e => hx (by rw [e]))
  · obtain ⟨d, w, h1, h2⟩ := ff_two g c
    rw [h2]
    intro m
    rcases List.mem_cons.mp m with m | m
    · simp at m
    · refine hmap w ?_ m
      by_cases hc : c = 34
      · subst hc; rw [hq] at h1; obtain ⟨_, rfl⟩ := List.cons.inj h1; simp
      · exact fun y => g.nq c hc (h1 ▸ List.mem_cons_of_mem _ y)
  · rw [ff_b g]; simp

theorem fold_ff (g : Good refs) (hq : look refs 34 = [34]) : ∀ (xs : Sgs) (q : List Sgs × Sgs), (∀ x ∈ xs, Cl x ∨ x = [92]) →
    (xs.flatMap (ff refs)).foldl fStep (q.1.map (·.flatMap (ff refs)), q.2.flatMap (ff refs)) = ((xs.foldl fStep q).1.map (·.flatMap (ff refs)), (xs.foldl fStep q).2.flatMap (ff refs))
  | [], q, _ => rfl
  | x :: xs, q, h => by
    rw [List.flatMap_cons, List.foldl_append, List.foldl_cons]
    by_cases hx : x = [34]
    · subst hx
      rw [ff_34 g hq]
      have ih := fold_ff g hq xs (q.1 ++ [q.2], []) fun y hy => h y (List.mem_cons_of_mem _ hy)
      rw [fStep, if_pos rfl, ← ih]
      show (xs.flatMap (ff refs)).foldl fStep (fStep _ [34]) = _
      rw [fStep, if_pos rfl]
      simp
    · have ih := fold_ff g hq xs (q.1, q.2 ++ [x]) fun y hy => h y (List.mem_cons_of_mem _ hy)
      rw [fStep, if_neg hx, ← ih, fold_no34 _ _ (ff_no34 g hq (h x (List.mem_cons_self ..)) hx)]
      simp
theorem ev_map (f : List Nat → Sgs) : ∀ fs : List Sgs, ev (fs.map (·.flatMap f)) = (ev fs).flatMap f
  | [] => rfl
  | [a] => rfl
  | a :: b :: r => by
    show a.flatMap f ++ ev (r.map (·.flatMap f)) = _
    rw [ev_map f r, ev, List.flatMap_append]
theorem outs_ff (g : Good refs) (hq : look refs 34 = [34]) {xs : Sgs} (h : ∀ x ∈ xs, Cl x ∨ x = [92]) : outsOf (xs.flatMap (ff refs)) = (outsOf xs).flatMap (ff refs) := by
  have hf := fold_ff g hq xs ([], []) h
  simp only [List.map_nil, List.flatMap_nil] at hf
  rw [outs_fold, outs_fold, hf]
  generalize xs.foldl fStep ([], []) = q
  simp only [List.length_map, ev_map]
  split
  · rw [List.flatMap_append]
  · rw [List.flatMap_append, List.flatMap_cons, ff_34 g hq]; rfl
theorem ff_flat (refs : List (Nat × List Nat)) : ∀ xs : Sgs, (xs.flatMap (ff refs)).flatten = spell refs xs.flatten
  | [] => rfl
  | x :: xs => by
    rw [List.flatMap_cons, List.flatten_append, ff_flat refs xs, List.flatten_cons, spell_app]
    congr 1
    show (sg false (spell refs x)).flatten = _
    rw [sg_flat]; simp
theorem sgs_spell (g : Good refs) (l : List Nat) : sgs (spell refs l) = (sgs l).flatMap (ff refs) := by
  rw [sgs_sg, sgs_sg, sg_spell g]

theorem pure_ok (g : Good refs) (l : List Nat) : PureOk unitsP refs l := by
  have hq := g.q
  by_cases h34 : (refs.lookup 34).isSome = true
  · rw [if_pos h34] at hq
    have hl : leftOf refs l = sgs l := by unfold leftOf; rw [if_pos h34]
    have hno : 34 ∉ spell refs l := by
      intro m
      obtain ⟨c, _, hc⟩ := List.mem_flatMap.mp m
      by_cases h : c = 34
      · subst h; exact hq hc
      · exact g.nq c h hc
    have hs : stripP (spell refs l) = spell refs l := by unfold stripP; rw [if_neg hno]
    refine ⟨units_law g l, ?_, ?_⟩
    · rw [hs, hl, sgs_flat]
    · rw [hs, hl, sgs_spell g, bal_ff g sgs_mem]
  · rw [if_neg h34] at hq
    have hl : leftOf refs l = outsOf (sgs l) := by unfold leftOf; rw [if_neg h34]
    have hs : stripP (spell refs l) = spell refs (outsOf (sgs l)).flatten := by
      rw [strip_sg, sgs_spell g, outs_ff g hq sgs_mem, ff_flat]
    refine ⟨units_law g l, ?_, ?_⟩
    · rw [hs, hl]
    · rw [hs, hl, sgs_spell g, outs_again, bal_ff g (outs_mem sgs_mem (.inl (.inl ⟨34, by decide, rfl⟩)))]
end
theorem good_nil : Good [] := good_of rfl
theorem good_five : ∀ refs ∈ five, Good refs := by
  have h : ∀ refs ∈ five, goodB refs = true := by decide
  exact fun refs hr => good_of (h refs hr)
theorem law_p0 (l : List Nat) : unitsP [] l = iterE 0 false l := by
  have := units_law good_nil l
  rw [spell_nil] at this
  exact this
end
end Mine

set_option maxRecDepth 100000 in
set_option maxHeartbeats 8000000 in
theorem PySem.Challenge.cw_nb0168_01_holds : PySem.Challenge.rw_nb0168_01.Holds := by
  refine Mine.hd ?_
  k_fill
  intro w s₀ s₁ mg mb G Y fa o pm cd doc dV kV ho hd hcd hD hmg hg args vals as hpre hlay hrd hwl hlo
  have KX := kIn_of Y
  refine Ground.open G ?_
  intro T B D TE TW
  wrow_args hpre hlay hrd hwl hlo
  have hfa : mg (Str.ofString "law") = some (.ref fa) := hmg
  have h120 : mg (Str.ofString "law") = some (.ref 120) := mg_of KX (Top.g T) (by kernel_rfl)
  obtain rfl : fa = 120 := by rw [hfa] at h120; injection h120 with h; injection h
  first | refine callC_kw (enter_call ?_) | refine enter_call ?_
  clear hcd hd hD G Y TE TW B hmg
  rename_i ns _ _ _ _ _ _ _ la vs _ hL _ _ _ hI _ hcond _
  have GL : Mine.Gl w.params s₁.heap := ⟨KX, ⟨mb, T.b, T.builtins⟩, ⟨mg, T.g⟩⟩
  refine Mine.law_spec GL ⟨rfl, by decide, by decide⟩ hL hI (by omega) Mine.law_p0 (fun l refs hr => Mine.pure_ok (Mine.good_five refs hr) l) fun s' ok => ?_
  refine ⟨.inl ⟨.bool true, .bool true, [], rfl, fun _ => rfl, ?_, ?_, ?_⟩, .of_keep ok.keep, ok.os, ok.bare ?_⟩
  · exact .bool true
  · first | (with_unfolding_all rfl) | (refine Bool.and_eq_true_iff.mpr ⟨by with_unfolding_all rfl, ?_⟩; with_unfolding_all rfl) 
  · intro _; exact ⟨List.nodup_nil, fun _ h => nomatch h⟩
  · rw [hg]; first | exact .of_eq rfl | (intro i g e; simp at e)
