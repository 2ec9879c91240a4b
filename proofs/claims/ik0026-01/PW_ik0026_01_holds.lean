import PyProof.Rows.All
import PyProof.AttrMissHeap
import Wide.All
import OpenK.AllK
import Wide.FinOn
import Lean
import PySem.Challenge.RW_ik0026_01
set_option Elab.async false
set_option maxRecDepth 100000
set_option linter.unusedVariables false
set_option linter.unusedSimpArgs false
set_option linter.unusedSectionVars false

-- part HeadK
namespace Mine
open PySem PySem.W PyProof.Rows

/-! ## what the top has laid: the objects that the law comes to, each def by its place in the text -/
def sOf (x : String) : Str := Str.ofString x
noncomputable def stAt (i : Nat) : Stmt := (PySem.Challenge.pw_ik0026_01.main.body[i]?).getD (.Pass ⟨0, 0, 0, 0⟩)
noncomputable def methAt (i : Nat) : Stmt := match stAt 11 with
  | .ClassDef _ _ _ b _ _ _ _ _ _ _ => (b[i]?).getD (.Pass ⟨0, 0, 0, 0⟩)
  | s => s
def fnObj (st : Stmt) (qual : String) (dflt : Value) (mod : String) (mt : Nat) (code : Addr) : Obj := match st with
  | .FunctionDef name args body _ _ _ scope _ _ _ => { cls := .type "function", data := .func { name := name, qualname := Str.ofString qual, params := args, body := .stmts body, scope := scope, globals := 3, closure := [], defaults := dflt, kwdefaults := .none, pyModule := .str (Str.ofString mod) mt, code := .ref code } }
  | _ => default
def codeObj (name qual : String) (t line argc a b : Nat) (c d : Value) (e f : Nat) : Obj :=
  { cls := .type "code", data := .fields #[.str (Str.ofString name) t, .str (Str.ofString qual) (t + 1), .str (Str.ofString "/claim/cut.py") (t + 2), .int line 0, .int argc 0, .int 0 0, .int 0 0, .int 3 0, .ref a, .bool true, .int 276 0, .ref b, .none, c, d, .ref e, .int f 0, .int line 0, .str (Str.ofString "/claim/cut.py") (f + 1)] }
noncomputable def ent (P : Params) (k : String) (t : Nat) (v : Value) : DictEntry := ⟨PyData.keyHash P (Str.ofString k), .str (Str.ofString k) t, v⟩
def esc1 (c t : Nat) (x : String) : DictEntry := ⟨c, .int c t, .str (Str.ofString x) (t + 4)⟩

noncomputable def KF (P : Params) : Frag := [
  (3, { cls := .type "dict", data := .dict #[ent P "__name__" 165 (.str (Str.ofString "law_ik0026_01") 610), ent P "__doc__" 166 .none, ent P "__package__" 167 .none, ent P "__loader__" 168 (.builtin "__main__.__loader__#opaque"), ent P "__spec__" 169 .none,
    ent P "__annotations__" 170 (.ref 6), ent P "__builtins__" 171 (.ref 4), ent P "__file__" 173 (.str (Str.ofString "/claim/cut.py") 172), ent P "__cached__" 174 .none, ent P "_sre" 275 (.ref 12), ent P "_wall" 288 (.ref 38), ent P "sep" 290 (.str (Str.ofString "/") 289),
    ent P "_kind" 301 (.ref 45), ent P "_c_path" 314 (.ref 52), ent P "_shelf_fresh" 321 (.ref 59), ent P "_splitroot" 330 (.ref 66), ent P "_normpath" 345 (.ref 73), ent P "normpath" 353 (.ref 80), ent P "_Ignore" 395 (.ref 103), ent P "_twin_re_1" 433 (.ref 112),
    ent P "_special_chars_map" 581 (.ref 114), ent P "escape" 588 (.ref 124), ent P "_translate" 609 (.ref 131), ent P "_law_drawn" 626 (.ref 138), ent P "_law_read" 633 (.ref 145), ent P "_law_takes" 639 (.ref 150), ent P "_law_heads" 645 (.ref 155), ent P "_law_asked" 655 (.ref 162), ent P "law" 661 (.ref 167)] 29 }),
  (88, { cls := .type "tuple", data := .seq #[.none, .none] }),
  (92, codeObj "__init__" "_Ignore.__init__" 368 76 3 89 90 .none .none 91 371),
  (93, fnObj (methAt 0) "_Ignore.__init__" (.ref 88) "cpy313.trace" 354 92),
  (99, codeObj "names" "_Ignore.names" 374 81 3 94 95 (.ref 96) (.ref 97) 98 382),
  (100, fnObj (methAt 1) "_Ignore.names" .none "cpy313.trace" 354 99),
  (102, { cls := .type "dict", data := .dict #[ent P "__module__" 363 (.str (Str.ofString "cpy313.trace") 354), ent P "__firstlineno__" 367 (.int 74 366), ent P "__init__" 373 (.ref 93), ent P "names" 384 (.ref 100), ent P "__static_attributes__" 388 (.ref 101), ent P "__dict__" 390 (.ref 104), ent P "__weakref__" 392 (.ref 105), ent P "__doc__" 393 .none] 4 }),
  (103, { cls := .type "type", data := .cls { name := Str.ofString "_Ignore", bases := [.type "object"], mro := [.ref 103, .type "object"], ns := 102, qualname := Str.ofString "_Ignore" }, slots := #[none, none, some (.str (Str.ofString "_Ignore") 356), some (.str (Str.ofString "_Ignore") 364), some (.builtin "object.__new__"), some (.bool true)] }),
  (111, { cls := .type "tuple", data := .seq #[.int 14 0, .int 14 0, .int 4 0, .int 1 0, .int 1 0, .int 9 0, .int 0 0, .int 64 0, .int 0 0, .int 1342177280 0, .int 0 0, .int 0 0, .int 0 0, .int 0 0, .int 0 0, .int 17 0, .int 0 0, .int 13 0, .int 11 0, .int 9 0, .int 0 0, .int 64 0, .int 0 0, .int 1342177280 0, .int 0 0, .int 0 0, .int 0 0, .int 0 0, .int 0 0, .int 17 0, .int 1 0, .int 1 0] }),
  (112, { cls := .type "re.Pattern", data := .fields #[.str (Str.ofString "([&~|])") 397, .int 32 432, .int 1 0, .none, .none, .ref 111, .int 0 0] }),
  (114, { cls := .type "dict", data := .dict #[esc1 40 437 "\\(", esc1 41 443 "\\)", esc1 91 449 "\\[", esc1 93 455 "\\]", esc1 123 461 "\\{", esc1 125 467 "\\}", esc1 63 473 "\\?", esc1 42 479 "\\*", esc1 43 485 "\\+", esc1 45 491 "\\-", esc1 124 497 "\\|", esc1 94 503 "\\^",
    esc1 36 509 "\\$", esc1 92 515 "\\\\", esc1 46 521 "\\.", esc1 38 527 "\\&", esc1 126 533 "\\~", esc1 35 539 "\\#", esc1 32 545 "\\ ", esc1 9 551 "\\\t", esc1 10 557 "\\\n", esc1 13 563 "\\\x0d", esc1 11 569 "\\\x0b", esc1 12 575 "\\\x0c"] 24 }),
  (123, codeObj "escape" "escape" 582 103 1 118 119 (.ref 120) (.ref 121) 122 586),
  (124, fnObj (stAt 15) "escape" .none "re" 434 123),
  (130, codeObj "_translate" "_translate" 591 110 3 125 126 (.ref 127) (.ref 128) 129 607),
  (131, fnObj (stAt 17) "_translate" .none "cpy313.fnmatch" 589 130),
  (137, codeObj "_law_drawn" "_law_drawn" 612 173 1 132 133 (.ref 134) (.ref 135) 136 624),
  (138, fnObj (stAt 19) "_law_drawn" .none "law_ik0026_01" 610 137),
  (144, codeObj "_law_read" "_law_read" 627 191 1 139 140 (.ref 141) (.ref 142) 143 631),
  (145, fnObj (stAt 20) "_law_read" .none "law_ik0026_01" 610 144),
  (149, codeObj "_law_takes" "_law_takes" 634 203 2 146 147 .none .none 148 637),
  (150, fnObj (stAt 21) "_law_takes" .none "law_ik0026_01" 610 149),
  (154, codeObj "_law_heads" "_law_heads" 640 211 1 151 152 .none .none 153 643),
  (155, fnObj (stAt 22) "_law_heads" .none "law_ik0026_01" 610 154),
  (161, codeObj "_law_asked" "_law_asked" 646 213 3 156 157 (.ref 158) (.ref 159) 160 653),
  (162, fnObj (stAt 23) "_law_asked" .none "law_ik0026_01" 610 161),
  (166, codeObj "law" "law" 656 216 1 163 164 .none .none 165 659),
  (167, fnObj (stAt 24) "law" .none "law_ik0026_01" 610 166)]
end Mine

-- part B0
namespace Mine
open PySem PySem.W PyProof.Rows
open Sem (wp)

/-! ## changes of the state -/
def isVar (o : Obj) : Bool := o.cls == .type "frame" || (match o.data with | .cell _ => true | _ => false)

def Kb (W : List Addr) (s s' : Shared) : Prop :=
  ∃ h' tk dr, s' = { s with heap := h', toks := tk, drawn := dr } ∧ ∀ b o, b ∉ W → s.heap.get? b = some o → h'.get? b = some o
def Ch (W : List Addr) (s s' : Shared) : Prop :=
  ∃ h' tk dr, s' = { s with heap := h', toks := tk, drawn := dr } ∧ ∀ b o, b ∉ W → isVar o = false → s.heap.get? b = some o → h'.get? b = some o

variable {W W' : List Addr} {s s' s'' s₀ : Shared} {b : Addr} {o : Obj}

theorem Kb.refl (W : List Addr) (s : Shared) : Kb W s s := ⟨s.heap, s.toks, s.drawn, rfl, fun _ _ _ e => e⟩
theorem Kb.get (x : Kb W s s') (hb : b ∉ W) (e : s.heap.get? b = some o) : s'.heap.get? b = some o := by
  obtain ⟨h, tk, dr, rfl, k⟩ := x; exact k b o hb e
theorem Kb.get0 (x : Kb [] s s') (e : s.heap.get? b = some o) : s'.heap.get? b = some o := x.get (by simp) e
theorem Kb.trans (x : Kb W s s') (y : Kb W s' s'') : Kb W s s'' := by
  obtain ⟨h, tk, dr, rfl, k⟩ := x; obtain ⟨h', tk', dr', rfl, k'⟩ := y
  exact ⟨h', tk', dr', rfl, fun b o hb e => k' b o hb (k b o hb e)⟩
theorem Kb.mono (x : Kb W s s') (hW : ∀ b ∈ W, b ∈ W') : Kb W' s s' := by
  obtain ⟨h, tk, dr, rfl, k⟩ := x; exact ⟨h, tk, dr, rfl, fun b o hb e => k b o (fun q => hb (hW b q)) e⟩
theorem Kb.any (x : Kb [] s s') : Kb W s s' := x.mono (by simp)
theorem Kb.ch (x : Kb W s s') : Ch W s s' := by
  obtain ⟨h, tk, dr, rfl, k⟩ := x; exact ⟨h, tk, dr, rfl, fun b o hb _ e => k b o hb e⟩
theorem Kb.tok (x : Kb W s s') (t : Nat) : Kb W s { s' with toks := t } := by
  obtain ⟨h, tk, dr, rfl, k⟩ := x; exact ⟨h, t, dr, rfl, k⟩
theorem Kb.heap {h' : Heap} {t : Nat} (k : ∀ b o, b ∉ W → s.heap.get? b = some o → h'.get? b = some o) : Kb W s { s with heap := h', toks := t } := ⟨h', t, _, rfl, k⟩
theorem Ch.refl (W : List Addr) (s : Shared) : Ch W s s := (Kb.refl W s).ch
theorem Ch.get (x : Ch W s s') (hb : b ∉ W) (e : s.heap.get? b = some o) (hv : isVar o = false) : s'.heap.get? b = some o := by
  obtain ⟨h, tk, dr, rfl, k⟩ := x; exact k b o hb hv e
theorem Ch.get0 (x : Ch [] s s') (e : s.heap.get? b = some o) (hv : isVar o = false) : s'.heap.get? b = some o := x.get (by simp) e hv
theorem Ch.trans (x : Ch W s s') (y : Ch W s' s'') : Ch W s s'' := by
  obtain ⟨h, tk, dr, rfl, k⟩ := x; obtain ⟨h', tk', dr', rfl, k'⟩ := y
  exact ⟨h', tk', dr', rfl, fun b o hb hv e => k' b o hb hv (k b o hb hv e)⟩
theorem Ch.mono (x : Ch W s s') (hW : ∀ b ∈ W, b ∈ W') : Ch W' s s' := by
  obtain ⟨h, tk, dr, rfl, k⟩ := x; exact ⟨h, tk, dr, rfl, fun b o hb hv e => k b o (fun q => hb (hW b q)) hv e⟩
theorem Ch.any (x : Ch [] s s') : Ch W s s' := x.mono (by simp)

/-! ## names of variables -/
def upd (m : Str → Option Value) (x : Str) (v : Value) : Str → Option Value := fun y => if y = x then some v else m y
theorem upd_eq {m : Str → Option Value} {x : Str} {v : Value} : upd m x v x = some v := by simp [upd]
theorem upd_ne {m : Str → Option Value} {x y : Str} {v : Value} {r : Option Value} (h : y ≠ x) (e : m y = r) : upd m x v y = r := by simp [upd, h, e]
theorem ofString_inj {a b : String} (h : Str.ofString a = Str.ofString b) : a = b := by
  rw [Str.ofString_eq_toList, Str.ofString_eq_toList] at h
  have h1 : a.toList.map Char.toNat = b.toList.map Char.toNat := by simpa using h
  have h2 : a.toList = b.toList := List.map_inj_right (fun x y e => Char.toNat_inj.mp e) |>.mp h1
  exact String.toList_inj.mp h2
theorem str_ne {a b : String} (h : a ≠ b) : Str.ofString a ≠ Str.ofString b := fun e => h (ofString_inj e)

structure Act (W₀ : List Addr) (env : Env) (s₀ s : Shared) (m : Str → Option Value) : Prop where
  kind : env.scope.kind = .function
  ns : ∃ o es ep, s.heap.get? env.locals = some o ∧ o.cls = .type "frame" ∧ o.data = .dict es ep ∧ StrKeys es ∧ ∀ x, env.kindOf x = some .local → nsFind es x = m x
  cell : ∀ x, env.kindOf x = some .cell → ∃ c, env.cells.lookup x = some c ∧ s.heap.IsCell c (m x)
  newL : s₀.heap.get? env.locals = none
  newC : ∀ x c, env.cells.lookup x = some c → s₀.heap.get? c = none
  apart : ∀ x y c, env.cells.lookup x = some c → env.cells.lookup y = some c → x = y
  base : Kb W₀ s₀ s

variable {W₀ : List Addr} {env : Env} {m : Str → Option Value} {M : Model} {A : Around} {E : Value → Shared → Prop}

def isV (k : Option NameKind) : Bool := k == some .local || k == some .cell

theorem Act.locals_var (a : Act W₀ env s₀ s m) : ∃ o, s.heap.get? env.locals = some o ∧ isVar o = true := by
  obtain ⟨o, es, ep, ho, hc, _⟩ := a.ns; exact ⟨o, ho, by simp [isVar, hc]⟩
theorem IsCell.var {h : Heap} {c : Addr} {v : Option Value} (x : h.IsCell c v) : ∃ o, h.get? c = some o ∧ isVar o = true := by
  obtain ⟨o, ho, hd⟩ := x; exact ⟨o, ho, by simp [isVar, hd]⟩

/-- an expression's step: what it changes is no variable -/
theorem Act.kb (a : Act W₀ env s₀ s m) (k : Kb W s s') (hW : ∀ b ∈ W, ∃ o, s.heap.get? b = some o ∧ isVar o = false) (hW0 : ∀ b ∈ W, b ∈ W₀ ∨ s₀.heap.get? b = none) : Act W₀ env s₀ s' m := by
  have notIn : ∀ b o, s.heap.get? b = some o → isVar o = true → b ∉ W := fun b o e hv q => by
    obtain ⟨o', e', hv'⟩ := hW b q; rw [e] at e'; cases e'; rw [hv] at hv'; cases hv'
  refine ⟨a.kind, ?_, ?_, a.newL, a.newC, a.apart, ?_⟩
  · obtain ⟨o, es, ep, ho, hc, r⟩ := a.ns
    exact ⟨o, es, ep, k.get (notIn _ o ho (by simp [isVar, hc])) ho, hc, r⟩
  · intro x hx
    obtain ⟨c, hc, o, ho, hd⟩ := a.cell x hx
    exact ⟨c, hc, o, k.get (notIn _ o ho (by simp [isVar, hd])) ho, hd⟩
  · obtain ⟨h, tk, dr, rfl, k1⟩ := a.base
    obtain ⟨h', tk', dr', rfl, k2⟩ := k
    refine ⟨h', tk', dr', rfl, fun b o hb e => k2 b o (fun q => ?_) (k1 b o hb e)⟩
    rcases hW0 b q with q0 | q0
    · exact hb q0
    · rw [e] at q0; cases q0
theorem Act.kp (a : Act W₀ env s₀ s m) (k : Kb [] s s') : Act W₀ env s₀ s' m := a.kb k (by simp) (by simp)

theorem Act.name {x : Str} {pos : Pos} {v : Value} {Q : Value → Shared → Prop} (a : Act W₀ env s₀ s m) (hk : isV (env.kindOf x) = true) (hm : m x = some v) (h : Q v s)
    (hd : (x == ("__debug__" : Str)) = false := by decide +kernel) : wpAny M A (eval (.Name x pos) env) Q E s := by
  refine wpAny_Name ?_ hd
  simp only [isV, Bool.or_eq_true, beq_iff_eq] at hk
  rcases hk with hk | hk
  · obtain ⟨o, es, ep, ho, hc, hdt, hs, hf⟩ := a.ns
    exact wpAny_loadName_local (m := fun y => nsFind es y) a.kind hk ⟨o, es, ep, ho, hdt, hs, fun _ => rfl⟩ ((hf x hk).trans hm) h
  · obtain ⟨c, hc, hcell⟩ := a.cell x hk
    exact wpAny_loadName_cell a.kind hk hc (hm ▸ hcell) h

theorem nsSet_frame {a : Addr} {o : Obj} {es : Array DictEntry} {ep : Nat} {name : Str} {v : Value} {Q : Unit → Shared → Prop} (ho : s.heap.get? a = some o) (hc : o.cls = .type "frame") (hd : o.data = .dict es ep) (hk : StrKeys es)
    (h : ∀ h' o' es' ep', h'.get? a = some o' → o'.cls = .type "frame" → o'.data = .dict es' ep' → StrKeys es' → (∀ x, nsFind es' x = if x = name then some v else nsFind es x) → Heap.SameBut a s.heap h' →
      Q () { s with heap := h', toks := s.toks + 1 }) : wpAny M A (nsSet a name v) Q E s := fun Γ p _ => by
  simp only [nsSet, strHash, Sem.wp_bind', Sem.wp_cmd_ask, Sem.wp_pure', Sem.wp_cmd_mkText]
  rw [Sem.wp_loadPart_of M Γ _ p { s with toks := s.toks + 1 } (o := o) _ ho]
  have hany : es.any (·.refKey) = false := by
    rw [Array.any_eq_false']; intro e he; obtain ⟨n, t, h⟩ := hk e he; simp [DictEntry.refKey, h]
  simp only [hd, aRefKeyMayBeTheName_eq, aRefKeyMayBeTheNameByArray, hany, Bool.and_false, Bool.false_eq_true, if_false, Sem.wp_cmd_updatePart]
  obtain ⟨c, d, dt, sl⟩ := o
  simp only at hc hd
  subst hd hc
  refine ⟨by rw [ho]; rfl, ?_⟩
  cases hi : es.findIdx? (·.key.isStr name) with
  | some i =>
    refine h _ _ _ _ (Heap.get?_update_self _ ho (by simp only [Obj.putName_eq, Obj.putNameByArray, hi]; rfl)) (by simp only [Obj.putName_eq, Obj.putNameByArray, hi]) (by simp only [Obj.putName_eq, Obj.putNameByArray, hi]; rfl) (hk.modify _ _) (fun x => ?_) (Heap.SameBut.update ..)
    exact findBy_modify (fun n v => v.isStr n) Value.isStr_inj es name x v i hi
  | none =>
    refine h _ _ _ _ (Heap.get?_update_self _ ho (by simp only [Obj.putName_eq, Obj.putNameByArray, hi]; rfl)) (by simp only [Obj.putName_eq, Obj.putNameByArray, hi]) (by simp only [Obj.putName_eq, Obj.putNameByArray, hi]; rfl) (hk.push _ _ _ _) (fun x => ?_) (Heap.SameBut.update ..)
    exact findBy_push (fun n v => v.isStr n) es name x _ _ v (fun y => by
      show (name == y) = decide (y = name)
      by_cases h : y = name
      · subst h; simp
      · have : ¬ name = y := fun e => h e.symm
        simp [h, this]) hi

theorem Act.store {x : Str} {v : Value} {Q : Unit → Shared → Prop} (a : Act W₀ env s₀ s m) (hk : isV (env.kindOf x) = true)
    (h : ∀ s', Act W₀ env s₀ s' (upd m x v) → Ch [] s s' → Q () s') : wpAny M A (storeName env x v) Q E s := by
  simp only [isV, Bool.or_eq_true, beq_iff_eq] at hk
  rcases hk with hk | hk
  · rw [storeName_local hk (by rw [a.kind]; rfl)]
    obtain ⟨o, es, ep, ho, hc, hdt, hs, hf⟩ := a.ns
    refine nsSet_frame ho hc hdt hs fun h' o' es' ep' ho' hc' hd' hs' hf' hsb => h _ ⟨a.kind, ⟨o', es', ep', ho', hc', hd', hs', fun y hy => ?_⟩, fun y hy => ?_, a.newL, a.newC, a.apart, ?_⟩ ⟨h', _, _, rfl, fun b o₁ _ hv e => ?_⟩
    · rw [hf']; simp only [upd]; split
      · rfl
      · exact hf y hy
    · obtain ⟨c, hcl, hcell⟩ := a.cell y hy
      have hyx : y ≠ x := fun e => by rw [e, hk] at hy; cases hy
      refine ⟨c, hcl, ?_⟩
      have hne : c ≠ env.locals := fun e => by
        obtain ⟨oc, h1, h2⟩ := hcell
        rw [e, ho] at h1; cases h1; rw [hdt] at h2; cases h2
      simp only [upd, if_neg hyx]
      exact hcell.sameBut hsb hne
    · obtain ⟨h1, tk, dr, rfl, k⟩ := a.base
      refine ⟨h', _, _, rfl, fun b o₁ hb e => (hsb.2 b fun q => ?_).trans (k b o₁ hb e)⟩
      subst q; rw [a.newL] at e; cases e
    · refine (hsb.2 b fun q => ?_).trans e
      subst q; rw [ho] at e; cases e; simp [isVar, hc] at hv
  · obtain ⟨c, hcl, hcell⟩ := a.cell x hk
    refine wpAny_storeName_cell a.kind hk hcl hcell fun h' hcell' hsb => h _ ⟨a.kind, ?_, fun y hy => ?_, a.newL, a.newC, a.apart, ?_⟩ ⟨h', _, _, rfl, fun b o₁ _ hv e => ?_⟩
    · obtain ⟨o, es, ep, ho, hc, hdt, hs, hf⟩ := a.ns
      have hne : env.locals ≠ c := fun e => by
        obtain ⟨oc, h1, h2⟩ := hcell
        rw [← e, ho] at h1; cases h1; rw [hdt] at h2; cases h2
      refine ⟨o, es, ep, (hsb.2 _ hne).trans ho, hc, hdt, hs, fun y hy => ?_⟩
      have hyx : y ≠ x := fun e => by rw [e, hk] at hy; cases hy
      simp only [upd, if_neg hyx]; exact hf y hy
    · obtain ⟨c', hcl', hcell''⟩ := a.cell y hy
      refine ⟨c', hcl', ?_⟩
      by_cases hyx : y = x
      · subst hyx; rw [hcl] at hcl'; cases hcl'; simpa [upd] using hcell'
      · have hne : c' ≠ c := fun e => hyx (a.apart y x c (e ▸ hcl') hcl)
        simp only [upd, if_neg hyx]
        exact hcell''.sameBut hsb hne
    · obtain ⟨h1, tk, dr, rfl, k⟩ := a.base
      refine ⟨h', _, _, rfl, fun b o₁ hb e => (hsb.2 b fun q => ?_).trans (k b o₁ hb e)⟩
      subst q; rw [a.newC x _ hcl] at e; cases e
    · refine (hsb.2 b fun q => ?_).trans e
      obtain ⟨oc, h1, h2⟩ := hcell
      subst q; rw [h1] at e; cases e; simp [isVar, h2] at hv

/-! ## a call of a def -/
def bindAll : (Str → Option Value) → List (Str × Value) → Str → Option Value
  | m, [] => m
  | m, (n, v) :: r => bindAll (upd m n v) r

theorem act_bind (f : Str × Value → PUnit → Sem (ForInStep PUnit)) (hf : ∀ n v u, f (n, v) u = (do storeName env n v; pure (.yield ⟨⟩))) :
    ∀ (binds : List (Str × Value)) (m : Str → Option Value) (s : Shared) (Q : PUnit → Shared → Prop), Act W₀ env s₀ s m → (∀ x ∈ binds, isV (env.kindOf x.1) = true) →
      (∀ s', Act W₀ env s₀ s' (bindAll m binds) → Q ⟨⟩ s') → wpAny M A (forIn binds ⟨⟩ f) Q E s
  | [], m, s, Q, a, _, h => by rw [List.forIn_nil]; exact wpAny_pure (h s a)
  | (n, v) :: r, m, s, Q, a, hk, h => by
    rw [List.forIn_cons, hf]
    exact wpAny_bind (wpAny_bind (a.store (hk (n, v) List.mem_cons_self) fun s' a' _ => wpAny_pure
      (act_bind f hf r _ s' Q a' (fun y hy => hk y (List.mem_cons_of_mem _ hy)) fun s'' a'' => h s'' (by rw [bindAll]; exact a''))))

theorem cells_mem_lookup : ∀ (names : List (Str × NameKind)) (n : Nat) (acc : List (Str × Addr)) (x : Str), (names.lookup x = some .cell ∨ ∃ c, acc.lookup x = some c) → ∃ c, (cellsFrom n names acc).lookup x = some c
  | [], n, acc, x, h => by
    rcases h with h | h
    · simp at h
    · exact h
  | (nm, k) :: r, n, acc, x, h => by
    unfold cellsFrom
    by_cases hk : k = .cell
    · subst hk
      simp only [beq_self_eq_true, if_true]
      refine cells_mem_lookup r _ _ x ?_
      by_cases hx : x = nm
      · subst hx; exact .inr ⟨n, by simp⟩
      · have hb : (x == nm) = false := by simpa using hx
        rcases h with h | ⟨c, h⟩
        · rw [List.lookup_cons, hb] at h; exact .inl h
        · exact .inr ⟨c, by rw [List.lookup_cons, hb]; exact h⟩
    · have hb : (k == NameKind.cell) = false := by simpa using hk
      simp only [hb, Bool.false_eq_true, if_false]
      refine cells_mem_lookup r _ _ x ?_
      rcases h with h | h
      · by_cases hx : x = nm
        · subst hx; simp at h; exact absurd h hk
        · have hb' : (x == nm) = false := by simpa using hx
          rw [List.lookup_cons, hb'] at h; exact .inl h
      · exact .inr h

theorem act_new {fd : FuncData} {a : Addr} {binds : List (Str × Value)} {Q : Env → Shared → Prop} (hk : fd.scope.kind = .function)
    (hb : ∀ x ∈ binds, isV (fd.scope.names.lookup x.1) = true)
    (h : ∀ s₁, Act [] (callEnvC fd s.heap.objs.size a) s s₁ (bindAll (fun _ => none) binds) → Q (callEnvC fd s.heap.objs.size a) s₁) :
    wpAny M A (newFunctionEnv fd.scope fd.globals [] binds (fd.qualname ++ ".<locals>.") (some a) fd.code none fd.builtins) Q E s := by
  simp only [newFunctionEnv, Option.isSome_none, Bool.false_eq_true, if_false]
  refine wpAny_bind (wpAny_alloc ?_)
  refine wpAny_bind (wpAny_layCells _ (fun name kind cells => by cases hkc : kind == NameKind.cell <;> simp [hkc]) _ _ _ _ ?_)
  have ok := cellsFrom_ok fd.scope.names (s.heap.push { cls := .type "frame", data := .dict #[] }) (s.heap.objs.size + 1) [] ⟨fun _ _ hm => (nomatch hm), List.Pairwise.nil⟩ (by rw [Heap.size_push]; exact Nat.le_refl _)
  rw [Heap.size_push] at ok
  rw [show ({ s with heap := s.heap.push { cls := .type "frame", data := .dict #[] } } : Shared).heap.objs.size = s.heap.objs.size + 1 from Heap.size_push ..]
  refine wpAny_bind (act_bind (W₀ := []) (env := callEnvC fd s.heap.objs.size a) (s₀ := s) _ (fun _ _ _ => rfl) binds (fun _ => none) _ _ ?_ hb fun s' x => wpAny_pure (h s' x))
  have hle : ∀ n c, (cellsFrom (s.heap.objs.size + 1) fd.scope.names []).lookup n = some c → s.heap.get? c = none := fun n c e => by
    have := (ok.empty n c (mem_of_lookup e)).2
    exact Heap.get?_none_of_le (by omega)
  refine ⟨hk, ⟨{ cls := .type "frame", data := .dict #[] }, #[], 0, ?_, rfl, rfl, fun _ he => by simp at he, fun _ _ => rfl⟩, fun x hx => ?_, Heap.get?_none_of_le (Nat.le_refl _), hle, fun x y c hx hy => ?_, ⟨_, _, _, rfl, fun b o _ e => pushCells_keeps _ _ b o (Heap.get?_push_of_some _ e)⟩⟩
  · exact pushCells_keeps _ _ _ _ (Heap.get?_push_size _ rfl)
  · obtain ⟨c, hc⟩ := cells_mem_lookup fd.scope.names (s.heap.objs.size + 1) [] x (.inl hx)
    exact ⟨c, hc, (ok.empty x c (mem_of_lookup hc)).1⟩
  · exact name_of_addr ok.apart (mem_of_lookup hx) (mem_of_lookup hy)

theorem call_def {prog : Program} {w : World} {R : Result → Shared → Prop} {a : Addr} {fd : FuncData} {body : List Stmt} {args : Args} {binds : List (Str × Value)}
    (hroom : A.depth < recursionLimit) (ho : s.heap.get? a = some o) (hdata : o.data = .func fd) (hlim : s.heap.NoLimit) (hcd : s.heap.CodeRec fd.code fd.qualname)
    (hbody : fd.body = .stmts body) (hbind : ∀ (Q : List (Str × Value) → Shared → Prop) (E : Value → Shared → Prop), Q binds s → wpAny (model prog w) A.in1 (bindArgs fd args) Q E s) (hclo : fd.closure = [])
    (hb : ∀ x ∈ binds, isV (fd.scope.names.lookup x.1) = true)
    (h : ∀ s₁, Act [] (callEnvC fd s.heap.objs.size a) s s₁ (bindAll (fun _ => none) binds) →
      wpAny (model prog w) (A.deeper (callEnvC fd s.heap.objs.size a)) (execs body (callEnvC fd s.heap.objs.size a)) (fun f s' => R (.ok (.ret (match f with | .ret v => v | _ => .none))) s') (fun _ _ => False) s₁)
    (hco : fd.scope.isCoroutine = false := by rfl) (hgen : fd.scope.isGenerator = false := by rfl) (hk : fd.scope.kind = .function := by rfl) :
    codeAny (model prog w) A (.call (.ref a) args) R s := by
  refine codeAny_call_function hroom ho hdata hco hgen hbody hcd (hbind _ _ ?_)
  rw [hclo]
  refine act_new hk hb fun s₁ x => ?_
  refine ⟨hlim.keeps fun b o e => x.base.get (by simp) e, codeAny_func (wpAny_mono (h s₁ x) (fun _ _ y => y) fun _ _ y => y.elim)⟩

end Mine

-- part B1
namespace Mine
open PySem PySem.W PyProof.Rows

/-! ## the written part of the heap -/
noncomputable abbrev KH (w : World) : Frag := KF w.params
def P0 : Params := { strHash := fun _ => 0, shareClass := fun a => a, mergeTok := fun t => t, idOf := fun _ => 0, idOfShared := fun _ _ => 0, followText := fun _ => false, idOfImm := fun _ => 0 }
noncomputable def fdOf (P : Params) (a : Addr) : FuncData := match (KF P).lookup a with | some ⟨_, _, .func fd, _⟩ => fd | _ => default
noncomputable def fdC (a : Addr) : FuncData := fdOf P0 a
noncomputable def bodyC (a : Addr) : List Stmt := match (fdC a).body with | .stmts b => b | _ => []

structure Bd (p : Program) (w : World) (hB : Heap) : Prop where
  K : (KH w).In hB
  tab : hB.get? 126 = some (tabObj #[])
  T : ∃ loose mg mb, TopRead p loose mg mb hB ∧ ∃ bm ob, mg "__builtins__" = some (.ref bm) ∧ bm ≠ builtinsNs ∧ hB.get? bm = some ob ∧ ob.cls = .type "module" ∧ ob.dict = some builtinsNs ∧ ob.data = .plain

/-- all that was there, but the note table of the lambda's code -/
def Ext (h h' : Heap) : Prop := ∀ b o, b ≠ 126 → h.get? b = some o → h'.get? b = some o
theorem Ext.refl (h : Heap) : Ext h h := fun _ _ _ e => e
theorem Ext.trans {h h' h'' : Heap} (x : Ext h h') (y : Ext h' h'') : Ext h h'' := fun b o n e => y b o n (x b o n e)
theorem Kb.ext {s s' : Shared} (k : Kb [] s s') : Ext s.heap s'.heap := fun _ _ _ e => k.get0 e
theorem Kb.extT {s s' : Shared} (k : Kb [126] s s') : Ext s.heap s'.heap := fun _ _ n e => k.get (by simpa using n) e
theorem Ext.kb {h : Heap} {s s' : Shared} {W : List Addr} (x : Ext h s.heap) (k : Kb W s s') (hW : ∀ b ∈ W, b = 126 ∨ h.get? b = none) : Ext h s'.heap := fun b o n e =>
  k.get (fun q => by rcases hW b q with r | r; exact n r; rw [r] at e; cases e) (x b o n e)
theorem Ext.ns {h h' : Heap} (x : Ext h h') {a : Addr} {m : Str → Option Value} (n : h.Ns a m) (ha : a ≠ 126) : h'.Ns a m := n.at' fun o e => x a o ha e

section
variable {p : Program} {w : World} {hB : Heap} {s : Shared} {env : Env} {M : Model} {A : Around} {E : Value → Shared → Prop}

theorem k126 (P : Params) : (KF P).lookup 126 = none := by rfl
theorem Bd.at_ (B : Bd p w hB) (X : Ext hB s.heap) {a : Addr} {o : Obj} (e : (KH w).lookup a = some o) : s.heap.get? a = some o := by
  refine X _ _ (fun q => ?_) (B.K _ _ e)
  subst q; rw [k126] at e; cases e
theorem Bd.nolimit (B : Bd p w hB) (X : Ext hB s.heap) : s.heap.NoLimit := by
  obtain ⟨_, mg, mb, T, _⟩ := B.T
  obtain ⟨mc, n, hz⟩ := T.nolimit
  exact ⟨mc, X.ns n (by decide), hz⟩

theorem Bd.glob (B : Bd p w hB) (X : Ext hB s.heap) {x : Str} {pos : Pos} {v : Value} {Q : Value → Shared → Prop} (e : nsIn (KH w) mainGlobals x = some (some v)) (h : Q v s)
    (hg : env.globals = mainGlobals := by rfl) (hk : env.scope.kind = .function := by rfl) (hx : env.kindOf x = some .globalImplicit := by rfl) (hd : (x == ("__debug__" : Str)) = false := by decide +kernel) :
    wpAny M A (eval (.Name x pos) env) Q E s := by
  obtain ⟨_, mg, mb, T, _⟩ := B.T
  exact Calls.Name_function_global hk hx (Calls.loadGlobal_global (env := env) (by rw [hg]; exact X.ns T.g (by decide)) (mg_of B.K T.g e) h) hd
theorem Bd.built (B : Bd p w hB) (X : Ext hB s.heap) {x : Str} {pos : Pos} {v : Value} {Q : Value → Shared → Prop} (e : nsIn (KH w) mainGlobals x = some none) (hv : bootBuiltins x = some v) (hn : x ≠ "__name__") (h : Q v s)
    (hg : env.globals = mainGlobals := by rfl) (hbn : env.builtins = builtinsNs := by rfl) (hk : env.scope.kind = .function := by rfl) (hx : env.kindOf x = some .globalImplicit := by rfl) (hd : (x == ("__debug__" : Str)) = false := by decide +kernel) :
    wpAny M A (eval (.Name x pos) env) Q E s := by
  obtain ⟨_, mg, mb, T, _⟩ := B.T
  exact Calls.Name_function_global hk hx (Calls.loadGlobal_builtin (env := env) (by rw [hg]; exact X.ns T.g (by decide)) (mg_none_of B.K T.g e) (by rw [hbn]; exact X.ns T.b (by decide)) ((T.builtins x hn).trans hv) h) hd
end

theorem fd_at {P : Params} {a : Addr} (e : (match (KF P).lookup a with | some ⟨_, _, .func _, _⟩ => true | _ => false) = true) : ∃ o, (KF P).lookup a = some o ∧ o.data = .func (fdOf P a) := by
  unfold fdOf
  split at e
  · rename_i h; exact ⟨_, h, rfl⟩
  · cases e

theorem g_drawn (w : World) : nsIn (KH w) mainGlobals "_law_drawn" = some (some (.ref 138)) := by rfl
theorem g_read (w : World) : nsIn (KH w) mainGlobals "_law_read" = some (some (.ref 145)) := by rfl
theorem g_takes (w : World) : nsIn (KH w) mainGlobals "_law_takes" = some (some (.ref 150)) := by rfl
theorem g_heads (w : World) : nsIn (KH w) mainGlobals "_law_heads" = some (some (.ref 155)) := by rfl
theorem g_asked (w : World) : nsIn (KH w) mainGlobals "_law_asked" = some (some (.ref 162)) := by rfl
theorem g_translate (w : World) : nsIn (KH w) mainGlobals "_translate" = some (some (.ref 131)) := by rfl
theorem g_escape (w : World) : nsIn (KH w) mainGlobals "escape" = some (some (.ref 124)) := by rfl
theorem g_Ignore (w : World) : nsIn (KH w) mainGlobals "_Ignore" = some (some (.ref 103)) := by rfl
theorem g_map (w : World) : nsIn (KH w) mainGlobals "_special_chars_map" = some (some (.ref 114)) := by rfl
theorem g_twin (w : World) : nsIn (KH w) mainGlobals "_twin_re_1" = some (some (.ref 112)) := by rfl
theorem g_len (w : World) : nsIn (KH w) mainGlobals "len" = some none := by rfl

theorem fd_same (P : Params) : fdOf P 155 = fdC 155 := by rfl
end Mine

-- part B2
namespace Mine
open PySem PySem.W PyProof.Rows
open Sem (wp)

def isTup (o : Obj) : Bool := o.cls == .type "tuple" && (match o.data with | .seq .. => true | _ => false)
def Im (h h' : Heap) : Prop := ∀ b o, h.get? b = some o → isTup o = true → h'.get? b = some o
theorem Im.refl (h : Heap) : Im h h := fun _ _ e _ => e
theorem Im.trans {h h' h'' : Heap} (x : Im h h') (y : Im h' h'') : Im h h'' := fun b o e t => y b o (x b o e t) t

theorem isTup_ns {h : Heap} {a : Addr} {m} (n : h.Ns a m) : ∃ o, h.get? a = some o ∧ isTup o = false := by
  obtain ⟨o, es, ep, ho, hd, _⟩ := n; exact ⟨o, ho, by simp [isTup, hd]⟩
theorem isTup_pl {h : Heap} {a : Addr} {ys} (n : h.PlainList a ys) : ∃ o, h.get? a = some o ∧ isTup o = false := by
  obtain ⟨k, ho⟩ := n; exact ⟨_, ho, rfl⟩

/-! ## a comprehension's loop -/
section
variable {prog : Program} {w : World} {A : Around} {R : Result → Shared → Prop} {s : Shared} {α : Type}

theorem comp_loop {elt iter : Expr} {x : Str} {px : Pos} {ifs : List Expr} {scope : Scope} {pos : Pos} {I D : Addr} {fp W : List Addr} {as : List α} {Rep : α → Value → Prop} {St : Nat → Heap → Prop} {cenv : Env} {m : Str → Option Value}
    (Wk : Walks prog w A I fp [I] as.length (fun i v => ∃ a, as[i]? = some a ∧ Rep a v) St) (hsz : as.length ≤ sizeLine) (hIt : ∀ i h, St i h → ∃ o, h.get? I = some o ∧ isTup o = false)
    (hx : cenv.kindOf x = some .local) (hp : (cenv.scope.kind == .class || (cenv.scope.kind == .module && cenv.locals != cenv.globals)) = false)
    (J : Nat → Heap → Prop) (F : Heap → α → Value → Prop) (p : α → Bool)
    (hDC : D ≠ cenv.locals) (hDf : D ∉ fp) (hCf : cenv.locals ∉ fp) (hCI : cenv.locals ≠ I) (hDI : D ≠ I) (hCW : cenv.locals ∉ W) (hDW : D ∉ W) (hfW : ∀ b ∈ fp, b ∉ W) (hIW : I ∉ W)
    (hWt : ∀ i h, J i h → ∀ b ∈ W, ∃ o, h.get? b = some o ∧ isTup o = false)
    (hJ : ∀ i h h', J i h → (∀ b ∈ W, ∀ o, h.get? b = some o → h'.get? b = some o) → J i h')
    (hF : ∀ h h' a y, F h a y → Im h h' → F h' a y)
    (hst : St 0 s.heap) (hacc : s.heap.PlainList D #[]) (hn : s.heap.Ns cenv.locals m) (hJ0 : J 0 s.heap)
    (turn : ∀ i a v s₁ m₁, as[i]? = some a → Rep a v → J i s₁.heap → s₁.heap.Ns cenv.locals m₁ → m₁ x = some v → Kb (cenv.locals :: I :: D :: W) s s₁ →
      wpAny (model prog w) A (forIn ifs true fun c r => if r = true then do let ok ← isTrue c cenv (eval c cenv); pure (ForInStep.yield ok) else pure (ForInStep.yield r))
        (fun ok s₂ => ok = p a ∧ (if p a = true then wpAny (model prog w) A (eval elt cenv) (fun y s₃ => F s₃.heap a y ∧ J (i + 1) s₃.heap ∧ Kb W s₁ s₃) (fun _ _ => False) s₂ else J (i + 1) s₂.heap ∧ Kb W s₁ s₂)) (fun _ _ => False) s₁)
    (hR : ∀ s' m' ys, s'.heap.Ns cenv.locals m' → s'.heap.PlainList D ys → Paired (F s'.heap) (as.filter p) ys.toList → J as.length s'.heap → Kb (cenv.locals :: I :: D :: W) s s' → R (.ok .next) s') :
    codeAny (model prog w) A (.compLoop (.ListComp elt [⟨.Name x px, iter, ifs, 0⟩] scope pos) 0 (.ref I) (.ref D) cenv) R s := by
  refine codeAny_compLoop_tests
    (fun k s' => ∃ m' ys i, Kb (cenv.locals :: I :: D :: W) s s' ∧ St i s'.heap ∧ s'.heap.PlainList D ys ∧ s'.heap.Ns cenv.locals m' ∧ J i s'.heap ∧
      Paired (F s'.heap) ((as.take i).filter p) ys.toList ∧ i ≤ as.length ∧ k = as.length + 1 - i) ?_ (as.length + 1)
    ⟨m, #[], 0, Kb.refl _ _, hst, hacc, hn, hJ0, by simpa using Paired.nil, Nat.zero_le _, rfl⟩
  rintro k s' ⟨m', ys, i, hk, hst', hacc', hn', hJi, hP, hi, rfl⟩
  have notI : ∀ b o, s'.heap.get? b = some o → isTup o = true → b ≠ I := fun b o e t q => by
    obtain ⟨o', e', t'⟩ := hIt _ _ hst'; subst q; rw [e] at e'; cases e'; rw [t] at t'; cases t'
  by_cases hlt : i < as.length
  · refine Wk.item i _ _ _ hlt hst' fun v h₁ tk₁ hPv hst₁ hk₁ => ?_
    obtain ⟨a, ha, hrep⟩ := hPv
    have hn₁ : h₁.Ns cenv.locals m' := hn'.at' fun o e => hk₁ _ o (by simpa using hCI) e
    refine wpAny_assign_Name (wpAny_storeName_local hx hn₁ (fun h₂ hn₂ hs₂ => ?_) hp)
    have hacc₁ : h₁.PlainList D ys := hacc'.at fun o e => hk₁ _ o (by simpa using hDI) e
    have hacc₂ : h₂.PlainList D ys := hacc₁.extBut hs₂.extBut hDC
    have hst₂ : St (i + 1) h₂ := Wk.frame _ _ _ hst₁ fun b hb o e => hs₂.extBut b o (fun q => hCf (q ▸ hb)) e
    have notC : ∀ b o, h₁.get? b = some o → isTup o = true → b ≠ cenv.locals := fun b o e t q => by
      obtain ⟨o', e', t'⟩ := isTup_ns hn₁; subst q; rw [e] at e'; cases e'; rw [t] at t'; cases t'
    have im₂ : Im s'.heap h₂ := fun b o e t => by
      have e1 := hk₁ b o (by simpa using notI b o e t) e
      exact hs₂.extBut b o (notC b o e1 t) e1
    have hk₂ : Kb (cenv.locals :: I :: D :: W) s { s' with heap := h₂, toks := tk₁ + 1 } := by
      refine hk.trans ⟨h₂, _, _, rfl, fun b o hb e => ?_⟩
      simp only [List.mem_cons, not_or] at hb
      exact hs₂.extBut b o hb.1 (hk₁ b o (by simpa using hb.2.1) e)
    have hJ₂ : J i h₂ := hJ i _ _ hJi fun b hb o e => hs₂.extBut b o (fun q => hCW (q ▸ hb)) (hk₁ b o (by simp only [List.mem_singleton]; exact fun q => hIW (q ▸ hb)) e)
    refine wpAny_mono (turn i a v _ _ ha hrep hJ₂ hn₂ (by simp) hk₂) (fun ok s₃ h₃ => ?_) fun _ _ e => e.elim
    obtain ⟨rfl, h₃⟩ := h₃
    have htake : as.take (i + 1) = as.take i ++ [a] := by
      rw [List.take_add_one, ha]; rfl
    have stepE : ∀ s₃ : Shared, Kb W { s' with heap := h₂, toks := tk₁ + 1 } s₃ → J i h₂ → St (i + 1) s₃.heap ∧ s₃.heap.PlainList D ys ∧ (∃ m₃, s₃.heap.Ns cenv.locals m₃) ∧ Im s'.heap s₃.heap ∧ Kb (cenv.locals :: I :: D :: W) s s₃ := fun s₃ hk₃ hJx => by
      refine ⟨Wk.frame _ _ _ hst₂ fun b hb o e => hk₃.get (hfW b hb) e, hacc₂.at fun o e => hk₃.get hDW e, ⟨_, hn₂.at' fun o e => hk₃.get hCW e⟩, fun b o e t => ?_, hk₂.trans (hk₃.mono fun b hb => by simp [hb])⟩
      have e2 := im₂ b o e t
      refine hk₃.get (fun q => ?_) e2
      obtain ⟨o', e', t'⟩ := hWt i _ hJx b q
      rw [e2] at e'; cases e'; rw [t] at t'; cases t'
    cases hpa : p a with
    | false =>
      simp only [hpa, Bool.false_eq_true, if_false] at h₃ ⊢
      obtain ⟨hJ₃, hk₃⟩ := h₃
      obtain ⟨hst₃, hacc₃, ⟨m₃, hn₃⟩, im₃, hk₃'⟩ := stepE s₃ hk₃ hJ₂
      refine ⟨as.length + 1 - (i + 1), by omega, m₃, ys, i + 1, hk₃', hst₃, hacc₃, hn₃, hJ₃, ?_, hlt, rfl⟩
      rw [htake, List.filter_append]
      simpa [hpa] using hP.mono fun _ _ hy => hF _ _ _ _ hy im₃
    | true =>
      simp only [hpa, if_true] at h₃ ⊢
      refine wpAny_mono h₃ (fun y s₄ h₄ => ?_) fun _ _ e => e.elim
      obtain ⟨hFy, hJ₄, hk₄⟩ := h₄
      obtain ⟨hst₄, hacc₄, ⟨m₄, hn₄⟩, im₄, hk₄'⟩ := stepE s₄ hk₄ hJ₂
      have hys : ys.size ≤ sizeLine := by
        have e1 := hP.length
        have e2 : ((as.take i).filter p).length ≤ (as.take i).length := List.length_filter_le _ _
        have e3 : (as.take i).length ≤ as.length := by simp only [List.length_take]; omega
        have e4 : ys.toList.length = ys.size := by simp
        omega
      refine wpAny_list_append_plain (hsz := hys) hacc₄ fun h₅ hl₅ hs₅ => ?_
      have im₅ : Im s₄.heap h₅ := fun b o e t => hs₅.extBut b o (fun q => by
        obtain ⟨o', e', t'⟩ := isTup_pl hacc₄; subst q; rw [e] at e'; cases e'; rw [t] at t'; cases t') e
      refine ⟨as.length + 1 - (i + 1), by omega, m₄, ys.push y, i + 1, hk₄'.trans ⟨h₅, _, _, rfl, fun b o hb e => ?_⟩, ?_, hl₅, hn₄.sameBut hs₅ (Ne.symm hDC), ?_, ?_, hlt, rfl⟩
      · simp only [List.mem_cons, not_or] at hb
        exact hs₅.extBut b o hb.2.2.1 e
      · exact Wk.frame _ _ _ hst₄ fun b hb o e => hs₅.extBut b o (fun q => hDf (q ▸ hb)) e
      · exact hJ _ _ _ hJ₄ fun b hb o e => hs₅.extBut b o (fun q => hDW (q ▸ hb)) e
      · rw [htake, List.filter_append]
        have h1 := (hP.mono fun _ _ hy => hF _ _ _ _ hy (im₄.trans im₅) : Paired (F h₅) _ _)
        have h2 : F h₅ a y := hF _ _ _ _ hFy im₅
        simpa [hpa] using Paired.snoc h1 h2
  · have hin : i = as.length := by omega
    refine Wk.done _ _ _ (hin ▸ hst') fun h₁ tk₁ hk₁ => ?_
    subst hin
    have im₁ : Im s'.heap h₁ := fun b o e t => hk₁ b o (by simpa using notI b o e t) e
    refine hR _ m' ys (hn'.at' fun o e => hk₁ _ o (by simpa using hCI) e) (hacc'.at fun o e => hk₁ _ o (by simpa using hDI) e) ?_ ?_ ?_
    · simpa using hP.mono fun _ _ hy => hF _ _ _ _ hy im₁
    · exact hJ _ _ _ hJi fun b hb o e => hk₁ b o (by simp only [List.mem_singleton]; exact fun q => hIW (q ▸ hb)) e
    · refine hk.trans ⟨h₁, _, _, rfl, fun b o hb e => ?_⟩
      simp only [List.mem_cons, not_or] at hb
      exact hk₁ b o (by simpa using hb.2.1) e
end
end Mine

-- part B3
namespace Mine
open PySem PySem.W PyProof.Rows
open Sem (wp)

section
variable {prog : Program} {w : World} {A : Around} {E : Value → Shared → Prop} {s s₂ : Shared} {α : Type} {env : Env}

/-- a comprehension behind its iterable -/
def CompRun (prog : Program) (w : World) (A : Around) (E : Value → Shared → Prop) (env : Env) (e : Expr) (scope : Scope) (cl : List (Str × Addr)) (use : Option (Value → Sem Unit)) (Q : Value → Shared → Prop) (xv : Value) (s : Shared) : Prop :=
  wpAny (model prog w) A (pyIter xv) (fun it s₂ => wpAny (model prog w) A (newList []) (fun acc s₃ =>
      wpAny (model prog w) A (newFunctionEnv scope env.globals cl [] env.qual none .none (some env)) (fun cenv s₄ =>
        codeAny (model prog w) A (.compStart e 0 it acc { cenv with scope := relabel scope env }) (compPost (model prog w) A E use Q acc cenv.locals) s₄) E s₃) E s₂) E s

theorem comp_eval {elt target iter : Expr} {ifs : List Expr} {gs : List Comprehension} {scope : Scope} {cl : List (Str × Addr)} {pos : Pos} {Q : Value → Shared → Prop}
    (h : wpAny (model prog w) A (eval iter env) (CompRun prog w A E env (.ListComp elt (⟨target, iter, ifs, 0⟩ :: gs) scope pos) scope cl none Q) E s)
    (hclos : closureFor scope env = pure cl := by rfl) (hkind : scope.kind = .function := by rfl)
    (hnames : ∀ y ∈ scope.names, y.2 = .local → scope.names.lookup y.1 = some .local := by decide +kernel)
    (hs : ∀ x, foldedSetIterable iter env x = pure x := by intro _; rfl) :
    wpAny (model prog w) A (eval (.ListComp elt (⟨target, iter, ifs, 0⟩ :: gs) scope pos) env) Q E s := by
  rw [eval_ListComp]
  exact wpAny_comprehension_free (use := none) rfl hs hclos hkind hnames (wpAny_mono h (fun xv s₁ h₁ => h₁) fun _ _ e => e)

theorem comp_use {elt target iter : Expr} {ifs : List Expr} {gs : List Comprehension} {scope : Scope} {cl : List (Str × Addr)} {pos spos py : Pos} {y : Str} {Q : Flow → Shared → Prop}
    (h : wpAny (model prog w) A (eval iter env) (CompRun prog w A E env (.ListComp elt (⟨target, iter, ifs, 0⟩ :: gs) scope pos) scope cl (some (assign (.Name y py) env)) (fun _ => Q .next)) E s)
    (hsw : swapsWith (.ListComp elt (⟨target, iter, ifs, 0⟩ :: gs) scope pos) (some (.Name y py)) spos.line env = pure true := by rfl)
    (hclos : closureFor scope env = pure cl := by rfl) (hkind : scope.kind = .function := by rfl)
    (hnames : ∀ y ∈ scope.names, y.2 = .local → scope.names.lookup y.1 = some .local := by decide +kernel)
    (hs : ∀ x, foldedSetIterable iter env x = pure x := by intro _; rfl) :
    wpAny (model prog w) A (exec (.Assign [.Name y py] (.ListComp elt (⟨target, iter, ifs, 0⟩ :: gs) scope pos) spos) env) Q E s := by
  rw [exec_Assign_Name_used _ _ _ _ hsw]
  refine wpAny_bind (wpAny_standAt (wpAny_bind ?_))
  show wpAny _ A (do let _ ← comprehension (.ListComp elt (⟨target, iter, ifs, 0⟩ :: gs) scope pos) scope env _ (newList []) false (eval iter env) (some (assign (.Name y py) env))) _ _ s
  refine wpAny_bind (wpAny_mono (wpAny_comprehension_free (use := some (assign (.Name y py) env)) (Q := fun _ s' => Q .next s') rfl hs hclos hkind hnames
    (wpAny_mono h (fun xv s₁ h₁ => h₁) fun _ _ e => e)) (fun _ s' hq => wpAny_pure (wpAny_pure hq)) fun _ _ e => e)

/-- what can be walked -/
def Src (prog : Program) (w : World) (A : Around) (xv : Value) (s : Shared) (W : List Addr) (as : List α) (Rep : α → Value → Prop) : Prop :=
  ∀ (Q : Value → Shared → Prop) (E : Value → Shared → Prop), (∀ s₂ I fp St, Kb [] s s₂ → s.heap.get? I = none → (∃ o, s₂.heap.get? I = some o) → Walks prog w A I fp [I] as.length (fun i v => ∃ a, as[i]? = some a ∧ Rep a v) St → St 0 s₂.heap →
    (∀ i h, St i h → ∃ o, h.get? I = some o ∧ isTup o = false) → (∀ b ∈ fp, b = I ∨ (b ∉ W ∧ ∃ o, s.heap.get? b = some o)) → (∀ i h, St i h → ∀ b ∈ fp, ∃ o, h.get? b = some o ∧ isVar o = false) → Q (.ref I) s₂) → wpAny (model prog w) A (pyIter xv) Q E s

theorem fresh_size (h : Heap) : h.get? h.objs.size = none := Heap.get?_none_of_le (Nat.le_refl _)
theorem Kb.push {W : List Addr} (s : Shared) (o : Obj) (t : Nat) : Kb W s { s with heap := s.heap.push o, toks := t } := ⟨_, t, _, rfl, fun _ _ _ e => Heap.get?_push_of_some _ e⟩

theorem src_list {ax : Addr} {items : Array Value} {W : List Addr} (hh : A.handled = none) (hl : s.heap.IsList ax items) (hW : ax ∉ W) : Src prog w A (.ref ax) s W items.toList (fun a v => v = a) := by
  intro Q E h
  refine wpAny_pyIter_list hl (h _ s.heap.objs.size [s.heap.objs.size, ax] (fun i h => h.IsListIter s.heap.objs.size ax i ∧ h.IsList ax items) (Kb.push s _ _) (fresh_size _) ⟨_, Heap.get?_push_size _ rfl⟩ ?_ ?_ ?_ ?_ ?_)
  · have hne : ax ≠ s.heap.objs.size := by obtain ⟨o, ho, _⟩ := hl; exact Nat.ne_of_lt (Heap.lt_size ho)
    have W := Walks.list (prog := prog) (w := w) (A := A) hh s.heap.objs.size ax hne items
    refine { sub := fun b hb => by simp at hb; simp [hb], frame := W.frame, item := fun i s Q E hi st hQ => W.item i s Q E (by simpa using hi) st fun v h' tk hv => hQ v h' tk ⟨v, by simpa using hv, rfl⟩, done := fun s Q E st hQ => W.done s Q E (by simpa using st) hQ, self := W.self }
  · exact ⟨⟨_, Heap.get?_push_size _ rfl, rfl, rfl⟩, hl.push _⟩
  · rintro i h ⟨⟨o, ho, hc, _⟩, _⟩; exact ⟨o, ho, by simp [isTup, hc]⟩
  · intro b hb
    simp at hb
    rcases hb with rfl | rfl
    · exact .inl rfl
    · obtain ⟨o, ho, _⟩ := hl; exact .inr ⟨hW, o, ho⟩
  · rintro i h ⟨⟨o, ho, hc, hd⟩, ⟨o', ho', hc', n', hd'⟩⟩ b hb
    simp at hb
    rcases hb with rfl | rfl
    · exact ⟨o, ho, by simp [isVar, hc, hd]⟩
    · exact ⟨o', ho', by simp [isVar, hc', hd']⟩

theorem src_range {r : Addr} {n : Nat} {t u v : Tok} {W : List Addr} (hh : A.handled = none) (hr : IsRange s.heap r 0 n 1 t u v) (hn : n ≤ sizeLine) : Src prog w A (.ref r) s W (List.range n) (fun k v => ∃ t, v = .int (k : Nat) t) := by
  intro Q E h
  have hn' : (n : Int) < 2 ^ 62 := by have : sizeLine = 2 ^ 24 := rfl; omega
  refine wpAny_pyIter_range hr (small_one (by decide) (by decide) (by omega) hn') (h _ s.heap.objs.size [s.heap.objs.size] (fun i h => IsRangeIter h s.heap.objs.size (0 + (i : Nat) * 1) ((n : Int) - (i : Nat)) 1) (Kb.push s _ _) (fresh_size _) ⟨_, Heap.get?_push_size _ rfl⟩ ?_ ?_ ?_ ?_ ?_)
  · have W := Walks.range (prog := prog) (w := w) (A := A) hh s.heap.objs.size 0 1 n
    refine { sub := W.sub, frame := W.frame, item := fun i s Q E hi st hQ => W.item i s Q E (by simpa using hi) st fun v h' tk hv => hQ v h' tk ⟨i, List.getElem?_range (by simpa using hi), ?_⟩, done := fun s Q E st hQ => W.done s Q E (by simpa using st) hQ, self := W.self }
    obtain ⟨t, rfl⟩ := hv
    exact ⟨t, by simp⟩
  · have e : Builtin.Range.rangeSize 0 n 1 = n := by rw [rangeSize_one]; split <;> omega
    rw [e]
    show Heap.get? _ _ = _
    simpa using Heap.get?_push_size s.heap (o := { cls := .type "range_iterator", data := .fields #[rawInt 0, rawInt n, rawInt 1] }) rfl
  · intro i h st; exact ⟨_, st, rfl⟩
  · intro b hb; simp at hb; exact .inl hb
  · intro i h st b hb; simp at hb; subst hb; exact ⟨_, st, rfl⟩

theorem comp_run {elt iter : Expr} {x : Str} {px : Pos} {ifs : List Expr} {scope : Scope} {cl : List (Str × Addr)} {pos : Pos} {use : Option (Value → Sem Unit)} {Q : Value → Shared → Prop} {xv : Value}
    {W : List Addr} {as : List α} {Rep : α → Value → Prop} (J : Nat → Heap → Prop) (F : Heap → α → Value → Prop) (p : α → Bool)
    (hsrc : Src prog w A xv s W as Rep) (hsz : as.length ≤ sizeLine)
    (hJ0 : J 0 s.heap) (hWt : ∀ i h, J i h → ∀ b ∈ W, ∃ o, h.get? b = some o ∧ isTup o = false)
    (hJ : ∀ i h h', J i h → (∀ b ∈ W, ∀ o, h.get? b = some o → h'.get? b = some o) → J i h')
    (hF : ∀ h h' a y, F h a y → Im h h' → F h' a y)
    (turn : ∀ C i a v s₁ m₁, as[i]? = some a → Rep a v → J i s₁.heap → s₁.heap.Ns C m₁ → m₁ x = some v → Kb W s s₁ →
      wpAny (model prog w) A (forIn ifs true fun c r => if r = true then do let ok ← isTrue c (compEnvC scope cl C env) (eval c (compEnvC scope cl C env)); pure (ForInStep.yield ok) else pure (ForInStep.yield r))
        (fun ok s₂ => ok = p a ∧ (if p a = true then wpAny (model prog w) A (eval elt (compEnvC scope cl C env)) (fun y s₃ => F s₃.heap a y ∧ J (i + 1) s₃.heap ∧ Kb W s₁ s₃) (fun _ _ => False) s₂ else J (i + 1) s₂.heap ∧ Kb W s₁ s₂)) (fun _ _ => False) s₁)
    (done : ∀ D s' ys, s.heap.get? D = none → s'.heap.PlainList D ys → Paired (F s'.heap) (as.filter p) ys.toList → J as.length s'.heap → Kb W s s' →
      (match use with | none => Q (.ref D) s' | some u => wpAny (model prog w) A (u (.ref D)) (fun _ s'' => ∀ C, s.heap.get? C = none → D ≠ C → (∃ m, s'.heap.Ns C m) → (∃ m, s''.heap.Ns C m) ∧ ∀ h', Heap.SameBut C s''.heap h' → Q .none { s'' with heap := h' }) E s'))
    (hcell : ∀ y ∈ scope.names, y.2 ≠ .cell := by decide +kernel) (hkind : scope.kind = .function := by rfl) (hx : scope.names.lookup x = some .local := by rfl) :
    CompRun prog w A E env (.ListComp elt [⟨.Name x px, iter, ifs, 0⟩] scope pos) scope cl use Q xv s := by
  unfold CompRun
  refine hsrc _ _ fun s₂ I fp St k₂ hI hI' Wk hst hIt hfp _ => ?_
  have hIW : I ∉ W := fun q => by
    obtain ⟨o, ho, _⟩ := hWt 0 _ hJ0 I q
    rw [hI] at ho; cases ho
  have lt_of : ∀ b o, s₂.heap.get? b = some o → b < s₂.heap.objs.size := fun b o e => Heap.lt_size e
  have hfpl : ∀ b ∈ fp, b < s₂.heap.objs.size := fun b hb => by
    rcases hfp b hb with rfl | ⟨_, o, ho⟩
    · obtain ⟨o, ho⟩ := hI'; exact lt_of _ _ ho
    · exact lt_of _ _ (k₂.get0 ho)
  have hWl : ∀ b ∈ W, b < s₂.heap.objs.size := fun b hb => by
    obtain ⟨o, ho, _⟩ := hWt 0 _ hJ0 b hb; exact lt_of _ _ (k₂.get0 ho)
  refine wpAny_newObj_type (wpAny_newFunctionEnv hcell (by intro y hy; simp at hy) (fun h₁ hns₁ hsb₁ => ?_) hkind)
  dsimp only at hns₁ hsb₁ ⊢
  generalize hH2 : s₂.heap.push { cls := .type "list", dict := none, data := .seq ([] : List Value).toArray } = H2 at hns₁ hsb₁ ⊢
  have hC : H2.objs.size = s₂.heap.objs.size + 1 := by rw [← hH2, Heap.size_push]
  have hDC : s₂.heap.objs.size ≠ H2.objs.size := by rw [hC]; exact Nat.ne_of_lt (Nat.lt_succ_self _)
  have below : ∀ b, b < s₂.heap.objs.size → b ≠ H2.objs.size ∧ b ≠ s₂.heap.objs.size := fun b hb => ⟨by rw [hC]; exact Nat.ne_of_lt (Nat.lt_succ_of_lt hb), Nat.ne_of_lt hb⟩
  have hIl : I < s₂.heap.objs.size := by obtain ⟨o, ho⟩ := hI'; exact lt_of _ _ ho
  have old : ∀ b o, s₂.heap.get? b = some o → h₁.get? b = some o := fun b o e => hsb₁.extBut b o (below b (Heap.lt_size e)).1 (Heap.get?_push_of_some _ (hH2 ▸ Heap.get?_push_of_some _ e))
  have hacc : h₁.PlainList s₂.heap.objs.size #[] := ⟨_, hsb₁.extBut _ _ hDC (Heap.get?_push_of_some _ (hH2 ▸ Heap.get?_push_size _ rfl))⟩
  have hst₁ : St 0 h₁ := Wk.frame _ _ _ hst fun b _ o e => old b o e
  have up₁ : ∀ b o, s.heap.get? b = some o → h₁.get? b = some o := fun b o e => old b o (k₂.get0 e)
  have hJ₁ : J 0 h₁ := hJ _ _ _ hJ0 fun b _ o e => up₁ b o e
  have fresh : ∀ a, s₂.heap.objs.size ≤ a → s.heap.get? a = none := fun a ha => by
    cases e : s.heap.get? a with
    | none => rfl
    | some o' => exact absurd (lt_of _ _ (k₂.get0 e)) (Nat.not_lt.mpr ha)
  have hDn := fresh _ (Nat.le_refl _)
  have hCn := fresh H2.objs.size (by rw [hC]; exact Nat.le_succ _)
  have base : ∀ {s₃ s₄ : Shared}, s₃ = { s₂ with heap := h₁, toks := s₂.toks + ([] : List (Str × Value)).length } → Kb (H2.objs.size :: I :: s₂.heap.objs.size :: W) s₃ s₄ → Kb W s s₄ := fun hs₃ k => by
    subst hs₃
    obtain ⟨hh₂, tt₂, dd₂, rfl, kk₂⟩ := k₂
    obtain ⟨hh, tt, dd, rfl, kk⟩ := k
    refine ⟨hh, tt, dd, rfl, fun b o hb e => kk b o ?_ (up₁ b o e)⟩
    simp only [List.mem_cons, not_or]
    refine ⟨fun q => ?_, fun q => ?_, fun q => ?_, hb⟩ <;> subst q
    · rw [hCn] at e; cases e
    · rw [hI] at e; cases e
    · rw [hDn] at e; cases e
  have loop : ∀ s₃ : Shared, s₃ = { s₂ with heap := h₁, toks := s₂.toks + ([] : List (Str × Value)).length } →
      codeAny (model prog w) A (.compLoop (.ListComp elt [⟨.Name x px, iter, ifs, 0⟩] scope pos) 0 (.ref I) (.ref s₂.heap.objs.size) (compEnvC scope cl H2.objs.size env))
        (compPost (model prog w) A E use Q (.ref s₂.heap.objs.size) H2.objs.size) s₃ := by
    intro s₃ hs₃
    refine comp_loop (cenv := compEnvC scope cl H2.objs.size env) Wk hsz hIt (lookup_relabel_local hx) (by simp [compEnvC, relabel, hkind]) J F p hDC (fun q => Nat.lt_irrefl _ (hfpl _ q)) (fun q => (below _ (hfpl _ q)).1 rfl) (Ne.symm (below _ hIl).1) (Ne.symm (below _ hIl).2)
      (fun q => (below _ (hWl _ q)).1 rfl) (fun q => Nat.lt_irrefl _ (hWl _ q)) (fun b hb => ?_) hIW hWt hJ hF (by subst hs₃; exact hst₁) (by subst hs₃; exact hacc) (by subst hs₃; exact hns₁) (by subst hs₃; exact hJ₁)
      (fun i a v s₁ m₁ ha hr hj hn hm hk => turn _ i a v s₁ m₁ ha hr hj hn hm (base hs₃ hk)) fun s' m' ys hn hpl hP hj hk => ?_
    · rcases hfp b hb with rfl | ⟨h1, _⟩
      · exact hIW
      · exact h1
    · have hd := done _ s' ys hDn hpl hP hj (base hs₃ hk)
      have hIm : ∀ h', Heap.SameBut H2.objs.size s'.heap h' → Im s'.heap h' := fun h' hs b o e t => hs.extBut b o (fun q => by
        obtain ⟨o', e', t'⟩ := isTup_ns hn; subst q; have e'' : s'.heap.get? H2.objs.size = some o' := e'; rw [e] at e''; cases e''; rw [t] at t'; cases t') e
      cases use with
      | none =>
        refine ⟨m', hn, fun h' hs' => ?_⟩
        refine done _ { s' with heap := h' } ys hDn (hpl.extBut hs'.extBut hDC) (hP.mono fun _ _ hy => hF _ _ _ _ hy (hIm h' hs')) (hJ _ _ _ hj fun b hb o e => hs'.extBut b o (below _ (hWl _ hb)).1 e) ?_
        obtain ⟨hh, tt, dd, rfl, kk⟩ := base hs₃ hk
        exact ⟨h', tt, dd, rfl, fun b o hb e => hs'.extBut b o (by rintro rfl; rw [hCn] at e; cases e) (kk b o hb e)⟩
      | some u =>
        refine wpAny_mono hd (fun _ s'' hq => ?_) fun _ _ e => e
        obtain ⟨⟨m'', hn''⟩, hq'⟩ := hq _ hCn hDC ⟨m', hn⟩
        exact ⟨m'', hn'', hq'⟩
  exact codeAny_compStart_list (loop _ rfl) (Wk.self 0 _ _ _ hst₁ (loop _ rfl))

theorem for_go {target : Str} {px : Pos} {body : List Stmt} {W₀ W : List Addr} {s₀ : Shared} {m : Str → Option Value} {xv : Value} {as : List α} {Rep : α → Value → Prop} {Q : Flow → Shared → Prop}
    (J : Addr → Nat → (Str → Option Value) → Shared → Prop) (hsrc : Src prog w A xv s W as Rep) (hx : isV (env.kindOf target) = true)
    (a : Act W₀ env s₀ s m) (h0 : ∀ I s', s.heap.get? I = none → Kb [] s s' → J I 0 m s')
    (hJ : ∀ I i m s' s'', J I i m s' → Ch [I] s' s'' → J I i m s'')
    (turn : ∀ I i b v m s', s.heap.get? I = none → (∃ o, s'.heap.get? I = some o ∧ isVar o = false) → as[i]? = some b → Rep b v → J I i m s' → Act W₀ env s₀ s' (upd m target v) →
      wpAny (model prog w) A (execs body env) (fun f s'' => match f with
        | .next | .cont => ∃ m'', Act W₀ env s₀ s'' m'' ∧ J I (i + 1) m'' s'' ∧ Ch W s' s''
        | .brk => False
        | .ret v => Q (.ret v) s'') (fun _ _ => False) s')
    (hIW : ∀ b ∈ W, ∃ o, s.heap.get? b = some o)
    (done : ∀ I m s', s.heap.get? I = none → J I as.length m s' → Act W₀ env s₀ s' m → Q .next s') :
    wpAny (model prog w) A (pyIter xv) (fun it s₂ =>
      codeAny (model prog w) A (.forLoop (.Name target px) it body [] env) (fun r s' => match r with | .ok f => Q f s' | .error e => cameBackBy (model prog w) A env E e s') s₂) E s := by
  refine hsrc _ _ fun s₂ I fp St k₂ hI hI' Wk hst hIt hfp hnv => ?_
  have hIW' : I ∉ W := fun q => by obtain ⟨o, ho⟩ := hIW I q; rw [hI] at ho; cases ho
  have hIs₀ : s₀.heap.get? I = none ∨ I ∈ W₀ := by
    by_cases hw : I ∈ W₀
    · exact .inr hw
    · refine .inl ?_
      cases q : s₀.heap.get? I with
      | none => rfl
      | some o => rw [a.base.get hw q] at hI; cases hI
  refine codeAny_forLoop (fun k s' => ∃ i m', k = as.length + 1 - i ∧ i ≤ as.length ∧ St i s'.heap ∧ J I i m' s' ∧ Act W₀ env s₀ s' m') ?_ (as.length + 1) ⟨0, m, rfl, Nat.zero_le _, hst, h0 I s₂ hI k₂, a.kp k₂⟩
  rintro k s' ⟨i, m', rfl, hi, hst', hj, a'⟩
  have hIm : I ∈ fp := Wk.sub I (by simp)
  have nvI := hnv _ _ hst' I hIm
  by_cases hlt : i < as.length
  · refine Wk.item i _ _ _ hlt hst' fun v h₁ tk₁ hPv hst₁ hk₁ => ?_
    obtain ⟨b, hb, hrep⟩ := hPv
    have k₁ : Kb [I] s' { s' with heap := h₁, toks := tk₁ } := ⟨h₁, tk₁, _, rfl, hk₁⟩
    have a₁ := a'.kb k₁ (by simpa using nvI) (by simpa using hIs₀.symm)
    refine wpAny_assign_Name (a₁.store hx fun s₃ a₃ c₃ => ?_)
    have hj₃ : J I i m' s₃ := hJ _ _ _ _ _ hj (k₁.ch.trans c₃.any)
    have hst₃ : St (i + 1) s₃.heap := Wk.frame _ _ _ hst₁ fun b hb o e => by
      obtain ⟨o', e', v'⟩ := hnv _ _ hst₁ b hb
      rw [e] at e'; cases e'
      exact c₃.get0 e v'
    refine wpAny_mono (turn I i b v m' s₃ hI (hnv _ _ hst₃ I hIm) hb hrep hj₃ a₃) (fun f s₄ h₄ => ?_) fun _ _ e => e.elim
    have nxt : (∃ m'', Act W₀ env s₀ s₄ m'' ∧ J I (i + 1) m'' s₄ ∧ Ch W s₃ s₄) → ∃ k', k' < as.length + 1 - i ∧ ∃ i m', k' = as.length + 1 - i ∧ i ≤ as.length ∧ St i s₄.heap ∧ J I i m' s₄ ∧ Act W₀ env s₀ s₄ m' := by
      rintro ⟨m'', a₄, hj₄, c₄⟩
      refine ⟨as.length + 1 - (i + 1), by omega, i + 1, m'', rfl, hlt, ?_, hj₄, a₄⟩
      refine Wk.frame _ _ _ hst₃ fun b hb o e => ?_
      obtain ⟨o', e', v'⟩ := hnv _ _ hst₃ b hb
      rw [e] at e'; cases e'
      refine c₄.get ?_ e v'
      rcases hfp b hb with rfl | ⟨h, _⟩
      · exact hIW'
      · exact h
    cases f with
    | next => exact nxt h₄
    | cont => exact nxt h₄
    | brk => exact h₄.elim
    | ret v => exact h₄
  · have hin : i = as.length := by omega
    subst hin
    refine Wk.done _ _ _ hst' fun h₁ tk₁ hk₁ => ?_
    have k₁ : Kb [I] s' { s' with heap := h₁, toks := tk₁ } := ⟨h₁, tk₁, _, rfl, hk₁⟩
    exact wpAny_execs_nil (done I m' _ hI (hJ _ _ _ _ _ hj k₁.ch) (a'.kb k₁ (by simpa using nvI) (by simpa using hIs₀.symm)))

theorem src_pair {β : Type} {xv : Value} {W : List Addr} {vs : List α} {ns : List β} {Rep : α → Value → Prop} {R : α → β → Prop} (hsrc : Src prog w A xv s W vs Rep) (hp : Paired R vs ns) : Src prog w A xv s W ns (fun n v => ∃ a, R a n ∧ Rep a v) := by
  have hlen := hp.length
  have get : ∀ {vs : List α} {ns : List β}, Paired R vs ns → ∀ (i : Nat) (a : α), vs[i]? = some a → ∃ n, ns[i]? = some n ∧ R a n := by
    intro vs ns h
    induction h with
    | nil => intro i a e; simp at e
    | cons hr _ ih =>
      intro i a e
      cases i with
      | zero => simp at e; subst e; exact ⟨_, by simp, hr⟩
      | succ i => simpa using ih i a (by simpa using e)
  intro Q E h
  refine hsrc Q E fun s₂ I fp St k hI hI' Wk hst hIt hfp hnv => h s₂ I fp St k hI hI' ?_ hst hIt hfp hnv
  refine { sub := Wk.sub, frame := Wk.frame, item := fun i s Q E hi st hQ => Wk.item i s Q E (by omega) st fun v h' tk hv => hQ v h' tk ?_, done := fun s Q E st hQ => Wk.done s Q E (by rw [hlen]; exact st) hQ, self := Wk.self }
  obtain ⟨a, ha, hr⟩ := hv
  obtain ⟨n, hn, hr'⟩ := get hp i a ha
  exact ⟨n, hn, a, hr', hr⟩
end
end Mine

-- part B4
namespace Mine
open PySem PySem.W PyProof.Rows
open Sem (wp)
open Builtin Builtin.Str

def mk (l : List Nat) : Str := ⟨l.toArray⟩
theorem mk_cps (x : Str) : x = mk x.cps.toList := by simp [mk]
theorem mk_toList (l : List Nat) : (mk l).cps.toList = l := by simp [mk]
theorem mk_length (l : List Nat) : (mk l).length = l.length := by simp [mk, Str.length]
theorem mk_append (l r : List Nat) : mk l ++ mk r = mk (l ++ r) := by
  show Str.append _ _ = _
  simp [mk, Str.append]
theorem ofS (a : String) : Str.ofString a = mk (a.toList.map Char.toNat) := by rw [Str.ofString_eq_toList]; rfl
theorem sizeLine_eq : sizeLine = 16777216 := rfl

structure Rm (A : Around) (n : Nat) : Prop where
  d : A.depth + n < recursionLimit
  u : A.units + 8 * n < cLine
  h : A.handled = none
theorem Rm.deeper {A : Around} {n : Nat} (r : Rm A (n + 1)) (env : Env) : Rm (A.deeper env) n := by
  obtain ⟨d, u, h⟩ := r
  refine ⟨?_, ?_, h⟩
  · show A.depth + 1 + n < _; omega
  · show A.units + 3 + 8 * n < _; omega
theorem Rm.in1 {A : Around} {n : Nat} (r : Rm A (n + 1)) : Rm A.in1 n := by
  obtain ⟨d, u, h⟩ := r
  refine ⟨?_, ?_, h⟩
  · show A.depth + n < _; omega
  · show A.units + 1 + 8 * n < _; omega
theorem Rm.less {A : Around} {n k : Nat} (r : Rm A n) (hk : k ≤ n) : Rm A k := by
  obtain ⟨d, u, h⟩ := r
  exact ⟨by omega, by omega, h⟩
theorem Rm.room {A : Around} {n : Nat} (r : Rm A n) : A.depth < recursionLimit := by have := r.d; omega
theorem Rm.units {A : Around} {n : Nat} (r : Rm A n) : A.units < cLine := by have := r.u; omega

section
variable {prog : Program} {w : World} {A : Around} {E : Value → Shared → Prop} {s : Shared} {env : Env} {Q : Value → Shared → Prop}

theorem toks {W : List Addr} (s : Shared) (t : Nat) : Kb W s { s with toks := t } := (Kb.refl W s).tok t

theorem cInt {i : Int} {k : Nat} {pos : Pos} (h : ∀ t s', Kb [] s s' → Q (.int i t) s') : wpAny (model prog w) A (eval (.Constant (.int i) k pos) env) Q E s := wpAny_Constant_int (h _ _ (toks _ _))
theorem cStr {x : Str} {k : Nat} {pos : Pos} (h : ∀ t s', Kb [] s s' → Q (.str x t) s') : wpAny (model prog w) A (eval (.Constant (.str x) k pos) env) Q E s := wpAny_Constant_str (h _ _ (toks _ _))
theorem cNone {k : Nat} {pos : Pos} (h : Q .none s) : wpAny (model prog w) A (eval (.Constant .none k pos) env) Q E s := wpAny_Constant_none h
theorem cBool {b : Bool} {k : Nat} {pos : Pos} (h : Q (.bool b) s) : wpAny (model prog w) A (eval (.Constant (.bool b) k pos) env) Q E s := wpAny_Constant_bool h

theorem addInt {a b : Int} {t u : Tok} (h : ∀ t s', Kb [] s s' → Q (.int (a + b) t) s') : wpAny (model prog w) A (binaryOp .Add (.int a t) (.int b u)) Q E s := P.add_int (h _ _ (toks _ _))
theorem addStr {a b : List Nat} {t u : Tok} (hsz : a.length + b.length ≤ sizeLine) (h : ∀ t s', Kb [] s s' → Q (.str (mk (a ++ b)) t) s') : wpAny (model prog w) A (binaryOp .Add (.str (mk a) t) (.str (mk b) u)) Q E s := by
  refine P.add_str ?_
  split
  · rename_i e
    have : a = [] := by simpa [mk_length] using e
    subst this
    exact h u s (Kb.refl _ _)
  · split
    · rename_i e
      have : b = [] := by simpa [mk_length] using e
      subst this
      have := h t s (Kb.refl _ _)
      rwa [List.append_nil] at this
    · exact ⟨by rw [mk_append, mk_length, List.length_append]; exact hsz, by rw [mk_append]; exact h _ _ (toks _ _)⟩
theorem eqStr {a b : List Nat} {t u : Tok} (h : Q (.bool (a == b)) s) : wpAny (model prog w) A (compareOp .Eq (.str (mk a) t) (.str (mk b) u)) Q E s :=
  P.eq_str (by rw [mk_toList, mk_toList]; exact h)
theorem neStr {a b : List Nat} {t u : Tok} (h : Q (.bool (a != b)) s) : wpAny (model prog w) A (compareOp .NotEq (.str (mk a) t) (.str (mk b) u)) Q E s :=
  P.ne_str (by rw [mk_toList, mk_toList]; exact h)
theorem lenStr {a : List Nat} {t : Tok} (hsz : a.length ≤ sizeLine) (h : ∀ t s', Kb [] s s' → Q (.int (a.length : Nat) t) s') : wpAny (model prog w) A (call (.builtin "len") [.str (mk a) t]) Q E s :=
  P.len_str (by rw [mk_length]; have := sizeLine_eq; omega) (by rw [mk_length]; exact h _ _ (toks _ _))

theorem itemStr {a : List Nat} {t u : Tok} {k c : Nat} (hsz : a.length ≤ sizeLine) (hc : a[k]? = some c) (h : ∀ t s', Kb [] s s' → Q (.str (mk [c]) t) s') : wpAny (model prog w) A (getItem (.str (mk a) t) (.int (k : Nat) u)) Q E s := by
  have hk : k < a.length := (List.getElem?_eq_some_iff.mp hc).1
  have h24 : sizeLine = 16777216 := rfl
  refine P.getItem_str (c := c) ?_ ?_ (h _ _ (toks _ _))
  · have h1 : ¬ ((k : Int) < -(2 ^ 63 : Int)) := by omega
    have h2 : ¬ ((k : Int) ≥ 2 ^ 63) := by omega
    rw [decide_eq_false h1, decide_eq_false h2]; rfl
  · have : seqIndex? (k : Int) (mk a).length = some k := by
      rw [mk_length]; unfold seqIndex?
      have h1 : ¬ ((k : Int) < 0) := by omega
      simp [h1, hk]
    rw [this]
    simpa [mk] using hc

theorem Subscript_str {value slice : Expr} {pos : Pos} 
    (h : wpAny (model prog w) A (eval value env) (fun o s₁ => wpAny (model prog w) A (eval slice env) (fun i s₂ => (∃ x t, o = .str x t) ∧ wpAny (model prog w) A (getItem o i) Q E s₂) E s₁) E s)
    (hs : ∀ o i, subscripted slice false o i = operate [o, i] (getItem o i) := by intro _ _; with_unfolding_all rfl) (ht : ∀ x t r, letTemporaryGo value (.str x t) r = pure () := by intro _ _ _; with_unfolding_all rfl) :
    wpAny (model prog w) A (eval (.Subscript value slice pos) env) Q E s := by
  refine Subscript_ (wpAny_mono h (fun o s₁ h₁ => wpAny_mono h₁ (fun i s₂ h₂ => ?_) fun _ _ e => e) fun _ _ e => e)
  obtain ⟨⟨x, t, rfl⟩, h₂⟩ := h₂
  exact subscriptTail_builtin (typeIs_str _ x t) F.slot_str_getitem.lookup h₂ (hs _ _) (ht x t)

/-! slices of a text -/
def cut (a : List Nat) (l u : Option Int) : List Nat :=
  let lo := l.elim 0 (clipAt a.length); let hi := u.elim a.length (clipAt a.length)
  (a.drop lo).take (hi - lo)

theorem strSliceIndices_plain (lo hi : Option Int) (n : Nat) : strSliceIndices lo hi 1 n = sliceRange (lo.elim 0 (clipAt n) : Nat) (hi.elim n (clipAt n) : Nat) 1 := by
  unfold strSliceIndices
  cases lo <;> cases hi <;> simp [clipAt_cast]
theorem picked_plain (a : List Nat) (l u : Option (Int × Tok)) : (slicePicked (mk a) l u none).filterMap ((mk a).cps[·]?) = cut a (l.map (·.1)) (u.map (·.1)) := by
  unfold slicePicked cut
  simp only [Option.map_none, Option.getD_none, mk_length]
  rw [strSliceIndices_plain, sliceRange_one, pick_run]
  simp [mk]
theorem sliceStr {a : List Nat} {t : Tok} {l u : Option (Int × Tok)} (hsz : a.length ≤ sizeLine) (h : ∀ t s', Kb [] s s' → Q (.str (mk (cut a (l.map (·.1)) (u.map (·.1)))) t) s') : (sliceMade (mk a) t l u none).post Q s := by
  have hle : (cut a (l.map (·.1)) (u.map (·.1))).length ≤ a.length := by
    unfold cut; simp only [List.length_take, List.length_drop]; omega
  unfold sliceMade
  rw [picked_plain]
  split
  · rename_i e
    have h1 : (slicePicked (mk a) l u none).length = a.length := by simpa [mk_length] using e
    have h2 : cut a (l.map (·.1)) (u.map (·.1)) = a := by
      unfold slicePicked at h1
      simp only [Option.map_none, Option.getD_none, mk_length] at h1
      rw [strSliceIndices_plain, sliceRange_one, List.length_map, List.length_range] at h1
      unfold cut
      generalize (l.map (·.1)).elim 0 (clipAt a.length) = lo at h1 ⊢
      have hhi : (u.map (·.1)).elim a.length (clipAt a.length) ≤ a.length := by
        cases u with
        | none => simp
        | some u => simp [clipAt]; omega
      generalize (u.map (·.1)).elim a.length (clipAt a.length) = hi at h1 hhi ⊢
      have : lo = 0 ∨ a.length = 0 := by omega
      rcases this with rfl | h0
      · have : hi = a.length := by omega
        subst this; simp
      · have : a = [] := List.length_eq_zero_iff.mp h0
        subst this; simp
    have := h t s (Kb.refl _ _)
    rw [h2] at this
    exact this
  · refine ⟨?_, ?_⟩
    · show (cut a _ _).toArray.size ≤ _
      simp; omega
    · exact h _ _ (toks _ _)
theorem Slice_str {value : Expr} {lower upper : Option Expr} {p pos : Pos}
    (h : wpAny (model prog w) A (eval value env) (fun o s₁ => wpAny (model prog w) A (evalPart lower env) (fun vl s₂ => wpAny (model prog w) A (evalPart upper env) (fun vu s₃ =>
      ∃ a t l u, o = .str (mk a) t ∧ vl = partValue l ∧ vu = partValue u ∧ a.length ≤ sizeLine ∧ ∀ t s', Kb [] s₃ s' → Q (.str (mk (cut a (l.map (·.1)) (u.map (·.1)))) t) s') E s₂) E s₁) E s)
    (ht : ∀ o r, letTemporaryGo value o r = pure () := by intro _ _; rfl) :
    wpAny (model prog w) A (eval (.Subscript value (.Slice lower upper none p) pos) env) Q E s := by
  refine wpAny_Subscript_str_slice (wpAny_mono h (fun o s₁ h₁ => wpAny_mono h₁ (fun vl s₂ h₂ => wpAny_mono h₂ (fun vu s₃ h₃ => ?_) fun _ _ e => e) fun _ _ e => e) fun _ _ e => e) ht
  obtain ⟨a, t, l, u, rfl, rfl, rfl, hsz, hq⟩ := h₃
  exact ⟨mk a, t, l, u, rfl, rfl, rfl, sliceStr hsz fun t s' k => hq t s' ((Kb.push _ _ _).trans k)⟩

/-! calls -/
theorem evalArgs_gen {M : Model} {f : Value} {args : List (Bool × Sem Value)} {Q : Args → Shared → Prop} (hp : args.any (·.1) = false)
    (h : wpAny M A (spliced args) (fun vs s' => Q ⟨vs, []⟩ s') E s) : wpAny M A (evalArgs f true args []) Q E s := by
  match args, hp with
  | [], _ =>
    unfold evalArgs
    show wpAny M A (spliced [] >>= _) Q E s
    refine wpAny_bind (wpAny_mono h (fun vs s' h' => ?_) fun _ _ x => x)
    refine wpAny_bind (wpAny_pure (wpAny_holding ?_))
    exact wpAny_bind (wpAny_pure (wpAny_bind (wpAny_pure (wpAny_pure h'))))
  | (false, x) :: rest, _ => exact Calls.evalArgs_plain h

theorem callWith_val {M : Model} {pos : Pos} {fv : Value} {first : List Value} {args : List (Bool × Sem Value)} (hplain : args.any (·.1) = false) (hf : ∀ a, fv ≠ .ref a)
    (h : wpAny M A (spliced args) (fun vs s₁ => wpAny M A (call fv (first ++ vs)) Q E s₁) E s) : wpAny M A (callWith pos fv first args []) Q E s := by
  unfold callWith
  refine wpAny_bind (wpAny_holding (evalArgs_gen hplain (wpAny_mono h (fun vs s₁ h₁ => wpAny_bind (wpAny_standAt ?_)) fun _ _ x => x)))
  simp only [hplain, List.any_nil, Bool.or_false]
  have hk : keeperOf fv = pure .machine := by cases fv <;> first | rfl | exact absurd rfl (hf _)
  rw [hk]
  refine wpAny_bind (wpAny_pure ?_)
  exact wpAny_bind (wpAny_mono h₁ (fun r s₂ hr => wpAny_bind (wpAny_holding (wpAny_point (wpAny_pure hr)))) fun _ _ x => x)

theorem Call_val {fn : Str} {fp pos : Pos} {args : List Expr} 
    (h : wpAny (model prog w) A (eval (.Name fn fp) env) (fun fv s₁ => (∀ a, fv ≠ .ref a) ∧ wpAny (model prog w) A (spliced (backTo pos (starEach args env))) (fun vs s₂ => wpAny (model prog w) A (call fv vs) Q E s₂) E s₁) E s)
    (hplain : (backTo pos (starEach args env)).any (·.1) = false := by rfl) :
    wpAny (model prog w) A (eval (.Call (.Name fn fp) args [] pos) env) Q E s := by
  show wpAny (model prog w) A (do callWith pos (← eval (.Name fn fp) env) [] (backTo pos (starEach args env)) (backToKw pos (keywordEach [] env))) Q E s
  refine wpAny_bind (wpAny_mono h (fun fv s₁ h₁ => ?_) fun _ _ x => x)
  exact callWith_val hplain h₁.1 h₁.2

theorem Call_fun {fn : Str} {fp pos : Pos} {args : List Expr} {a : Addr} {o : Obj} {fd : FuncData}
    (h : wpAny (model prog w) A (eval (.Name fn fp) env) (fun fv s₁ => fv = .ref a ∧ wpAny (model prog w) A (spliced (backTo pos (starEach args env))) (fun vs s₂ => (s₂.heap.get? a = some o ∧ o.data = .func fd) ∧ wpAny (model prog w) A (call (.ref a) vs) Q E s₂) E s₁) E s)
    (hplain : (backTo pos (starEach args env)).any (·.1) = false := by rfl) :
    wpAny (model prog w) A (eval (.Call (.Name fn fp) args [] pos) env) Q E s := by
  show wpAny (model prog w) A (do callWith pos (← eval (.Name fn fp) env) [] (backTo pos (starEach args env)) (backToKw pos (keywordEach [] env))) Q E s
  refine wpAny_bind (wpAny_mono h (fun fv s₁ h₁ => ?_) fun _ _ x => x)
  obtain ⟨rfl, h₂⟩ := h₁
  exact Calls.callWith_function (first := []) (o := o) (fd := fd) (evalArgs_gen hplain h₂)

theorem rangeCall {n : Nat} {t : Tok} (h : ∀ r t u v s', Kb [] s s' → s.heap.get? r = none → IsRange s'.heap r 0 n 1 t u v → Q (.ref r) s') : wpAny (model prog w) A (call (.type "range") [.int (n : Nat) t]) Q E s :=
  call_range_1 (h _ _ _ _ _ (Kb.push _ _ _) (fresh_size _) (IsRange.new _ _ _ _ _ _ _))

theorem listMade {elts : List Expr} {pos : Pos}
    (h : wpAny (model prog w) A (spliced (backTo pos (starEach elts env))) (fun vs s₁ => vs.length ≤ sizeLine ∧ ∀ l s', Kb [] s₁ s' → s₁.heap.get? l = none → s'.heap.PlainList l vs.toArray → Q (.ref l) s') E s) : wpAny (model prog w) A (eval (.List elts pos) env) Q E s :=
  wpAny_List (wpAny_mono h (fun vs s₁ h₁ => ⟨h₁.1, h₁.2 _ _ (Kb.push _ _ _) (fresh_size _) ⟨0, Heap.get?_push_size _ rfl⟩⟩) fun _ _ e => e)
theorem tupleMade {elts : List Expr} {k : Nat} {pos : Pos}
    (h : wpAny (model prog w) A (spliced (backTo pos (starEach elts env))) (fun vs s₁ => vs.length ≤ sizeLine ∧ ∀ l s', Kb [] s₁ s' → s₁.heap.get? l = none → s'.heap.get? l = some { cls := .type "tuple", data := .seq vs.toArray } → Q (.ref l) s') E s) : wpAny (model prog w) A (eval (.Tuple elts k pos) env) Q E s :=
  wpAny_Tuple (wpAny_mono h (fun vs s₁ h₁ => ⟨h₁.1, h₁.2 _ _ (Kb.push _ _ _) (fresh_size _) (Heap.get?_push_size _ rfl)⟩) fun _ _ e => e)
theorem addList {l b : Addr} {xs ys : Array Value} (hl : s.heap.PlainList l xs) (hb : s.heap.PlainList b ys) (hsz : xs.size + ys.size ≤ sizeLine)
    (h : ∀ r s', Kb [] s s' → s.heap.get? r = none → s'.heap.PlainList r (xs ++ ys) → Q (.ref r) s') : wpAny (model prog w) A (binaryOp .Add (.ref l) (.ref b)) Q E s := by
  obtain ⟨n, hl⟩ := hl; obtain ⟨k, hb⟩ := hb
  exact P.add_list (n := n) (n2 := k) hl hb (h _ _ (Kb.push _ _ _) (fresh_size _) ⟨0, Heap.get?_push_size _ rfl⟩) hsz
end

theorem plK {s s' : Shared} {W : List Addr} {l : Addr} {xs : Array Value} (x : s.heap.PlainList l xs) (k : Kb W s s') (hl : l ∉ W) : s'.heap.PlainList l xs := by
  obtain ⟨n, e⟩ := x; exact ⟨n, k.get hl e⟩
theorem plK0 {s s' : Shared} {l : Addr} {xs : Array Value} (x : s.heap.PlainList l xs) (k : Kb [] s s') : s'.heap.PlainList l xs := plK x k (by simp)
theorem plC {s s' : Shared} {W : List Addr} {l : Addr} {xs : Array Value} (x : s.heap.PlainList l xs) (k : Ch W s s') (hl : l ∉ W) : s'.heap.PlainList l xs := by
  obtain ⟨n, e⟩ := x; exact ⟨n, k.get hl e rfl⟩
end Mine

-- part C1
namespace Mine
open PySem PySem.W PyProof.Rows
open Sem (wp)

theorem call_fn {p prog : Program} {w : World} {hB : Heap} {A : Around} {R : Result → Shared → Prop} {s : Shared} {n : Nat} (B : Bd p w hB) (X : Ext hB s.heap) (r : Rm A n) (a : Addr) (vals : List Value) (binds : List (Str × Value)) (body : List Stmt)
    (h : ∀ s₁, Act [] (callEnvC (fdC a) s.heap.objs.size a) s s₁ (bindAll (fun _ => none) binds) →
      wpAny (model prog w) (A.deeper (callEnvC (fdC a) s.heap.objs.size a)) (execs body (callEnvC (fdC a) s.heap.objs.size a)) (fun f s' => R (.ok (.ret (match f with | .ret v => v | _ => .none))) s') (fun _ _ => False) s₁)
    (hf : (match (KF w.params).lookup a with | some ⟨_, _, .func _, _⟩ => true | _ => false) = true := by rfl)
    (hsame : fdOf w.params a = fdC a := by rfl)
    (hcode : codeIn (KH w) (fdC a).code (fdC a).qualname = true := by rfl) (hbody : (fdC a).body = .stmts body := by rfl)
    (hbind : bindArgs (fdC a) ⟨vals, []⟩ = pure binds := by rfl) (hclo : (fdC a).closure = [] := by rfl) (hb : ∀ x ∈ binds, isV ((fdC a).scope.names.lookup x.1) = true := by simp only [List.mem_cons, List.not_mem_nil, or_false, forall_eq_or_imp, forall_eq]; refine ⟨?_, ?_⟩ <;> rfl)
    (hco : (fdC a).scope.isCoroutine = false := by rfl) (hgen : (fdC a).scope.isGenerator = false := by rfl) (hk : (fdC a).scope.kind = .function := by rfl) :
    codeAny (model prog w) A (.call (.ref a) ⟨vals, []⟩) R s := by
  obtain ⟨o, ho, hd⟩ := fd_at hf
  rw [hsame] at hd
  exact call_def r.room (B.at_ X ho) hd (B.nolimit X) (codeRec_of (fun a o e => B.at_ X e) hcode) hbody (fun Q E q => by rw [hbind]; exact wpAny_pure q) hclo hb h hco hgen hk

def Strs (vs : List Value) (xs : List (List Nat)) : Prop := Paired (fun v x => ∃ t, v = .str (mk x) t) vs xs
def heads (x : List Nat) : List (List Nat) := ((List.range x.length).filter (fun k => x[k]? == some 46)).map (x.take ·) ++ [x]


theorem c_loc {M : Model} {A : Around} {E : Value → Shared → Prop} {s : Shared} {env : Env} {scope : Scope} {cl : List (Str × Addr)} {C : Addr} {m : Str → Option Value} {x : Str} {pos : Pos} {v : Value} {Q : Value → Shared → Prop} (hn : s.heap.Ns C m) (hm : m x = some v) (h : Q v s)
    (hk : scope.kind = .function := by rfl) (hl : (compEnvC scope cl C env).kindOf x = some .local := by rfl) (hd : (x == ("__debug__" : Str)) = false := by decide +kernel) : wpAny M A (eval (.Name x pos) (compEnvC scope cl C env)) Q E s :=
  wpAny_Name (wpAny_loadName_local (env := compEnvC scope cl C env) hk hl hn hm h) hd
theorem Act.c_cell {M : Model} {A : Around} {E : Value → Shared → Prop} {s₀ s s' : Shared} {W₀ W : List Addr} {env : Env} {scope : Scope} {cl : List (Str × Addr)} {C : Addr} {m : Str → Option Value} {x : Str} {pos : Pos} {v : Value} {Q : Value → Shared → Prop}
    (a : Act W₀ env s₀ s m) (k : Kb W s s') (hW : ∀ b ∈ W, ∃ o, s.heap.get? b = some o ∧ isVar o = false) (hm : m x = some v) (h : Q v s') (hx : env.kindOf x = some .cell := by rfl)
    (hk : scope.kind = .function := by rfl) (hl : (compEnvC scope cl C env).kindOf x = some .cell := by rfl) (hc : cl.lookup x = env.cells.lookup x := by rfl) (hd : (x == ("__debug__" : Str)) = false := by decide +kernel) : wpAny M A (eval (.Name x pos) (compEnvC scope cl C env)) Q E s' := by
  obtain ⟨c, hcl, hcell⟩ := a.cell x hx
  refine wpAny_Name (wpAny_loadName_cell (env := compEnvC scope cl C env) hk hl (hc.trans hcl) ?_ h) hd
  obtain ⟨o, ho, hd'⟩ := hcell
  refine ⟨o, k.get (fun q => ?_) ho, by rw [hd', hm]⟩
  obtain ⟨o', ho', hv⟩ := hW c q
  rw [ho] at ho'; cases ho'; simp [isVar, hd'] at hv
theorem Act.c_cell0 {M : Model} {A : Around} {E : Value → Shared → Prop} {s₀ s s' : Shared} {W₀ : List Addr} {env : Env} {scope : Scope} {cl : List (Str × Addr)} {C : Addr} {m : Str → Option Value} {x : Str} {pos : Pos} {v : Value} {Q : Value → Shared → Prop}
    (a : Act W₀ env s₀ s m) (k : Kb [] s s') (hm : m x = some v) (h : Q v s') (hx : env.kindOf x = some .cell := by rfl)
    (hk : scope.kind = .function := by rfl) (hl : (compEnvC scope cl C env).kindOf x = some .cell := by rfl) (hc : cl.lookup x = env.cells.lookup x := by rfl) (hd : (x == ("__debug__" : Str)) = false := by decide +kernel) : wpAny M A (eval (.Name x pos) (compEnvC scope cl C env)) Q E s' :=
  a.c_cell k (by simp) hm h hx hk hl hc hd

theorem arrApp (ys : Array Value) (l : List Value) : (ys.toList ++ l).toArray = ys ++ l.toArray := by apply Array.ext'; simp
theorem pFlip {α β γ : Type} {F : α → β → Prop} {G : β → γ → Prop} (f : α → γ) (h : ∀ a b, F a b → G b (f a)) : ∀ {l : List α} {r : List β}, Paired F l r → Paired G r (l.map f)
  | _, _, .nil => .nil
  | _, _, .cons x xs => .cons (h _ _ x) (pFlip f h xs)
theorem pApp {α β : Type} {F : α → β → Prop} : ∀ {l l' : List α} {r r' : List β}, Paired F l r → Paired F l' r' → Paired F (l ++ l') (r ++ r')
  | _, _, _, _, .nil, y => y
  | _, _, _, _, .cons x xs, y => .cons x (pApp xs y)
theorem Kb.nope {W : List Addr} {s s' : Shared} {b : Addr} (k : Kb W s s') (hb : b ∉ W) (e : s'.heap.get? b = Option.none) : s.heap.get? b = Option.none := by
  cases q : s.heap.get? b with
  | none => rfl
  | some o => rw [k.get hb q] at e; cases e
theorem Kb.nope0 {s s' : Shared} {b : Addr} (k : Kb [] s s') (e : s'.heap.get? b = none) : s.heap.get? b = none := k.nope (by simp) e
theorem execs_ret {M : Model} {A : Around} {E : Value → Shared → Prop} {s : Shared} {env : Env} {e : Expr} {pos : Pos} {rest : List Stmt} {Q : Flow → Shared → Prop} (h : wpAny M A (eval e env) (fun v => Q (.ret v)) E s) : wpAny M A (execs (.Return (some e) pos :: rest) env) Q E s :=
  wpAny_execs_cons (wpAny_Return_some h)

theorem call_heads {p prog : Program} {w : World} {hB : Heap} {A : Around} {R : Result → Shared → Prop} {s : Shared} (B : Bd p w hB) (X : Ext hB s.heap) (r : Rm A 2) {x : List Nat} {t : Tok} (hsz : x.length ≤ 1000)
    (h : ∀ l s' vs, Kb [] s s' → s.heap.get? l = none → s'.heap.PlainList l vs.toArray → Strs vs (heads x) → R (.ok (.ret (.ref l))) s') :
    codeAny (model prog w) A (.call (.ref 155) ⟨[.str (mk x) t], []⟩) R s := by
  have h24 : sizeLine = 16777216 := rfl
  refine call_fn B X r 155 _ [(Str.ofString "name", .str (mk x) t)] (bodyC 155) (fun s₁ a => ?_) (hb := by intro x hx; simp only [List.mem_cons, List.not_mem_nil, or_false] at hx; subst hx; rfl)
  have X₁ : Ext hB s₁.heap := X.trans a.base.ext
  refine execs_ret ?_
  refine wpAny_BinOp ?_
  refine comp_eval ?_
  refine Call_val (B.built X₁ (v := .type "range") (by rfl) (by rfl) (by decide +kernel) ⟨fun a => by simp, ?_⟩)
  refine wpAny_items_cons ?_
  refine Call_val (B.built X₁ (v := .builtin "len") (by rfl) (by rfl) (by decide +kernel) ⟨fun a => by simp, ?_⟩)
  refine wpAny_items_cons (a.name (by rfl) (by rfl) ?_)
  refine wpAny_items_nil (lenStr (by omega) fun t₂ s₂ k₂ => ?_)
  refine wpAny_items_nil (rangeCall fun rg t₃ u₃ v₃ s₃ k₃ hrn hr => ?_)
  have k₁₃ := k₂.trans k₃
  refine comp_run (W := []) (as := List.range x.length) (Rep := fun k v => ∃ t, v = .int (k : Nat) t) (fun _ _ => True) (fun _ k y => ∃ t, y = .str (mk (x.take k)) t) (fun k => x[k]? == some 46)
    (src_range r.h hr (by omega)) (by simp; omega) trivial (by simp) (fun _ _ _ _ _ => trivial) (fun _ _ _ _ e _ => e) (fun C i k v s₄ m₄ hk hrep _ hn hm k₄ => ?_) (fun D s' ys hD hpl hP _ k' => ?_)
  · obtain ⟨t₅, rfl⟩ := hrep
    have hkl : k < x.length := by
      have := List.getElem?_eq_some_iff.mp hk
      obtain ⟨h1, h2⟩ := this
      simp at h1 h2; omega
    refine wpAny_tests_one (wpAny_isTrue_Compare1 ?_)
    refine Subscript_str (a.c_cell0 (k₁₃.trans k₄) (by rfl) ?_)
    refine c_loc hn hm ⟨⟨_, _, rfl⟩, itemStr (c := x[k]) (by omega) (by simp [hkl]) fun t₆ s₆ k₆ => ?_⟩
    refine cStr fun t₇ s₇ k₇ => ?_
    rw [show Str.ofString "." = mk [46] from by decide +kernel]
    refine eqStr (wpAny_truthy_bool ⟨?_, ?_⟩)
    · simp [hkl]
    · have k₄₇ := k₆.trans k₇
      split
      · refine Slice_str (a.c_cell0 (k₁₃.trans (k₄.trans k₄₇)) (by rfl) ?_)
        refine wpAny_evalPart_none (wpAny_evalPart_some (c_loc (hn.keeps fun b o e => k₄₇.get0 e) hm ?_))
        refine ⟨x, t, none, some (k, t₅), rfl, rfl, rfl, by omega, fun t₈ s₈ k₈ => ⟨⟨t₈, ?_⟩, trivial, k₄₇.trans k₈⟩⟩
        have e1 : cut x none (some (k : Int)) = x.take k := by
          simp [cut, clipAt_nat, Nat.min_eq_left (Nat.le_of_lt hkl)]
        exact congrArg (fun z => Value.str (mk z) t₈) e1
      · exact ⟨trivial, k₄₇⟩
  · refine listMade (wpAny_items_cons ((a.kp (k₁₃.trans k')).name (by rfl) (by rfl) (wpAny_items_nil ⟨by simp [h24], fun l s₉ k₉ hl hpl' => ?_⟩)))
    refine addList (plK0 hpl k₉) hpl' ?_ fun l' s₁₀ k₁₀ hl' hpl₂ => ?_
    · have e1 := hP.length
      have e2 := List.length_filter_le (fun k => x[k]? == some 46) (List.range x.length)
      have e4 : ys.toList.length = ys.size := by simp
      simp at e2 ⊢; omega
    · have kk := a.base.trans (k₁₃.trans (k'.trans (k₉.trans k₁₀)))
      have e := arrApp ys [Value.str (mk x) t]
      refine h l' s₁₀ (ys.toList ++ [.str (mk x) t]) kk ((a.base.trans (k₁₃.trans (k'.trans k₉))).nope0 hl') (e ▸ hpl₂) ?_
      exact pApp (pFlip (x.take ·) (fun _ _ e => e) hP) (.cons ⟨t, rfl⟩ .nil)
end Mine

-- part C2
namespace Mine
open PySem PySem.W PyProof.Rows
open Sem (wp)
open PySem.SeqAt

abbrev Item := Option (Bool × List Nat)
def IsIt (h : Heap) (it : Item) (v : Value) : Prop := match it with
  | none => v = .none
  | some (b, cs) => ∃ a t, v = .ref a ∧ h.get? a = some { cls := .type "tuple", data := .seq #[.bool b, .str (mk cs) t] }
theorem IsIt.im {h h' : Heap} {it : Item} {v : Value} (x : IsIt h it v) (k : Im h h') : IsIt h' it v := by
  cases it with
  | none => exact x
  | some p => obtain ⟨a, t, rfl, e⟩ := x; exact ⟨a, t, rfl, k _ _ e rfl⟩
theorem IsIt.ch {s s' : Shared} {it : Item} {v : Value} {W : List Addr} (x : IsIt s.heap it v) (k : Ch W s s') (hW : ∀ b ∈ W, s.heap.get? b = none) : IsIt s'.heap it v := by
  cases it with
  | none => exact x
  | some p => obtain ⟨a, t, rfl, e⟩ := x; exact ⟨a, t, rfl, k.get (fun q => by rw [hW _ q] at e; cases e) e rfl⟩

def Nats (vs : List Value) (ns : List Nat) : Prop := Paired (fun v n => ∃ t, v = .int (n : Nat) t) vs ns
def geFirst : List Nat → Nat → Bool
  | [], _ => false
  | q :: _, p => decide (q ≤ p)
def okP (x cs : List Nat) (b : Bool) (p : Nat) : Bool := match x[p]? with | none => false | some c => (decide (c ∈ cs) != b)
def stepP (x : List Nat) (ps : List Nat) : Item → List Nat
  | none => (List.range (x.length + 1)).filter (geFirst ps)
  | some (b, cs) => (ps.filter (okP x cs b)).map (· + 1)
def takes (row : List Item) (x : List Nat) : Bool := (row.foldl (stepP x) [0]).any (· == x.length)

theorem Paired.get {α β : Type} {R : α → β → Prop} {vs : List α} {ns : List β} (h : Paired R vs ns) : ∀ (i : Nat) (a : α), vs[i]? = some a → ∃ n, ns[i]? = some n ∧ R a n := by
  induction h with
  | nil => intro i a e; simp at e
  | cons hr _ ih =>
    intro i a e
    cases i with
    | zero => simp at e; subst e; exact ⟨_, by simp, hr⟩
    | succ i => simpa using ih i a (by simpa using e)
theorem intsAre {vs : List Value} {ns : List Nat} (h : Nats vs ns) : IntsAre vs (ns.map (fun (n : Nat) => (n : Int))) := by
  induction h with
  | nil => exact .nil
  | cons hr _ ih => obtain ⟨t, rfl⟩ := hr; exact .cons _ _ ih

theorem Rd.lt {α β : Type} {R : α → β → Prop} {vs : List α} {ns : List β} (h : Paired R vs ns) : vs.length = ns.length := h.length

section
variable {p prog : Program} {w : World} {hB : Heap} {A : Around} {s : Shared} {R : Result → Shared → Prop}

theorem stepP_le (x : List Nat) : ∀ (ps : List Nat) (it : Item), ps.length ≤ x.length + 1 → (∀ p ∈ ps, p ≤ x.length) → (stepP x ps it).length ≤ x.length + 1 ∧ ∀ p ∈ stepP x ps it, p ≤ x.length
  | ps, none, h, h' => ⟨by unfold stepP; refine Nat.le_trans (List.length_filter_le _ _) ?_; simp, by intro p hp; unfold stepP at hp; have := (List.mem_filter.mp hp).1; simp at this; omega⟩
  | ps, some (b, cs), h, h' => by
    refine ⟨by unfold stepP; rw [List.length_map]; exact Nat.le_trans (List.length_filter_le _ _) h, ?_⟩
    intro p hp
    unfold stepP at hp
    obtain ⟨q, hq, rfl⟩ := List.mem_map.mp hp
    have h2 := (List.mem_filter.mp hq).2
    cases hx : x[q]? with
    | none => simp [okP, hx] at h2
    | some c => have := (List.getElem?_eq_some_iff.mp hx).1; omega

theorem anyNat : ∀ (l : List Nat) (k : Nat), (l.map (fun (n : Nat) => (n : Int))).any (· == (k : Int)) = l.any (· == k)
  | [], _ => rfl
  | n :: l, k => by
    rw [List.map_cons, List.any_cons, List.any_cons, anyNat l k]
    congr 1
    rw [Bool.eq_iff_iff, beq_iff_eq, beq_iff_eq]; omega
theorem foldP_le (x : List Nat) : ∀ (its : List Item) (ps : List Nat), ps.length ≤ x.length + 1 → (∀ p ∈ ps, p ≤ x.length) → (its.foldl (stepP x) ps).length ≤ x.length + 1 ∧ ∀ p ∈ its.foldl (stepP x) ps, p ≤ x.length
  | [], ps, h, h' => ⟨h, h'⟩
  | it :: its, ps, h, h' => by
    obtain ⟨h1, h2⟩ := stepP_le x ps it h h'
    exact foldP_le x its _ h1 h2
theorem call_takes (B : Bd p w hB) (X : Ext hB s.heap) (r : Rm A 2) {x : List Nat} {t : Tok} {row : Addr} {items : Array Value} {its : List Item} (hsz : x.length ≤ 1000) (hrow : s.heap.PlainList row items) (hits : Paired (fun v it => IsIt s.heap it v) items.toList its) (hn : its.length ≤ 1000)
    (h : ∀ s', Kb [] s s' → R (.ok (.ret (.bool (takes its x)))) s') :
    codeAny (model prog w) A (.call (.ref 150) ⟨[.ref row, .str (mk x) t], []⟩) R s := by
  have h24 : sizeLine = 16777216 := rfl
  refine call_fn B X r 150 _ [(Str.ofString "row", .ref row), (Str.ofString "name", .str (mk x) t)] (bodyC 150) (fun s₁ a => ?_) (hb := by intro x hx; simp only [List.mem_cons, List.not_mem_nil, or_false] at hx; rcases hx with rfl | rfl <;> rfl)
  have X₁ : Ext hB s₁.heap := X.trans a.base.ext
  refine wpAny_execs_cons (wpAny_Assign_Name ?_)
  refine listMade (wpAny_items_cons (cInt fun t₂ s₂ k₂ => wpAny_items_nil ⟨by simp [h24], fun l s₃ k₃ hl hpl => ?_⟩))
  refine (a.kp (k₂.trans k₃)).store (by rfl) fun s₄ a₄ c₄ => ?_
  refine wpAny_execs_cons (wpAny_For ?_)
  refine a₄.name (by rfl) (upd_ne (str_ne (by decide)) (by rfl)) ?_
  have c₁₄ : Ch [] s s₄ := a.base.ch.trans ((k₂.trans k₃).ch.trans c₄)
  have hrow₄ : s₄.heap.PlainList row items := plC hrow c₁₄ (by simp)
  refine for_go (W := []) (as := its) (Rep := fun it v => ∃ a, IsIt s.heap it a ∧ v = a)
    (fun I i m s' => Ch [I] s₄ s' ∧ m (Str.ofString "name") = some (.str (mk x) t) ∧ ∃ l vs, m (Str.ofString "places") = some (.ref l) ∧ s'.heap.PlainList l vs.toArray ∧ Nats vs ((its.take i).foldl (stepP x) [0]) ∧ l ≠ I)
    (src_pair (src_list (by exact r.h) hrow₄.isList (by simp)) hits) (by rfl) a₄ ?_ ?_ ?_ (by simp) ?_
  · intro I s' hI k
    refine ⟨k.ch.any, by rfl, l, [.int 0 t₂], by rfl, plK0 (plC hpl c₄ (by simp)) k, .cons ⟨t₂, rfl⟩ .nil, ?_⟩
    rintro rfl
    obtain ⟨n, e⟩ := plC hpl c₄ (by simp)
    rw [hI] at e; cases e
  · rintro I i m s' s'' ⟨c, hm, l, vs, hl, hpl, hv, hne⟩ c'
    exact ⟨c.trans c', hm, l, vs, hl, plC hpl c' (by simpa using hne), hv, hne⟩
  · rintro I i it v m s' hI hI' hit ⟨v', hv', rfl⟩ ⟨c, hm, l, vs, hl, hpl, hv, hne⟩ a'
    have X' : Ext hB s'.heap := X.trans a'.base.ext
    have hps := foldP_le x (its.take i) [0] (by simp) (by simp)
    generalize hpse : (its.take i).foldl (stepP x) [0] = ps at hv hps
    have hnext : (its.take (i + 1)).foldl (stepP x) [0] = stepP x ps it := by
      rw [List.take_add_one, hit]; simp [List.foldl_append, hpse]
    have hlen : vs.length = ps.length := hv.length
    have hvs : vs.length ≤ 1001 := by omega
    refine wpAny_execs_cons (wpAny_If (wpAny_isTrue_Compare1 (a'.name (by rfl) upd_eq (cNone (is_none (wpAny_truthy_bool ?_))))))
    cases it with
    | none =>
      have hvn : v = .none := hv'
      subst hvn
      rw [if_pos (by rfl)]
      refine wpAny_execs_cons (wpAny_Assign_Name ?_)
      refine comp_eval ?_
      refine Call_val (B.built X' (v := .type "range") (by rfl) (by rfl) (by decide +kernel) ⟨fun a => by simp, ?_⟩)
      refine wpAny_items_cons (wpAny_BinOp ?_)
      refine Call_val (B.built X' (v := .builtin "len") (by rfl) (by rfl) (by decide +kernel) ⟨fun a => by simp, ?_⟩)
      refine wpAny_items_cons (a'.name (by rfl) (upd_ne (str_ne (by decide)) hm) ?_)
      refine wpAny_items_nil (lenStr (by omega) fun t₅ s₅ k₅ => ?_)
      refine cInt fun t₆ s₆ k₆ => ?_
      refine addInt fun t₇ s₇ k₇ => ?_
      refine wpAny_items_nil (rangeCall (n := x.length + 1) fun rg t₈ u₈ v₈ s₈ k₈ hrn hr => ?_)
      have k' := k₅.trans (k₆.trans (k₇.trans k₈))
      refine comp_run (W := []) (as := List.range (x.length + 1)) (Rep := fun k v => ∃ t, v = .int (k : Nat) t) (fun _ _ => True) (fun _ k y => ∃ t, y = .int (k : Nat) t) (geFirst ps)
        (src_range (by exact r.h) hr (by omega)) (by simp; omega) trivial (by simp) (fun _ _ _ _ _ => trivial) (fun _ _ _ _ e _ => e) (fun C j k v s₉ m₉ hk hrep _ hn hm₉ k₉ => ?_) (fun D s₉ ys hD hpl₉ hP _ k₉ => ?_)
      · obtain ⟨t₉, rfl⟩ := hrep
        refine wpAny_tests_one (wpAny_isTrue_BoolOp (wpAny_allTrue_And_cons (wpAny_isTrue_Compare1 ?_)))
        have kk := k'.trans k₉
        refine a'.c_cell0 kk (upd_ne (str_ne (by decide)) hl) ?_
        refine listMade (wpAny_items_nil ⟨by simp, fun e s₁₀ k₁₀ he hpe => ?_⟩)
        have hplA : s₁₀.heap.PlainList l vs.toArray := plK0 hpl (kk.trans k₁₀)
        cases hps' : ps with
        | nil =>
          subst hps'
          have : vs = [] := List.length_eq_zero_iff.mp (by simpa using hlen)
          subst this
          refine RcNeAt.lists (e := fun _ => true) hplA.isList hpe.isList rfl (by exact (r.less (by omega : 1 ≤ 2)).units |> fun _ => by have := r.u; show A.units + 3 < _; omega) (fun j h1 => by simp at h1) prog w _ _ (wpAny_truthy_bool ?_)
          simp only [List.size_toArray, List.length_nil, List.range_zero, List.all_nil, Bool.not_true, Bool.false_eq_true, if_false]
          exact ⟨rfl, by simp only [geFirst, Bool.false_eq_true, if_false]; exact ⟨trivial, k₁₀⟩⟩
        | cons q rest =>
          subst hps'
          cases hv with
          | cons hr0 hv' =>
            rename_i v0 vs'
            obtain ⟨tq, rfl⟩ := hr0
            refine RcNeAt.lists_lengths hplA.isList hpe.isList (by simp) (by have := r.u; show A.units + 3 < _; omega) prog w _ _ (wpAny_truthy_bool ?_)
            simp only [if_true]
            refine wpAny_allTrue_And_cons (wpAny_isTrue_Compare1 ?_)
            refine c_loc (hn.keeps fun b o e => k₁₀.get0 e) hm₉ ?_
            refine Subscript_ (a'.c_cell0 (kk.trans k₁₀) (upd_ne (str_ne (by decide)) hl) (cInt fun t₁₁ s₁₁ k₁₁ => ?_))
            refine item_list (plK0 hplA k₁₁).isList (by decide) (by decide) (x := .int (q : Nat) tq) (by simp) ?_
            refine P.ge_int (wpAny_truthy_bool ?_)
            by_cases hqk : q ≤ k
            · have hd : decide ((k : Int) ≥ (q : Int)) = true := by simpa using hqk
              rw [hd]
              simp only [if_true]
              refine wpAny_allTrue_And_nil ⟨by simp [geFirst, hqk], ?_⟩
              simp only [geFirst, hqk, decide_true, if_true]
              refine c_loc (hn.keeps fun b o e => (k₁₀.trans k₁₁).get0 e) hm₉ ⟨⟨_, rfl⟩, trivial, k₁₀.trans k₁₁⟩
            · have hd : decide ((k : Int) ≥ (q : Int)) = false := by simpa using hqk
              rw [hd]
              simp only [Bool.false_eq_true, if_false]
              refine ⟨by simp [geFirst, hqk], ?_⟩
              simp only [geFirst, hqk, decide_false, Bool.false_eq_true, if_false]
              exact ⟨trivial, k₁₀.trans k₁₁⟩
      · refine (a'.kp (k'.trans k₉)).store (by rfl) fun s₁₀ a₁₀ c₁₀ => wpAny_execs_nil (wpAny_execs_nil ⟨_, a₁₀, ⟨c.trans ((k'.trans k₉).ch.trans c₁₀).any, upd_ne (str_ne (by decide)) (upd_ne (str_ne (by decide)) hm), D, ys.toList, upd_eq, plC (by simpa using hpl₉) c₁₀ (by simp), ?_, ?_⟩, (k'.trans k₉).ch.trans c₁₀⟩)
        · rw [hnext]
          have := pFlip (fun n => n) (fun _ _ e => e) hP
          rw [List.map_id''] at this
          · exact this
          · intro _; rfl
        · rintro rfl
          obtain ⟨o, ho, _⟩ := hI'
          rw [k'.get0 ho] at hD; cases hD
    | some bc =>
      obtain ⟨bp, cs⟩ := bc
      obtain ⟨b, tb, rfl, hb⟩ := hv'
      have hb₄ := c₁₄.get0 hb rfl
      have hbn : b ∉ [I] := by
        rw [List.mem_singleton]; rintro rfl; rw [hI] at hb₄; cases hb₄
      have hb' := c.get hbn hb₄ rfl
      have tup : ∀ {s₉ : Shared}, Kb [] s' s₉ → IsTup s₉.heap b #[.bool bp, .str (mk cs) tb] := fun k => ⟨_, k.get0 hb', rfl, _, rfl⟩
      rw [if_neg (by simp)]
      refine wpAny_execs_cons (wpAny_Assign_Name ?_)
      refine comp_eval (a'.name (by rfl) (upd_ne (str_ne (by decide)) hl) ?_)
      refine comp_run (W := []) (as := ps) (fun _ _ => True) (fun _ k y => ∃ t, y = .int ((k + 1 : Nat) : Int) t) (okP x cs bp)
        (src_pair (src_list (by exact r.h) hpl.isList (by simp)) (by exact hv)) (by omega) trivial (by simp) (fun _ _ _ _ _ => trivial) (fun _ _ _ _ e _ => e) (fun C j k v s₉ m₉ hk hrep _ hn' hm₉ k₉ => ?_) (fun D s₉ ys hD hpl₉ hP _ k₉ => ?_)
      · obtain ⟨_, ⟨t₉, rfl⟩, rfl⟩ := hrep
        refine wpAny_tests_one (wpAny_isTrue_BoolOp (wpAny_allTrue_And_cons (wpAny_isTrue_Compare1 ?_)))
        refine c_loc hn' hm₉ ?_
        have X₉ : Ext hB s₉.heap := X'.trans k₉.ext
        refine Call_val (B.built X₉ (v := .builtin "len") (by rfl) (by rfl) (by decide +kernel) ⟨fun a => by simp, ?_⟩)
        refine wpAny_items_cons (a'.c_cell0 k₉ (upd_ne (str_ne (by decide)) hm) (wpAny_items_nil (lenStr (by omega) fun t₁₀ s₁₀ k₁₀ => ?_)))
        refine P.lt_int (wpAny_truthy_bool ?_)
        by_cases hkl : k < x.length
        · have hd : decide ((k : Int) < (x.length : Int)) = true := by simpa using hkl
          rw [hd]
          simp only [if_true]
          refine wpAny_allTrue_And_cons (wpAny_isTrue_Compare1 (wpAny_Compare1 ?_))
          have kk := k₉.trans k₁₀
          refine Subscript_str (a'.c_cell0 kk (upd_ne (str_ne (by decide)) hm) ?_)
          refine c_loc (hn'.keeps fun b o e => k₁₀.get0 e) hm₉ ⟨⟨_, _, rfl⟩, itemStr (c := x[k]) (by omega) (by simp [hkl]) fun t₁₁ s₁₁ k₁₁ => ?_⟩
          refine Subscript_ (a'.c_cell0 (kk.trans k₁₁) upd_eq (cInt fun t₁₂ s₁₂ k₁₂ => ?_))
          refine item_tuple (tup (kk.trans (k₁₁.trans k₁₂))) (by decide) (by decide) (j := 1) (by rfl) (by rfl) ?_
          refine P.in_str ?_
          rw [show mk [x[k]] = ⟨#[x[k]]⟩ from rfl, StrLaws.found_one, mk_toList]
          refine Subscript_ (a'.c_cell0 (kk.trans (k₁₁.trans k₁₂)) upd_eq (cInt fun t₁₃ s₁₃ k₁₃ => ?_))
          refine item_tuple (tup (kk.trans (k₁₁.trans (k₁₂.trans k₁₃)))) (by decide) (by decide) (j := 0) (by rfl) (by rfl) ?_
          have kz := k₁₀.trans (k₁₁.trans (k₁₂.trans k₁₃))
          refine RcNeAt.bool_bool _ _ prog w _ _ (wpAny_truthy_bool ?_)
          have hok : okP x cs bp k = !(decide (x[k] ∈ cs) == bp) := by
            unfold okP; rw [List.getElem?_eq_getElem hkl]; rfl
          rw [← hok]
          cases hokk : okP x cs bp k with
          | true =>
            simp only [if_true]
            refine wpAny_allTrue_And_nil ⟨rfl, ?_⟩
            refine wpAny_BinOp (c_loc (hn'.keeps fun b o e => kz.get0 e) hm₉ (cInt fun t₁₄ s₁₄ k₁₄ => addInt fun t₁₅ s₁₅ k₁₅ => ⟨⟨t₁₅, by push_cast; rfl⟩, trivial, kz.trans (k₁₄.trans k₁₅)⟩))
          | false =>
            simp only [Bool.false_eq_true, if_false]
            exact ⟨trivial, trivial, kz⟩
        · have hd : decide ((k : Int) < (x.length : Int)) = false := by simpa using hkl
          rw [hd]
          have hok : okP x cs bp k = false := by
            unfold okP; rw [List.getElem?_eq_none (by omega)]
          simp only [hok, Bool.false_eq_true, if_false]
          exact ⟨trivial, trivial, k₁₀⟩
      · refine (a'.kp k₉).store (by rfl) fun s₁₀ a₁₀ c₁₀ => wpAny_execs_nil (wpAny_execs_nil ⟨_, a₁₀, ⟨c.trans (k₉.ch.trans c₁₀).any, upd_ne (str_ne (by decide)) (upd_ne (str_ne (by decide)) hm), D, ys.toList, upd_eq, plC (by simpa using hpl₉) c₁₀ (by simp), ?_, ?_⟩, k₉.ch.trans c₁₀⟩)
        · rw [hnext]
          exact pFlip (fun n => n + 1) (fun _ _ e => e) hP
        · rintro rfl
          obtain ⟨o, ho, _⟩ := hI'
          rw [ho] at hD; cases hD
  · rintro I m s' hI ⟨c, hm, l, vs, hl, hpl, hv, hne⟩ a'
    have X' : Ext hB s'.heap := X.trans a'.base.ext
    refine execs_ret ?_
    refine wpAny_Compare1 ?_
    refine Call_val (B.built X' (v := .builtin "len") (by rfl) (by rfl) (by decide +kernel) ⟨fun a => by simp, ?_⟩)
    refine wpAny_items_cons (a'.name (by rfl) hm (wpAny_items_nil (lenStr (by omega) fun t₅ s₅ k₅ => ?_)))
    refine (a'.kp k₅).name (by rfl) hl ?_
    refine in_list_ints (plK0 hpl k₅).isList (intsAre hv) ?_
    have e : takes its x = (((its.take its.length).foldl (stepP x) [0]).map fun (n : Nat) => (n : Int)).any (· == (x.length : Int)) := by
      rw [List.take_length, anyNat]; rfl
    rw [← e]
    exact h s₅ (a'.base.trans k₅)
end
end Mine

-- part C3
namespace Mine
open PySem PySem.W PyProof.Rows
open Sem (wp)
open Builtin Builtin.Str

def alnum (l : List Nat) : Bool := Txt.isalnum (mk l)
def repl (l : List Nat) : List Nat := (Txt.replace (mk l) (mk [92]) (mk [])).cps.toList
def inStr (l c : List Nat) : Bool := !(occurrences (mk c) (mk l) 0 (mk c).length 1).isEmpty
def signs1 : List Nat := [36, 40, 41, 42, 43, 63, 94, 123, 124, 125]
def readS (p : List Nat) : Bool × List Nat :=
  if p == [46] then (true, []) else
  if p.head? == some 92 then (false, if alnum (cut p (some 1) none) then [] else cut p (some 1) none) else
  if cut p none (some 2) == [91, 94] then (true, cut p (some 2) (some (-1))) else
  if p.head? == some 91 then (false, repl (cut p (some 1) (some (-1)))) else
  (false, if inStr p signs1 then [] else p)
def readP : Option (List Nat) → Item
  | none => none
  | some p => some (readS p)

theorem repl_le (l : List Nat) : (repl l).length ≤ l.length := by
  unfold repl
  rw [show mk [92] = ⟨#[92]⟩ from rfl, show mk [] = ⟨#[]⟩ from rfl, replace_strikes, mk_toList]
  exact List.length_filter_le _ _
theorem cut_le (l : List Nat) (a b : Option Int) : (cut l a b).length ≤ l.length := by
  unfold cut; simp only [List.length_take, List.length_drop]; omega

section
variable {prog : Program} {w : World} {A : Around} {E : Value → Shared → Prop} {s : Shared} {env : Env} {Q : Value → Shared → Prop}
theorem cStrT {x : Str} {k : Nat} {pos : Pos} (h : ∀ s', Kb [] s s' → s'.toks = s.toks + 1 → Q (.str x s.toks) s') : wpAny (model prog w) A (eval (.Constant (.str x) k pos) env) Q E s := wpAny_Constant_str (h _ (toks _ _) rfl)
theorem retTup {k : Nat} {pos rp : Pos} {rest : List Stmt} {b : Bool} {e : Expr} {kk : Nat} {pp : Pos} {QF : Flow → Shared → Prop} {n : Nat} (hs : n ≤ s.toks)
    (h : wpAny (model prog w) A (eval e env) (fun v s₁ => ∀ a s', Kb [] s₁ s' → s₁.heap.get? a = none → s'.heap.get? a = some { cls := .type "tuple", data := .seq #[.bool b, v] } → QF (.ret (.ref a)) s') E s)
    (he : starEach [e] env = [(false, eval e env)] := by rfl) :
    wpAny (model prog w) A (execs (.Return (some (.Tuple [.Constant (.bool b) kk pp, e] k pos)) rp :: rest) env) QF E s := by
  refine execs_ret (tupleMade (wpAny_items_cons (cBool (wpAny_items_cons (wpAny_mono h (fun v s₁ h₁ => wpAny_items_nil ⟨by show 2 ≤ sizeLine; decide, fun l s' k hl ho => h₁ l s' k hl ho⟩) fun _ _ e => e) he))))
theorem negOne {k : Nat} {pos p2 : Pos} (h : ∀ t s', Kb [] s s' → Q (.int (-1) t) s') : wpAny (model prog w) A (evalPart (some (.UnaryOp .USub (.Constant (.int 1) k pos) p2)) env) Q E s :=
  wpAny_evalPart_some (wpAny_UnaryOp (cInt fun t s₁ k₁ => P.neg_int (h _ _ (k₁.trans (toks _ _)))))
end

theorem wT {M : Model} {A : Around} {α : Type} {s : Shared} {t : Sem α} {Q : α → Shared → Prop} (hn : 1 ≤ s.toks)
    (h : wpAny M A t (fun a s' => 1 ≤ s'.toks → Q a s') (fun _ _ => False) s) : wpAny M A t Q (fun _ _ => False) s :=
  wpAny_with_toks hn (wpAny_mono h (fun _ _ x => x) fun _ _ x => x.elim)

theorem call_read {p prog : Program} {w : World} {hB : Heap} {A : Around} {R : Result → Shared → Prop} {s : Shared} (B : Bd p w hB) (X : Ext hB s.heap) (r : Rm A 2) {part : Option (List Nat)} {v : Value} (hsz : ∀ x, part = some x → x ≠ [] ∧ x.length ≤ 1000) (hv : match part with | none => v = .none | some x => ∃ t, v = .str (mk x) t)
    (h : ∀ y s', Kb [] s s' → IsIt s'.heap (readP part) y → R (.ok (.ret y)) s') :
    codeAny (model prog w) A (.call (.ref 145) ⟨[v], []⟩) R s := by
  have h24 : sizeLine = 16777216 := rfl
  refine call_fn B X r 145 _ [(Str.ofString "part", v)] (bodyC 145) (fun s₁ a => ?_) (hb := by intro x hx; simp only [List.mem_cons, List.not_mem_nil, or_false] at hx; subst hx; rfl)
  refine wpAny_execs_cons (wpAny_If (wpAny_isTrue_Compare1 (a.name (by rfl) (by rfl) (cNone (is_none (wpAny_truthy_bool ?_))))))
  cases part with
  | none =>
    have hv' : v = .none := hv
    subst hv'
    rw [if_pos (by rfl)]
    exact execs_ret (cNone (h _ _ a.base rfl))
  | some x =>
    obtain ⟨t, rfl⟩ := hv
    obtain ⟨hne, hsz⟩ := hsz x rfl
    rw [if_neg (by simp)]
    obtain ⟨c0, x', rfl⟩ : ∃ c x', x = c :: x' := by cases x with | nil => exact absurd rfl hne | cons c r => exact ⟨c, r, rfl⟩
    refine wpAny_execs_nil ?_
    refine wpAny_execs_cons (wpAny_If (wpAny_isTrue_Compare1 (a.name (by rfl) (by rfl) (cStrT fun s₂ k₂ ht₂ => ?_))))
    have ht2 : 1 ≤ s₂.toks := by omega
    rw [show Str.ofString "." = mk [46] from by decide +kernel]
    refine eqStr (wpAny_truthy_bool ?_)
    have fin : ∀ (b : Bool) (cs : List Nat) (t' : Tok) a s', Kb [] s s' → s'.heap.get? a = some { cls := .type "tuple", data := .seq #[.bool b, .str (mk cs) t'] } → readS (c0 :: x') = (b, cs) → R (.ok (.ret (.ref a))) s' :=
      fun b cs t' a s' k ho e => h _ _ k (by show IsIt s'.heap (some (readS (c0 :: x'))) _; rw [e]; exact ⟨a, t', rfl, ho⟩)
    cases e1 : ((c0 :: x' : List Nat) == [46]) with
    | true =>
      simp only [if_true]
      refine retTup ht2 (cStr fun t₃ s₃ k₃ a' s₄ k₄ ha ho => ?_)
      rw [show Str.ofString "" = mk [] from by decide +kernel] at ho
      exact fin true [] t₃ a' s₄ (a.base.trans (k₂.trans (k₃.trans k₄))) ho (by simp only [readS, e1, if_true])
    | false =>
      simp only [Bool.false_eq_true, if_false]
      refine wpAny_execs_nil (wpAny_execs_cons (wpAny_If (wT ht2 (wpAny_isTrue_Compare1 ?_))))
      refine Subscript_str ((a.kp k₂).name (by rfl) (by rfl) (cInt fun t₃ s₃ k₃ => ⟨⟨_, _, rfl⟩, ?_⟩))
      refine itemStr (k := 0) (c := c0) (by omega) (by simp) fun t₄ s₄ k₄ => cStr fun t₅ s₅ k₅ => ?_
      rw [show Str.ofString "\\" = mk [92] from by decide +kernel]
      refine eqStr (wpAny_truthy_bool fun ht5 => ?_)
      have k₂₅ := k₂.trans (k₃.trans (k₄.trans k₅))
      cases e2 : (([c0] : List Nat) == [92]) with
      | true =>
        have e2' : ((c0 :: x').head? == some 92) = true := by simpa using e2
        simp only [if_true]
        refine retTup ht5 (wpAny_IfExp (wpAny_isTrue_value ?_))
        refine Call_method0 (by rfl) (by rfl) (Slice_str ((a.kp k₂₅).name (by rfl) (by rfl) (wpAny_evalPart_some (cInt fun t₆ s₆ k₆ => wpAny_evalPart_none ⟨c0 :: x', t, some (1, t₆), none, rfl, rfl, rfl, by omega, fun t₇ s₇ k₇ => ?_⟩))))
        refine SB.isalnum (wpAny_truthy_bool ?_)
        have k₂₇ := k₂₅.trans (k₆.trans k₇)
        have al : Txt.isalnum (mk (cut (c0 :: x') (Option.map (·.1) (some ((1 : Int), t₆))) (Option.map (·.1) (none : Option (Int × Tok))))) = alnum (cut (c0 :: x') (some 1) none) := rfl
        rw [al]
        cases e3 : alnum (cut (c0 :: x') (some 1) none) with
        | true =>
          simp only [if_true]
          refine cStr fun t₈ s₈ k₈ a' s₉ k₉ ha ho => ?_
          rw [show Str.ofString "" = mk [] from by decide +kernel] at ho
          exact fin false [] t₈ a' s₉ (a.base.trans (k₂₇.trans (k₈.trans k₉))) ho (by simp only [readS, e1, e2', e3, Bool.false_eq_true, if_false, if_true])
        | false =>
          simp only [Bool.false_eq_true, if_false]
          refine Slice_str ((a.kp k₂₇).name (by rfl) (by rfl) (wpAny_evalPart_some (cInt fun t₈ s₈ k₈ => wpAny_evalPart_none ⟨c0 :: x', t, some (1, t₈), none, rfl, rfl, rfl, by omega, fun t₉ s₉ k₉ a' s₁₀ k₁₀ ha ho => ?_⟩)))
          exact fin false (cut (c0 :: x') (some 1) none) t₉ a' s₁₀ (a.base.trans (k₂₇.trans (k₈.trans (k₉.trans k₁₀)))) ho (by simp only [readS, e1, e2', e3, Bool.false_eq_true, if_false, if_true])
      | false =>
        have e2' : ((c0 :: x').head? == some 92) = false := by simpa using e2
        simp only [Bool.false_eq_true, if_false]
        refine wpAny_execs_nil (wpAny_execs_cons (wpAny_If (wT ht5 (wpAny_isTrue_Compare1 ?_))))
        refine Slice_str ((a.kp k₂₅).name (by rfl) (by rfl) (wpAny_evalPart_none (wpAny_evalPart_some (cInt fun t₆ s₆ k₆ => ⟨c0 :: x', t, none, some (2, t₆), rfl, rfl, rfl, by omega, fun t₇ s₇ k₇ => ?_⟩))))
        refine cStr fun t₈ s₈ k₈ => ?_
        rw [show Str.ofString "[^" = mk [91, 94] from by decide +kernel]
        refine eqStr (wpAny_truthy_bool fun ht8 => ?_)
        have k₂₈ := k₂₅.trans (k₆.trans (k₇.trans k₈))
        have ec : (cut (c0 :: x') (Option.map (·.1) (none : Option (Int × Tok))) (Option.map (·.1) (some ((2 : Int), t₆)))) = cut (c0 :: x') none (some 2) := rfl
        rw [ec]
        cases e3 : (cut (c0 :: x') none (some 2) == [91, 94]) with
        | true =>
          simp only [if_true]
          refine retTup ht8 (Slice_str ((a.kp k₂₈).name (by rfl) (by rfl) (wpAny_evalPart_some (cInt fun t₉ s₉ k₉ => negOne fun t₁₀ s₁₀ k₁₀ => ⟨c0 :: x', t, some (2, t₉), some (-1, t₁₀), rfl, rfl, rfl, by omega, fun t₁₁ s₁₁ k₁₁ a' s₁₂ k₁₂ ha ho => ?_⟩))))
          exact fin true (cut (c0 :: x') (some 2) (some (-1))) t₁₁ a' s₁₂ (a.base.trans (k₂₈.trans (k₉.trans (k₁₀.trans (k₁₁.trans k₁₂))))) ho (by simp only [readS, e1, e2', e3, Bool.false_eq_true, if_false, if_true])
        | false =>
          simp only [Bool.false_eq_true, if_false]
          refine wpAny_execs_nil (wpAny_execs_cons (wpAny_If (wT ht8 (wpAny_isTrue_Compare1 ?_))))
          refine Subscript_str ((a.kp k₂₈).name (by rfl) (by rfl) (cInt fun t₉ s₉ k₉ => ⟨⟨_, _, rfl⟩, ?_⟩))
          refine itemStr (k := 0) (c := c0) (by omega) (by simp) fun t₁₀ s₁₀ k₁₀ => cStr fun t₁₁ s₁₁ k₁₁ => ?_
          rw [show Str.ofString "[" = mk [91] from by decide +kernel]
          refine eqStr (wpAny_truthy_bool fun ht11 => ?_)
          have k₂₁₁ := k₂₈.trans (k₉.trans (k₁₀.trans k₁₁))
          cases e4 : (([c0] : List Nat) == [91]) with
          | true =>
            have e4' : ((c0 :: x').head? == some 91) = true := by simpa using e4
            simp only [if_true]
            refine retTup ht11 (Call_method2 (by rfl) (by rfl) (by rfl) (wT ht11 (Slice_str ((a.kp k₂₁₁).name (by rfl) (by rfl) (wpAny_evalPart_some (cInt fun t₁₂ s₁₂ k₁₂ => negOne fun t₁₃ s₁₃ k₁₃ => ⟨c0 :: x', t, some (1, t₁₂), some (-1, t₁₃), rfl, rfl, rfl, by omega, fun t₁₄ s₁₄ k₁₄ ht14 => ?_⟩))))))
            refine ⟨"str", "str.replace", F.plainAttrs_str, F.slot_str_replace, F.type_str_replace, typeIs_str _ _ _, (fun _ e => nomatch e), callWith_val (by rfl) (fun a => by simp) ?_⟩
            refine Calls.spliced_cons (cStrT fun s₁₅ k₁₅ ht15 => Calls.spliced_cons (cStrT fun s₁₆ k₁₆ ht16 => Calls.spliced_nil ?_))
            rw [show Str.ofString "" = mk [] from by decide +kernel]
            have hcl := cut_le (c0 :: x') (some 1) (some (-1))
            refine SC.replace (u := s₁₄.toks) (v := s₁₅.toks) (fun e => by have e : (s₁₄.toks : Nat) = 0 := e; omega) (fun e => by have e : (s₁₅.toks : Nat) = 0 := e; omega) (fun e => by have e : (s₁₄.toks : Nat) = s₁₅.toks := e; omega) (by decide +kernel) (by rw [mk_length, mk_length]; show (cut (c0 :: x') (some 1) (some (-1))).length + _ * 0 ≤ _; omega) fun t₁₇ k a' s₁₈ k₁₈ ha ho => ?_
            refine fin false (repl (cut (c0 :: x') (some 1) (some (-1)))) t₁₇ a' s₁₈ (a.base.trans (k₂₁₁.trans (k₁₂.trans (k₁₃.trans (k₁₄.trans (k₁₅.trans (k₁₆.trans ((toks _ k).trans k₁₈)))))))) ?_ (by simp only [readS, e1, e2', e3, e4', Bool.false_eq_true, if_false, if_true])
            rw [ho]
            have : mk (repl (cut (c0 :: x') (some 1) (some (-1)))) = Txt.replace (mk (cut (c0 :: x') (some 1) (some (-1)))) (mk [92]) (mk []) := (mk_cps _).symm
            rw [this]; rfl
          | false =>
            have e4' : ((c0 :: x').head? == some 91) = false := by simpa using e4
            simp only [Bool.false_eq_true, if_false]
            refine wpAny_execs_nil (retTup ht11 (wpAny_IfExp (wpAny_isTrue_Compare1 ((a.kp k₂₁₁).name (by rfl) (by rfl) (cStr fun t₁₂ s₁₂ k₁₂ => ?_)))))
            rw [show Str.ofString "$()*+?^{|}" = mk signs1 from by decide +kernel]
            refine P.in_str (wpAny_truthy_bool ?_)
            have ei : (!(occurrences (mk signs1) (mk (c0 :: x')) 0 (mk signs1).length 1).isEmpty) = inStr (c0 :: x') signs1 := rfl
            rw [ei]
            cases e5 : inStr (c0 :: x') signs1 with
            | true =>
              simp only [if_true]
              refine cStr fun t₁₃ s₁₃ k₁₃ a' s₁₄ k₁₄ ha ho => ?_
              rw [show Str.ofString "" = mk [] from by decide +kernel] at ho
              exact fin false [] t₁₃ a' s₁₄ (a.base.trans (k₂₁₁.trans (k₁₂.trans (k₁₃.trans k₁₄)))) ho (by simp only [readS, e1, e2', e3, e4', e5, Bool.false_eq_true, if_false, if_true])
            | false =>
              simp only [Bool.false_eq_true, if_false]
              refine (a.kp (k₂₁₁.trans k₁₂)).name (by rfl) (by rfl) fun a' s₁₄ k₁₄ ha ho => ?_
              exact fin false (c0 :: x') t a' s₁₄ (a.base.trans (k₂₁₁.trans (k₁₂.trans k₁₄))) ho (by simp only [readS, e1, e2', e3, e4', e5, Bool.false_eq_true, if_false, if_true])
end Mine

-- part C4
namespace Mine
open PySem PySem.W PyProof.Rows
open Sem (wp)
open Builtin Builtin.Str

def special : List Nat := [40, 41, 91, 93, 123, 125, 63, 42, 43, 45, 124, 94, 36, 92, 46, 38, 126, 35, 32, 9, 10, 13, 11, 12]
def esc (c : Nat) : List Nat := if special.contains c then [92, c] else [c]

theorem mapK {prog : Program} {w : World} {K : Type} [DecidableEq K] {knd : KeyKind prog w K} {s s' : Shared} {W : List Addr} {a : Addr} {f : K → Option Value} (m : s.heap.MapOf knd a f) (k : Kb W s s') (h : a ∉ W) : s'.heap.MapOf knd a f := by
  obtain ⟨o, es, ep, ho, r⟩ := m; exact ⟨o, es, ep, k.get h ho, r⟩
theorem mapK0 {prog : Program} {w : World} {K : Type} [DecidableEq K] {knd : KeyKind prog w K} {s s' : Shared} {a : Addr} {f : K → Option Value} (m : s.heap.MapOf knd a f) (k : Kb [] s s') : s'.heap.MapOf knd a f := mapK m k (by simp)
theorem mapC {prog : Program} {w : World} {K : Type} [DecidableEq K] {knd : KeyKind prog w K} {s s' : Shared} {W : List Addr} {a : Addr} {f : K → Option Value} (m : s.heap.MapOf knd a f) (k : Ch W s s') (h : a ∉ W) : s'.heap.MapOf knd a f := by
  obtain ⟨o, es, ep, ho, hx, hd, r⟩ := m
  exact ⟨o, es, ep, k.get h ho (by simp [isVar, hx.1, hd]), hx, hd, r⟩
theorem sub_key : isSubtype (.type "KeyError") (.type "LookupError") = pure true := by rw [isSubtype_type]; kernel_rfl

section
variable {prog : Program} {w : World} {A : Around} {E : Value → Shared → Prop} {s : Shared} {d : Addr} {f : Int → Option Value} {c : Nat}

theorem tl_keep {Q : Builtin.Str.Mapped → Shared → Prop} (hm : s.heap.MapOf (intKind prog w) d f) (hd : (d == sysModules) = false) (hh : A.handled = none) (hv : f c = none) (h : ∀ s', Kb [] s s' → Q .keep s') : wpAny (model prog w) A (tableLookup (.ref d) c) Q E s := by
  unfold tableLookup
  refine wpAny_bind (wpAny_attempt (wpAny_bind (wpAny_mkInt ?_)))
  refine wpAny_getItem_missing_of (intKind_is prog w c _) hd hh hm hv fun h' e ne => ?_
  obtain ⟨ob, t, ho, hc, _⟩ := ne.there
  refine wpAny_bind (wpAny_isInstance (T := "KeyError") ⟨ob, ho, hc⟩ sub_key ?_)
  simp only [if_true]
  exact wpAny_bind (wpAny_rule (wpAny_pure (h _ ⟨_, _, _, rfl, fun b o _ e => ne.keeps b o e⟩)))
theorem tl_text {Q : Builtin.Str.Mapped → Shared → Prop} {x : Str} {t : Tok} (hm : s.heap.MapOf (intKind prog w) d f) (hv : f c = some (.str x t)) (h : ∀ s', Kb [] s s' → Q (.text x) s') : wpAny (model prog w) A (tableLookup (.ref d) c) Q E s := by
  unfold tableLookup
  refine wpAny_bind (wpAny_attempt (wpAny_bind (wpAny_mkInt ?_)))
  refine wpAny_getItem_of (intKind_is prog w c _) hm hv ?_
  exact wpAny_pure (h _ (toks _ _))

theorem trans1 {Q : Value → Shared → Prop} {t : Tok} (hm : s.heap.MapOf (intKind prog w) d f) (hd : (d == sysModules) = false) (hh : A.handled = none)
    (hf : (f c = none ∧ special.contains c = false) ∨ (∃ u, f c = some (.str (mk [92, c]) u) ∧ special.contains c = true))
    (h : ∀ t s', Kb [] s s' → Q (.str (mk (esc c)) t) s') : wpAny (model prog w) A (call (.builtin "str.translate") [.str (mk [c]) t, .ref d]) Q E s := by
  refine wpAny_call_entry F.slot_str_translate (typeIs_str _ _ _) F.entry_str_translate ?_ (F.args_str_translate_2 _ _)
  unfold Builtin.«str.translate»
  show wpAny (model prog w) A.in1 ((pure (Value.str (mk [c]) t, mk [c], Value.ref d) : Sem _) >>= _) _ _ _
  refine wpAny_bind (wpAny_pure ?_)
  dsimp only
  rw [if_neg (by simp [mk_length])]
  rw [show (mk [c]).cps = [c].toArray from rfl, List.forIn_toArray, List.forIn_cons]
  have hall : ([c].toArray.all fun x => decide (x < 128)) = decide (c < 128) := by simp
  rw [hall]
  have fin : ∀ (x : Str) (s' : Shared) (k : Nat) (b : Bool × List (Nat × Option Nat) × Bool), Kb [] s s' → x = mk (esc c) → tooLong k = false →
      wpAny (model prog w) A.in1 (if tooLong k = true then (do unsupported "str.translate:memory"; retStr ⟨([x] : List Str).reverse.foldl (fun acc p => acc ++ p.cps) #[]⟩) else retStr ⟨([x] : List Str).reverse.foldl (fun acc p => acc ++ p.cps) #[]⟩) (fun fin s' => ∃ v, fin = .done (.ret v) ∧ Q v s') E s' := by
    intro x s' k b kk hx hk
    rw [hk]
    simp only [Bool.false_eq_true, if_false, List.reverse_cons, List.reverse_nil, List.nil_append, List.foldl_cons, List.foldl_nil]
    rw [show (⟨#[] ++ x.cps⟩ : Str) = x from by simp]
    subst hx
    unfold retStr
    exact wpAny_bind (wpAny_mkStr (wpAny_pure ⟨_, rfl, h _ _ (kk.trans (toks _ _))⟩) (by unfold esc; rw [mk_length]; split <;> (simp; decide)))
  refine wpAny_bind (wpAny_bind ?_)
  have t0 : tooLong 0 = false := by decide +kernel
  have t1 : tooLong (0 + 1) = false := by decide +kernel
  have t2 : tooLong (0 + (mk [92, c]).length) = false := by rw [show (mk [92, c]).length = 2 from rfl]; decide +kernel
  simp only [t0, Bool.false_eq_true, if_false]
  have hh' : A.in1.handled = none := hh
  cases hc : decide (c < 128) with
  | false =>
    simp only [Bool.false_eq_true, if_false]
    rcases hf with ⟨hf, hs⟩ | ⟨u, hf, hs⟩
    · refine wpAny_bind (tl_keep hm hd hh' hf fun s₂ k₂ => wpAny_pure (wpAny_pure ?_))
      refine fin _ _ _ (false, [], false) k₂ (by unfold esc; rw [hs]; rfl) t1
    · refine wpAny_bind (tl_text hm hf fun s₂ k₂ => wpAny_pure (wpAny_pure ?_))
      refine fin _ _ _ (false, [], false) k₂ (by unfold esc; rw [hs]; rfl) t2
  | true =>
    simp only [if_true, List.lookup_nil]
    rcases hf with ⟨hf, hs⟩ | ⟨u, hf, hs⟩
    · refine wpAny_bind (tl_keep hm hd hh' hf fun s₂ k₂ => ?_)
      dsimp only
      refine wpAny_bind (wpAny_pure (wpAny_pure (wpAny_pure ?_)))
      exact fin _ _ _ (false, [], false) k₂ (by unfold esc; rw [hs]; rfl) t1
    · refine wpAny_bind (tl_text hm hf fun s₂ k₂ => ?_)
      dsimp only
      rw [show ((mk [92, c]).length == 1) = false from rfl]
      simp only [Bool.false_and, Bool.false_eq_true, if_false]
      refine wpAny_bind (wpAny_pure ?_)
      dsimp only
      refine wpAny_bind (wpAny_rule (wpAny_bind (tl_text (mapK0 hm k₂) hf fun s₃ k₃ => wpAny_pure (wpAny_pure ?_))))
      exact fin _ _ _ (false, [], false) (k₂.trans k₃) (by unfold esc; rw [hs]; rfl) t2

noncomputable def mapEs : Array DictEntry := match (KF P0).lookup 114 with | some ⟨_, _, .dict es _, _⟩ => es | _ => #[]
theorem map_at (P : Params) : ∃ o n, (KF P).lookup 114 = some o ∧ o.cls = .type "dict" ∧ o.dict = none ∧ o.slots = #[] ∧ o.data = .dict mapEs n := ⟨_, _, by rfl, rfl, rfl, rfl, rfl⟩
theorem map_keys (prog : Program) (w : World) : KeysOf (intKind prog w) mapEs := by
  have h : ∀ e ∈ mapEs.toList, ∃ k : Int, Value.isInt k e.key = true ∧ e.hash = hashInt k := by
    have h1 : (mapEs.toList.all fun e => match e.key with | .int k _ => e.hash == hashInt k | _ => false) = true := by decide +kernel
    intro e he
    have h2 := List.all_eq_true.mp h1 e he
    split at h2
    · rename_i k t hk; exact ⟨k, by rw [hk]; simp [Value.isInt], by simpa using h2⟩
    · cases h2
  intro e he
  exact h e (by simpa using he)
theorem map_find (c : Nat) : (findBy Value.isInt mapEs (c : Int) = none ∧ special.contains c = false) ∨ (∃ u, findBy Value.isInt mapEs (c : Int) = some (.str (mk [92, c]) u) ∧ special.contains c = true) := by
  cases hs : special.contains c with
  | true =>
    refine .inr ?_
    have h1 : (special.all fun c => match findBy Value.isInt mapEs (c : Int) with | some (.str x u) => x == mk [92, c] | _ => false) = true := by decide +kernel
    have h2 := List.all_eq_true.mp h1 c (by simpa using hs)
    split at h2
    · rename_i x u hx
      exact ⟨u, by rw [hx, eq_of_beq h2], rfl⟩
    · cases h2
  | false =>
    refine .inl ⟨?_, rfl⟩
    have h1 : (mapEs.toList.all fun e => match e.key with | .int k _ => special.contains k.toNat && decide (0 ≤ k) | _ => false) = true := by decide +kernel
    unfold findBy
    rw [Option.map_eq_none_iff, ← Array.find?_toList, List.find?_eq_none]
    intro e he q
    have h2 := List.all_eq_true.mp h1 e he
    split at h2
    · rename_i k t hk
      rw [hk] at q
      have : k = (c : Int) := by simpa [Value.isInt] using q
      subst this
      simp at h2
      simp [h2] at hs
    · cases h2

theorem call_escape {p prog : Program} {w : World} {hB : Heap} {A : Around} {R : Result → Shared → Prop} {s : Shared} (B : Bd p w hB) (X : Ext hB s.heap) (r : Rm A 2) {c : Nat} {t : Tok}
    (h : ∀ s' t, Kb [] s s' → R (.ok (.ret (.str (mk (esc c)) t))) s') :
    codeAny (model prog w) A (.call (.ref 124) ⟨[.str (mk [c]) t], []⟩) R s := by
  refine call_fn B X r 124 _ [(Str.ofString "pattern", .str (mk [c]) t)] (bodyC 124) (fun s₁ a => ?_) (hb := by intro x hx; simp only [List.mem_cons, List.not_mem_nil, or_false] at hx; subst hx; rfl)
  have X₁ : Ext hB s₁.heap := X.trans a.base.ext
  refine wpAny_execs_cons (wpAny_If (wpAny_isTrue_value ?_))
  refine Call_val (B.built X₁ (v := .builtin "isinstance") (by rfl) (by rfl) (by decide +kernel) ⟨fun a => by simp, ?_⟩)
  refine wpAny_items_cons (a.name (by rfl) (by rfl) (wpAny_items_cons ?_))
  refine B.built X₁ (v := .type "str") (by rfl) (by rfl) (by decide +kernel) (wpAny_items_nil ?_)
  refine call_isinstance (isinstance_true (Tx := "str") F.isi_meta_str F.sub_str_str) ⟨rfl, ?_⟩
  refine wpAny_truthy_bool ?_
  simp only [if_true]
  refine execs_ret (Call_method1 (by rfl) (by rfl) (by rfl) (a.name (by rfl) (by rfl) ?_))
  refine ⟨"str", "str.translate", F.plainAttrs_str, F.slot_str_translate, F.type_str_translate, typeIs_str _ _ _, (fun _ e => nomatch e), callWith_val (by rfl) (fun a => by simp) ?_⟩
  refine Calls.spliced_cons (B.glob X₁ (g_map w) (Calls.spliced_nil ?_))
  obtain ⟨o, n, ho, h1, h2, h3, h4⟩ := map_at w.params
  refine trans1 (f := fun k => findBy Value.isInt mapEs k) ⟨o, mapEs, n, B.at_ X₁ ho, ⟨h1, h2, h3⟩, h4, map_keys prog w, fun _ => rfl⟩ (by decide) (by exact r.h) (map_find c) fun t s' k => h s' t (a.base.trans k)
end
end Mine

-- part C5
namespace Mine
open PySem PySem.W PyProof.Rows
open Sem (wp)
open Builtin Builtin.Re

theorem owner_rePattern : Manifest.owners.lookup (String.ofList ['n', 'r', 'e', 't', 't', 'a', 'P', '.', 'e', 'r'].reverse) = some Manifest.sig_re_Pattern := by kernel_rfl
theorem plainAttrs_rePattern : PlainAttrs "re.Pattern" :=
  ⟨⟨"object.__getattribute__", by rw [typeLookup_type, builtinLookup_eq_fast]; kernel_rfl, by decide +kernel⟩, by rw [typeLookup_type, builtinLookup_eq_fast]; kernel_rfl⟩
theorem slot_re_sub : Slot "re.Pattern" "sub" "re.Pattern.sub" :=
  .of (owner := "re.Pattern") (n := "sub") (by rw [typeLookup_type, builtinLookup_eq_fast]; kernel_rfl) (by decide +kernel) (by decide +kernel) (by decide +kernel)
    (by first | exact .inl (by decide +kernel) | exact .inr (by decide +kernel)) (by rw [isSubtype_type]; kernel_rfl)
theorem type_re_sub : typeOf (.builtin "re.Pattern.sub") = pure (.type "method_descriptor") := by show builtinType _ = _; rw [builtinType_eq_fast]; kernel_rfl
theorem entry_re_sub : entryFor table "re.Pattern.sub" = some Builtin.«re.Pattern.sub» := entryFor_of_tree (by kernel_rfl)
theorem entry_re_sub_loop : entryFor table "re.Pattern.sub.loop" = some Builtin.«re.Pattern.sub.loop» := entryFor_of_tree (by kernel_rfl)
theorem args_re_sub_3 (a b c : Value) : argsOk "re.Pattern.sub" ⟨[a, b, c], []⟩ := by
  unfold argsOk; rw [signature?_of (id := "re.Pattern.sub") (n := ['b', 'u', 's']) (o := ['n', 'r', 'e', 't', 't', 'a', 'P', '.', 'e', 'r']) (by kernel_rfl) owner_rePattern]; kernel_rfl
theorem fn_call_slot : ∃ id, typeLookup (.type "function") "__call__" = pure (some (.builtin id)) := ⟨"function.__call__", by rw [typeLookup_type, builtinLookup_eq_fast]; kernel_rfl⟩

def reCode : Array Nat := #[14, 14, 4, 1, 1, 9, 0, 64, 0, 1342177280, 0, 0, 0, 0, 0, 17, 0, 13, 11, 9, 0, 64, 0, 1342177280, 0, 0, 0, 0, 0, 17, 1, 1]
theorem re_at (P : Params) : ∃ o vs, (KF P).lookup 112 = some o ∧ o.cls = .type "re.Pattern" ∧ o.dict = none ∧ o.data = .fields vs ∧ vs.getD 5 .none = .ref 111 ∧ reRawNat (vs.getD 6 .none) = 0 ∧ reRawNat (vs.getD 2 .none) = 1 := ⟨_, _, by rfl, rfl, rfl, rfl, rfl, rfl, rfl⟩
theorem re_words (P : Params) : ∃ o xs n, (KF P).lookup 111 = some o ∧ o.data = .seq xs n ∧ (xs.map reRawOf).map (·.toNat) = reCode := ⟨_, _, _, by rfl, rfl, by decide +kernel⟩

def noMatch (text : List Nat) : Bool := match (Sre.M.runFor 4 (Sre.forSearch reCode text.toArray 1 0 text.length false)).outcome with | some .failed => true | _ => false
def stuffs : List (List Nat) := [[33, 97], [46, 98], [33, 46], [42], [63], [91]]
theorem stuffs_no : (stuffs.all noMatch) = true := by decide +kernel

section
variable {prog : Program} {w : World} {A : Around} {E : Value → Shared → Prop} {s : Shared}

theorem run_none {m : Sre.M} {Q : Option Sre.M → Shared → Prop} (hm : (match (Sre.M.runFor 4 m).outcome with | some .failed => true | _ => false) = true) (h : Q none s) : wpAny (model prog w) A (reRunToEnd m) Q E s := by
  have ho : (Sre.M.runFor 4 m).outcome = some .failed := by
    split at hm
    · rename_i e; exact e
    · cases hm
  unfold reRunToEnd
  have hd : reDrive (2 ^ 64) m = pure (Sre.M.runFor 4 m) := by
    show reDrive (18446744073709551615 + 1) m = _
    unfold reDrive
    exact if_pos (by show (Sre.M.runFor 4 m).outcome.isSome = true; rw [ho]; rfl)
  rw [hd]
  refine wpAny_bind (wpAny_pure (wpAny_bind ?_))
  refine wpAny_forIn_list _ (fun _ _ s' => s' = s) _ ?_ ?_ _ _ rfl
  · rintro x rest b s' rfl
    refine wpAny_ite ?_
    split
    · exact wpAny_bind (wpAny_rule (wpAny_pure rfl))
    · exact wpAny_pure rfl
  · rintro b s' rfl
    rw [ho]
    exact wpAny_pure h

theorem whole_target {P : Params} {text : List Nat} {t : Tok} {Q : ReTarget → Shared → Prop} (K : ∀ a o, (KF P).lookup a = some o → s.heap.get? a = some o)
    (h : Q { pattern := .ref 112, string := .str (mk text) t, code := reCode, text := text.toArray, kind := 0, groups := 1, pos := 0, lim := text.length } s) :
    wpAny (model prog w) A (reWholeTarget (.ref 112) (.str (mk text) t)) Q E s := by
  obtain ⟨o, vs, ho, hc, hdct, hdt, h5, h6, h2⟩ := re_at P
  obtain ⟨o', xs, n, ho', hdt', hw⟩ := re_words P
  unfold reWholeTarget
  refine wpAny_bind (wpAny_fieldsOf (K _ _ ho) hdt ?_)
  refine wpAny_bind (m := reTextOf (.str (mk text) t)) (wpAny_of_eq (show reTextOf (.str (mk text) t) = pure (text.toArray, 0) from rfl) ?_)
  dsimp only
  rw [h6, h5, h2]
  simp only [Nat.reduceBEq, Bool.and_false, Bool.false_and, Bool.false_eq_true, if_false]
  refine wpAny_bind (m := reNoCollectionInside _ 0) (wpAny_of_eq (show reNoCollectionInside (.str (mk text) t) 0 = pure () from rfl) ?_)
  unfold reRawItems
  refine wpAny_bind (wpAny_bind (wpAny_seqItems (K _ _ ho') hdt' (wpAny_pure (wpAny_pure ?_))))
  simp only [Option.getD_some]
  rw [hw]
  have : text.toArray.size = text.length := by simp
  rw [this]
  exact h

theorem sub_loop {P : Params} {text : List Nat} {t : Tok} {f l : Addr} {R : Result → Shared → Prop} (hA : A.handled = none) (K : ∀ a o, (KF P).lookup a = some o → s.heap.get? a = some o) (hl : s.heap.PlainList l #[]) (hno : noMatch text = true) (hne : text ≠ []) (hsz : text.length ≤ 1000)
    (hl0 : ∀ o, (KF P).lookup l ≠ some o)
    (h : ∀ t s', Kb [l] s s' → R (.ok (.ret (.str (mk text) t))) s') :
    codeAny (model prog w) A (.builtin "re.Pattern.sub.loop" ⟨[.ref 112, .str (mk text) t, .ref f, rawInt 1, rawInt 0, rawInt 0, rawInt 0, rawInt 0, .bool false, .ref l, .bool false], []⟩) R s := by
  refine codeAny_builtin entry_re_sub_loop ?_
  rw [Around.under_plainId (by decide +kernel)]
  unfold Builtin.«re.Pattern.sub.loop» rawInt
  dsimp only
  refine wpAny_bind (whole_target K ?_)
  dsimp only
  rw [if_neg (by decide)]
  refine wpAny_bind ?_
  rw [if_neg (by decide)]
  unfold reNextFound
  refine run_none hno ?_
  have hpos : 0 < text.length := List.length_pos_iff.mpr hne
  dsimp only
  rw [if_pos (by exact hpos)]
  unfold reSlice
  refine wpAny_bind ?_
  rw [if_pos (by decide)]
  have e1 : (⟨text.toArray.extract (Int.toNat 0) text.length⟩ : Str) = mk text := by simp [mk]
  rw [e1]
  have h24 : sizeLine = 16777216 := rfl
  refine wpAny_mkStr ?_ (by rw [mk_length]; omega)
  obtain ⟨n, hl⟩ := hl
  refine wpAny_bind (wpAny_updateSeq (o := { cls := .type "list", data := .seq #[] n }) hl rfl ?_)
  refine wpAny_bind ?_
  rw [if_pos (by decide)]
  have e2 : (⟨text.toArray.extract 0 0⟩ : Str) = mk [] := by simp [mk]
  rw [e2]
  refine wpAny_mkStr ?_ (by rw [mk_length]; simp)
  have hl' := Heap.get?_update_self (Obj.mapSeq fun x => x.push (.str (mk text) s.toks)) hl (by rfl)
  refine wpAny_bind (wpAny_seqItems (items := #[.str (mk text) s.toks]) hl' rfl ?_)
  rw [if_neg (by simp)]
  refine wpAny_bind ?_
  rw [if_pos (by decide)]
  refine call_meets F.slot_str_join (typeIs_str _ _ _) F.entry_str_join (F.args_str_join_2 _ _) (meets_str_join_list (mk []) _ l [(mk text, s.toks)] ?_) ⟨⟨_, hl', rfl, _, rfl⟩, ?_⟩
  · have e3 : (([(mk text, s.toks)].map (·.1)).toArray.foldl (fun x1 x2 => x1 + x2.length + (mk []).length) 0) = text.length := by
      simp [mk_length]
    rw [e3]
    exact decide_eq_false (by omega)
  · show wpAny _ _ (if (false = true) then _ else ret (.str (mk text) s.toks)) _ _ _
    rw [if_neg (by decide)]
    exact wpAny_pure (h _ _ ⟨_, _, _, rfl, fun b o hb e => (Heap.get?_update_other _ _ (by rintro rfl; exact hb (by simp))).trans e⟩)

theorem sub_call {P : Params} {text : List Nat} {t : Tok} {f : Addr} {Q : Value → Shared → Prop} (hA : A.handled = none) (K : ∀ a o, (KF P).lookup a = some o → s.heap.get? a = some o) (hf : s.TypeIs (.ref f) "function") (hno : noMatch text = true) (hne : text ≠ []) (hsz : text.length ≤ 1000)
    (h : ∀ t s', Kb [] s s' → Q (.str (mk text) t) s') :
    wpAny (model prog w) A (call (.builtin "re.Pattern.sub") [.ref 112, .ref f, .str (mk text) t]) Q E s := by
  obtain ⟨o, vs, ho, hc, hdct, hdt, h5, h6, h2⟩ := re_at P
  refine call_meets (S := fun A R s => A.handled = none ∧ (∀ a o, (KF P).lookup a = some o → s.heap.get? a = some o) ∧ s.TypeIs (.ref f) "function" ∧ ∀ t s', Kb [] s s' → R (.ok (.ret (.str (mk text) t))) s') slot_re_sub ⟨o, K _ _ ho, hc⟩ entry_re_sub (args_re_sub_3 _ _ _) ?_ ⟨hA, K, hf, fun t s' k => h t s' k⟩
  clear hA K hf h
  intro prog w A R s ⟨hA, K, hf, h⟩
  unfold Builtin.«re.Pattern.sub» reSubstitute
  dsimp only
  refine wpAny_bind (wpAny_of_eq (show reNamed _ _ ["repl", "string", "count"] 2 [.ref f, .str (mk text) t] [] = pure [some (.ref f), some (.str (mk text) t), none] by rfl) ?_)
  dsimp only
  refine wpAny_bind (wpAny_pure ?_)
  obtain ⟨id, hid⟩ := fn_call_slot
  refine wpAny_bind (m := specialOf (.ref f) (Str.ofString "__call__")) (Q := _) (wpAny_specialOf hf hid ?_)
  simp only [Option.isSome_some, if_true]
  refine wpAny_bind (wpAny_pure (wpAny_bind (wpAny_pure ?_)))
  refine wpAny_bind (wpAny_holding (whole_target K ?_))
  rw [if_pos (by rfl)]
  refine wpAny_bind ?_
  unfold reNotHeld
  refine wpAny_bind (wpAny_isInstance_val (T := "str") (b := false) rfl (by rw [isSubtype_type]; kernel_rfl) ?_)
  refine wpAny_pure ?_
  refine wpAny_bind (wpAny_newObj_type (wpAny_pure ⟨Code.quiet_builtin _ (by decide +kernel), ?_⟩))
  have kp := Kb.push (W := []) s { cls := .type "list", data := .seq ([] : List Value).toArray } s.toks
  refine sub_loop (P := P) (l := s.heap.objs.size) hA (fun a o e => kp.get0 (K a o e)) ⟨0, Heap.get?_push_size _ rfl⟩ hno hne hsz (fun o e => by have := K _ _ e; rw [fresh_size] at this; cases this) fun t s' k => h t s' ?_
  refine ⟨s'.heap, s'.toks, s'.drawn, ?_, fun b o _ e => ?_⟩
  · obtain ⟨hh, tt, dd, rfl, _⟩ := k; rfl
  · refine k.get ?_ (kp.get0 e)
    rw [List.mem_singleton]; rintro rfl; rw [fresh_size] at e; cases e
end
end Mine

-- part C6
namespace Mine
open PySem PySem.W PyProof.Rows
open Sem (wp)

theorem md_get : typeLookup (.type "method_descriptor") "__get__" = pure (some (.builtin "method_descriptor.__get__")) := by rw [typeLookup_type, builtinLookup_eq_fast]; kernel_rfl
theorem md_set : typeLookup (.type "method_descriptor") "__set__" = pure none := by rw [typeLookup_type, builtinLookup_eq_fast]; kernel_rfl
theorem md_del : typeLookup (.type "method_descriptor") "__delete__" = pure none := by rw [typeLookup_type, builtinLookup_eq_fast]; kernel_rfl

theorem owner_md : Manifest.owners.lookup (String.ofList "method_descriptor".toList.reverse.reverse) = some Manifest.sig_method_descriptor := by kernel_rfl
theorem slot_md_get : Slot "method_descriptor" "__get__" "method_descriptor.__get__" :=
  .of (owner := "method_descriptor") (n := "__get__") (by rw [typeLookup_type, builtinLookup_eq_fast]; kernel_rfl) (by decide +kernel) (by decide +kernel) (by decide +kernel)
    (by first | exact .inl (by decide +kernel) | exact .inr (by decide +kernel)) (by rw [isSubtype_type]; kernel_rfl)
theorem entry_md_get : entryFor table "method_descriptor.__get__" = some Builtin.«method_descriptor.__get__» := entryFor_of_tree (by kernel_rfl)

theorem args_md_get_3 (a b c : Value) : argsOk "method_descriptor.__get__" ⟨[a, b, c], []⟩ := by
  unfold argsOk; rw [signature?_of (id := "method_descriptor.__get__") (n := "__get__".toList.reverse) (o := "method_descriptor".toList.reverse) (by kernel_rfl) owner_md]; kernel_rfl
theorem sub_ll : isSubtype (.type "list") (.type "list") = pure true := by rw [isSubtype_type]; kernel_rfl
set_option maxHeartbeats 4000000 in
theorem meets_ga_append (a : Addr) (xs : Array Value) (k : Nat) (u : Tok) :
    Meets (Builtin.«object.__getattribute__» ⟨[.ref a, .str (Str.ofString "append") u], []⟩) (fun A R s => s.heap.get? a = some { cls := .type "list", dict := none, data := .seq xs k, slots := #[] } ∧
      ∀ f s', Kb [] s s' → s.heap.get? f = none → s'.heap.get? f = some { cls := .type "builtin_function_or_method", data := .fields #[.builtin "list.append", .ref a] } → R (.ok (.ret (.ref f))) s') :=
  Meets.of_wp fun prog w A R s hs => by
    obtain ⟨hp, g, d, tk, os⟩ := s
    obtain ⟨hx, hs⟩ := hs
    have hT : (⟨hp, g, d, tk, os⟩ : Shared).TypeIs (.ref a) "list" := ⟨_, hx, rfl⟩
    have f1 := F.slot_list_append.lookup
    have f2 := F.type_list_append
    have f3 := md_get
    have f4 := md_set
    have f5 := md_del
    have hname : (["__module__", "__name__", "__qualname__", "__doc__", "__annotations__"] : List Str).contains (Str.ofString "append") = false := by decide +kernel
    unfold Builtin.«object.__getattribute__»
    repeat (any_goals (first | assumption | wp_step))
    refine codeAny_call_builtin slot_md_get.plain entry_md_get (slot_md_get.check _ _ _ _ _ _ _ _ f2 (args_md_get_3 _ _ _) ?_)
    unfold Builtin.«method_descriptor.__get__»
    have f6 := sub_ll
    repeat (any_goals (first | assumption | wp_step))
    have e0 : ".".intercalate ("list.append".cutAt '.').dropLast = "list" := by decide +kernel
    rw [e0]
    refine wpAny_of_eq f6 ?_
    rw [if_neg (by decide)]
    refine wpAny_pure (wpAny_bind (wpAny_newObj_type (wpAny_pure ?_)))
    exact wpAny_pure ⟨_, rfl, hs hp.objs.size _ (Kb.push (s := ⟨hp, g, d, tk, os⟩) _ _) (fresh_size _) (Heap.get?_push_size _ rfl)⟩

set_option maxHeartbeats 4000000 in
theorem getAppend {prog : Program} {w : World} {A : Around} {E : Value → Shared → Prop} {s : Shared} {a : Addr} {xs : Array Value} {Q : Value → Shared → Prop} (hl : s.heap.PlainList a xs)
    (h : ∀ f s', Kb [] s s' → s.heap.get? f = none → s'.heap.get? f = some { cls := .type "builtin_function_or_method", data := .fields #[.builtin "list.append", .ref a] } → Q (.ref f) s') :
    wpAny (model prog w) A (getAttr (.ref a) (Str.ofString "append") true) Q E s := by
  obtain ⟨k, hx⟩ := hl
  obtain ⟨hp, g, d, tk, os⟩ := s
  have hT : ∀ tk', (⟨hp, g, d, tk', os⟩ : Shared).TypeIs (.ref a) "list" := fun _ => ⟨_, hx, rfl⟩
  have f3 := F.slot_list_getattribute.lookup
  have f4 := F.slot_list_getattribute.bind (.ref a)
  have f5 := am_list_getattr_none
  unfold getAttr getAttrBy
  repeat (any_goals (first | assumption | exact hT _ | ((with_reducible show wpAny _ _ (call (Value.builtin "list.__getattribute__") _ _) _ _ _); refine call_meets F.slot_list_getattribute (hT _) am_entry_list_getattribute (F.args_list_getattribute_2 _ _) (meets_ga_append a xs k _) ⟨hx, ?_⟩; intro f s' kk hf hf') | wp_step))
  exact wpAny_pure (h f s' ((toks _ _).trans kk) hf hf')

theorem sig_append : Manifest.signature? "list.append" = some ⟨.oneArg, "list.append", "append", .self, [⟨"object", .posOnly, true⟩]⟩ := by
  rw [signature?_of (id := "list.append") (n := ['d', 'n', 'e', 'p', 'p', 'a']) (o := ['t', 's', 'i', 'l']) (by kernel_rfl) F.owner_list]; kernel_rfl
theorem kind_append : builtinKind "list.append" = some .method := by decide +kernel
theorem chk_append (a b : Value) : Bind.checkArgs "list.append" ⟨.oneArg, "list.append", "append", .self, [⟨"object", .posOnly, true⟩]⟩ ⟨[a, b], []⟩ = pure () := by kernel_rfl
theorem sub_lm : isSubtype (.type "list") (.type "module") = pure false := by rw [isSubtype_type]; kernel_rfl
theorem quiet_append (l : Addr) (x : Value) : (Code.builtin "list.append" ⟨[.ref l, x], []⟩).quiet = true := Code.quiet_builtin _ (by decide +kernel)
theorem callBound {prog : Program} {w : World} {A : Around} {E : Value → Shared → Prop} {s : Shared} {f l : Addr} {xs : Array Value} {x : Value} {Q : Value → Shared → Prop}
    (hf : s.heap.get? f = some { cls := .type "builtin_function_or_method", data := .fields #[.builtin "list.append", .ref l] }) (hl : s.heap.PlainList l xs) (hsz : xs.size ≤ sizeLine)
    (h : ∀ s', Kb [l] s s' → s'.heap.PlainList l (xs.push x) → Q .none s') : wpAny (model prog w) A (call (.ref f) [x]) Q E s := by
  refine wpAny_call (codeAny_of_tree ?_)
  show wpAny _ A.in1 (callAny (.ref f) ⟨[x], []⟩) _ _ s
  simp only [callAny]
  refine wpAny_bind (wpAny_load hf ?_)
  dsimp only
  rw [if_pos (by decide +kernel)]
  show wpAny _ _ (if (Value.type "builtin_function_or_method" != Value.type "method") = true then (do checkBoundCall "list.append" ⟨[.ref l, x], []⟩; again (Code.builtin "list.append" ⟨[.ref l, x], []⟩)) else _) _ _ _
  rw [if_pos (by decide +kernel)]
  obtain ⟨n, ho⟩ := hl
  have hT : s.TypeIs (.ref l) "list" := ⟨_, ho, rfl⟩
  refine wpAny_bind ?_
  unfold checkBoundCall
  rw [sig_append]
  simp only [kind_append]
  rw [if_neg (by decide)]
  refine wpAny_bind (wpAny_isInstance hT sub_lm ?_)
  rw [if_neg (by decide +kernel)]
  refine wpAny_bind (wpAny_bind (m := loadHead l) (wpAny_loadPart ho (wpAny_pure ?_)))
  rw [if_neg (by simp)]
  refine wpAny_bind (wpAny_typeOf hT ?_)
  dsimp only
  rw [show (toString (Bind.lastOf "list") ++ toString "." ++ toString (Bind.lastOf "list.append") : String) = "list.append" by decide +kernel]
  rw [chk_append]
  refine wpAny_pure (wpAny_pure ⟨quiet_append _ _, ?_⟩)
  refine codeAny_builtin entry_list_append ?_
  rw [Around.under_plainId (by decide +kernel)]
  have g := list_append l xs n x hsz prog w A (fun r s' => match r with | .ok (.ret v) => Q v s' | .ok _ => False | .error e => E e s') s ⟨ho, ?_⟩
  · exact g
  · refine h _ ⟨_, _, _, rfl, fun b o hb e => (Heap.get?_update_other _ _ (by rintro rfl; exact hb (by simp))).trans e⟩ ⟨n + 1, ?_⟩
    show (s.heap.update l _).get? l = _
    rw [Heap.get?_update_self _ ho (by rw [Obj.mapSeq_push_plain]; rfl), Obj.mapSeq_push_plain]
end Mine

-- part C7
namespace Mine
open PySem PySem.W PyProof.Rows
open Sem (wp)

def Tb (h : Heap) : Prop := ∃ ps, h.get? 126 = some (tabObj ps) ∧ TriplesOk ps.toList
theorem Tb.kb {s s' : Shared} {W : List Addr} (x : Tb s.heap) (k : Kb W s s') (h : 126 ∉ W) : Tb s'.heap := by
  obtain ⟨ps, e, t⟩ := x; exact ⟨ps, k.get h e, t⟩
theorem Tb.ch {s s' : Shared} {W : List Addr} (x : Tb s.heap) (k : Ch W s s') (h : 126 ∉ W) : Tb s'.heap := by
  obtain ⟨ps, e, t⟩ := x; exact ⟨ps, k.get h e rfl, t⟩

section
variable {p prog : Program} {w : World} {hB : Heap} {A : Around} {E : Value → Shared → Prop} {s : Shared}

theorem Lambda_ {M : Model} {env : Env} {args : Arguments} {body : Expr} {scope : Scope} {pos : Pos} {Q : Value → Shared → Prop} (h0 : defaultsOf args env = ([], []))
    (h : wpAny M A (makeFunction "<lambda>" (env.qual ++ "<lambda>") args (.expr body) scope env [] [] [] pos pos.line) Q E s) : wpAny M A (eval (.Lambda args body scope pos) env) Q E s := by
  show wpAny M A (do
    let dv ← evalAll (defaultsOf args env).1
    let kdv ← holding dv (evalAllOpt (defaultsOf args env).2)
    makeFunction "<lambda>" (env.qual ++ "<lambda>") args (.expr body) scope env dv kdv [] pos pos.line) Q E s
  rw [h0]
  exact wpAny_bind (wpAny_pure (wpAny_bind (wpAny_holding (wpAny_pure h))))

theorem mkLambda (B : Bd p w hB) (X : Ext hB s.heap) (tb : Tb s.heap) {L : Addr} {args : Arguments} {body : Expr} {scope : Scope} {pos : Pos} {Q : Value → Shared → Prop}
    (h0 : defaultsOf args (callEnvC (fdC 131) L 131) = ([], [])) (hcl : closureFor scope (callEnvC (fdC 131) L 131) = pure [])
    (h : ∀ f s', Kb [126] s s' → s'.TypeIs (.ref f) "function" → Tb s'.heap → Q (.ref f) s') :
    wpAny (model prog w) A (eval (.Lambda args body scope pos) (callEnvC (fdC 131) L 131)) Q E s := by
  refine Lambda_ h0 ?_
  obtain ⟨ps, hP, ht⟩ := tb
  obtain ⟨_, mg, mb, T, bm, ob, h1, h2, h3, h4, h5, h6⟩ := B.T
  have hg := X.ns T.g (by decide)
  have hbm126 : bm ≠ 126 := fun q => by subst q; rw [B.tab] at h3; cases h3; cases h4
  have hbm3 : bm ≠ mainGlobals := fun q => by
    subst q
    obtain ⟨o, es, ep, ho, hd, _⟩ := T.g
    rw [h3] at ho; cases ho; rw [h6] at hd; cases hd
  have hb : s.heap.BuiltinsAt mg 126 := ⟨bm, ob, h1, h2, hbm3, hbm126, X _ _ hbm126 h3, h4, h5, h6⟩
  have C : CodeHd s.heap 130 126 := codeHd_of_K (K := KH w) (fun a o e => B.at_ X e) (by rfl)
  cases hc : codeAmong pos ps.toList with
  | none =>
    refine kla_makeFunction (clos := []) hcl (by rfl) hg (c := 130) (P := 126) (by rfl) C hP ht hc (by decide) hb fun c' ctv h' tk hx hge hlt hrec htab => ?_
    refine h _ _ ⟨_, _, _, rfl, fun b o hb e => Heap.get?_push_of_some _ (hx b o (by simpa using hb) e)⟩ ⟨_, Heap.get?_push_size _ rfl, rfl⟩ ⟨_, Heap.get?_push_of_some _ htab, ?_⟩
    rw [Array.toList_append]
    exact TriplesOk_snoc _ _ _ _ ht
  | some cv =>
    refine kla_makeFunctionHit (clos := []) hcl (by rfl) hg (c := 130) (P := 126) (by rfl) C hP ht hc hb fun ctv h' tk hk _ => ?_
    exact h _ _ ⟨_, _, _, rfl, fun b o _ e => Heap.get?_push_of_some _ (hk b o e)⟩ ⟨_, Heap.get?_push_size _ rfl, rfl⟩ ⟨_, Heap.get?_push_of_some _ (hk _ _ hP), ht⟩
end
end Mine

-- part C8
namespace Mine
open PySem PySem.W PyProof.Rows
open Sem (wp)
open PySem.SeqAt

section
variable {p prog : Program} {w : World} {hB : Heap} {A : Around} {E : Value → Shared → Prop} {s : Shared} {env : Env} {W₀ : List Addr} {s₀ : Shared} {m : Str → Option Value}

theorem while_go {test : Expr} {body : List Stmt} {pos : Pos} {n : Nat} {Q : Flow → Shared → Prop} (J : Nat → (Str → Option Value) → Shared → Prop)
    (a : Act W₀ env s₀ s m) (h0 : J n m s)
    (turn : ∀ n m s', J n m s' → Act W₀ env s₀ s' m → wpAny (model prog w) A (isTrue test env (eval test env)) (fun b s₂ => if b = true then wpAny (model prog w) A (execs body env) (fun f s₃ => match f with
        | .next | .cont => ∃ n' m', n' < n ∧ J n' m' s₃ ∧ Act W₀ env s₀ s₃ m'
        | .brk => False
        | .ret v => Q (.ret v) s₃) (fun _ _ => False) s₂ else Q .next s₂) (fun _ _ => False) s') :
    wpAny (model prog w) A (exec (.While test body [] pos) env) Q E s := by
  refine wpAny_While (codeAny_whileLoop (fun n s' => ∃ m', J n m' s' ∧ Act W₀ env s₀ s' m') ?_ n ⟨m, h0, a⟩)
  rintro n s' ⟨m', hj, a'⟩
  refine wpAny_mono (turn n m' s' hj a') (fun b s₂ h₂ => ?_) fun _ _ e => e.elim
  cases b with
  | false => exact wpAny_execs_nil h₂
  | true =>
    simp only [if_true] at h₂ ⊢
    refine wpAny_mono h₂ (fun f s₃ h₃ => ?_) fun _ _ e => e.elim
    have nxt : (∃ n' m', n' < n ∧ J n' m' s₃ ∧ Act W₀ env s₀ s₃ m') → ∃ k, k < n ∧ ∃ m', J k m' s₃ ∧ Act W₀ env s₀ s₃ m' := by
      rintro ⟨n', m', h1, h2, h3⟩; exact ⟨n', h1, m', h2, h3⟩
    cases f with
    | next => exact nxt h₃
    | cont => exact nxt h₃
    | brk => exact h₃.elim
    | ret v => exact h₃

theorem callWith_bound {M : Model} {pos : Pos} {f : Addr} {args : List (Bool × Sem Value)} {d sf : Value} {Q : Value → Shared → Prop} (hplain : args.any (·.1) = false)
    (h : wpAny M A (spliced args) (fun vs s₁ => s₁.heap.get? f = some { cls := .type "builtin_function_or_method", data := .fields #[d, sf] } ∧ wpAny M A (call (.ref f) vs) Q E s₁) E s) : wpAny M A (callWith pos (.ref f) [] args []) Q E s := by
  unfold callWith
  refine wpAny_bind (wpAny_holding (evalArgs_gen hplain (wpAny_mono h (fun vs s₁ h₁ => wpAny_bind (wpAny_standAt ?_)) fun _ _ x => x)))
  simp only [hplain, List.any_nil, Bool.or_false]
  refine wpAny_bind (m := keeperOf (.ref f)) ?_
  unfold keeperOf
  refine wpAny_bind (wpAny_load h₁.1 ?_)
  dsimp only
  rw [if_pos (by decide +kernel)]
  rw [if_pos (by decide +kernel)]
  refine wpAny_pure ?_
  exact wpAny_bind (wpAny_mono h₁.2 (fun r s₂ hr => wpAny_bind (wpAny_holding (wpAny_point (wpAny_pure hr)))) fun _ _ x => x)

theorem addStmt {an : Str} {e : Expr} {np cp pos : Pos} {f l : Addr} {xs : Array Value} {Q : Flow → Shared → Prop} (a : Act W₀ env s₀ s m) (hk : isV (env.kindOf an) = true) (hm : m an = some (.ref f))
    (hf : s.heap.get? f = some { cls := .type "builtin_function_or_method", data := .fields #[.builtin "list.append", .ref l] }) (hl : s.heap.PlainList l xs) (hsz : xs.size ≤ sizeLine) {W : List Addr} (hfW : f ∉ W) (hlW : l ∉ W)
    (h : wpAny (model prog w) A (eval e env) (fun v s₁ => Kb W s s₁ ∧ ∀ s', Kb [l] s₁ s' → s'.heap.PlainList l (xs.push v) → Q .next s') E s)
    (he : starEach [e] env = [(false, eval e env)] := by rfl) (hd : (an == ("__debug__" : Str)) = false := by decide +kernel) (hi : interactive env = false := by rfl) (hs : swapsWith (.Call (.Name an np) [e] [] cp) none pos.line env = pure false := by rfl) :
    wpAny (model prog w) A (exec (.Expr (.Call (.Name an np) [e] [] cp) pos) env) Q E s := by
  refine wpAny_Expr ?_ hi hs
  show wpAny (model prog w) A (do callWith cp (← eval (.Name an np) env) [] (backTo cp (starEach [e] env)) (backToKw cp (keywordEach [] env))) _ _ s
  refine wpAny_bind (a.name hk hm ?_ hd)
  refine callWith_bound (d := .builtin "list.append") (sf := .ref l) (by rw [he]; rfl) ?_
  refine wpAny_items_cons (wpAny_mono h (fun v s₁ h₁ => wpAny_items_nil ?_) fun _ _ x => x) he
  obtain ⟨k, h₁⟩ := h₁
  have hf₁ := k.get hfW hf
  exact ⟨hf₁, callBound hf₁ (plK hl k hlW) hsz fun s' k' hl' => h₁ s' k' hl'⟩
end
end Mine

-- part C9
namespace Mine
open PySem PySem.W PyProof.Rows
open Sem (wp)
open PySem.SeqAt
open Builtin Builtin.Str

local macro_rules | `(tactic| walk_at "lk") => `(tactic| (repeat (first | with_reducible exact upd_eq | assumption | with_reducible refine upd_ne (str_ne (by decide)) ?_)))

inductive Tk
  | star | any | set (st : List Nat) | lit (c : Nat)
def rend1 : Tk → List Nat
  | .star => [42] | .any => [63] | .set st => 91 :: (st ++ [93]) | .lit c => [c]
def rend (ts : List Tk) : List Nat := ts.flatMap rend1
def okTk : Tk → Bool
  | .lit c => c != 42 && (c != 63 && c != 91) | .set st => stuffs.contains st | _ => true
def shown : List Nat → List Nat
  | [] => []
  | c :: r => if c == 33 then 94 :: r else if c == 94 || c == 91 then 92 :: c :: r else c :: r
abbrev Part := Option (List Nat)
def pstep (res : List Part) : Tk → List Part
  | .star => if res.getLast? == some none then res else res ++ [none]
  | .any => res ++ [some [46]]
  | .set st => res ++ [some (91 :: (shown st ++ [93]))]
  | .lit c => res ++ [some (esc c)]
def parts (ts : List Tk) : List Part := ts.foldl pstep []
def IsPart (v : Value) (q : Part) : Prop := match q with
  | none => v = .none
  | some x => ∃ t, v = .str (mk x) t

theorem parts_snoc (ts : List Tk) (t : Tk) : parts (ts ++ [t]) = pstep (parts ts) t := by simp [parts, List.foldl_append]
theorem rend_app (a b : List Tk) : rend (a ++ b) = rend a ++ rend b := by simp [rend]
theorem rend1_pos (t : Tk) : 0 < (rend1 t).length := by cases t <;> simp [rend1]
theorem pstep_le (res : List Part) (t : Tk) : (pstep res t).length ≤ res.length + 1 := by cases t <;> simp only [pstep] <;> (try split) <;> simp
theorem parts_le : ∀ (ts : List Tk) (res : List Part), (ts.foldl pstep res).length ≤ res.length + (rend ts).length
  | [], res => by simp [rend]
  | t :: ts, res => by
    have h1 := parts_le ts (pstep res t)
    have h2 := pstep_le res t
    have h3 := rend1_pos t
    simp only [List.foldl_cons, rend, List.flatMap_cons, List.length_append] at *
    omega

theorem bfm_nv (l : Addr) : isVar { cls := .type "builtin_function_or_method", data := .fields #[.builtin "list.append", .ref l] } = false := by
  have : (Value.type "builtin_function_or_method" == Value.type "frame") = false := by decide +kernel
  simp [isVar, this]

def stOk (st : List Nat) : Bool := noMatch st && (st.all (· != 93)) && (occurrences (mk st) (mk [45]) 0 (mk st).length 1).isEmpty && (Txt.replace (mk st) (mk [92]) (mk [92, 92]) == mk st) && (st != [33]) && (st != []) && decide (st.length ≤ 2) && (st.head? != some 33 || st.length == 2)
theorem stuffs_ok : stuffs.all stOk = true := by decide +kernel
structure StOk (st : List Nat) : Prop where
  no : noMatch st = true
  n93 : ∀ c ∈ st, c ≠ 93
  dash : (occurrences (mk st) (mk [45]) 0 (mk st).length 1).isEmpty = true
  rep : Txt.replace (mk st) (mk [92]) (mk [92, 92]) = mk st
  neq : st ≠ [33]
  ne : st ≠ []
  le : st.length ≤ 2
  two : st.head? = some 33 → st.length = 2
theorem StOk.of {st : List Nat} (h : stuffs.contains st = true) : StOk st := by
  have h1 := List.all_eq_true.mp stuffs_ok st (by simpa using h)
  simp only [stOk, Bool.and_eq_true, Bool.or_eq_true, bne_iff_ne, decide_eq_true_eq, beq_iff_eq, List.all_eq_true] at h1
  obtain ⟨⟨⟨⟨⟨⟨⟨h1, h2⟩, h3⟩, h4⟩, h5⟩, h6⟩, h7⟩, h8⟩ := h1
  exact ⟨h1, h2, h3, h4, h5, h6, h7, fun e => h8.resolve_left fun n => n e⟩

section
variable {prog : Program} {w : World} {A : Around} {E : Value → Shared → Prop} {s s₀ : Shared} {env : Env} {W₀ : List Addr} {m : Str → Option Value}
theorem Act.weak {W₁ : List Addr} (a : Act W₀ env s₀ s m) (h : ∀ b ∈ W₀, b ∈ W₁) : Act W₁ env s₀ s m := ⟨a.kind, a.ns, a.cell, a.newL, a.newC, a.apart, a.base.mono h⟩

theorem act_many : ∀ (ns : List Str) (vs : List Value) (m : Str → Option Value) (s : Shared) (Q : Unit → Shared → Prop), ns.length = vs.length → Act W₀ env s₀ s m → (∀ x ∈ ns, isV (env.kindOf x) = true) →
    (∀ s', Act W₀ env s₀ s' (bindAll m (ns.zip vs)) → Ch [] s s' → Q () s') → wpAny (model prog w) A (assignInOrder (ns.map fun n => bindName env n) vs) Q E s
  | [], [], m, s, Q, _, a, _, h => wpAny_assignInOrder_none (h s a (Ch.refl _ _))
  | n :: ns, v :: vs, m, s, Q, hl, a, hk, h => by
    refine wpAny_assignInOrder_more (wpAny_bindName (a.store (hk n List.mem_cons_self) fun s₁ a₁ c₁ => ?_))
    exact act_many ns vs _ _ _ (by simpa using hl) a₁ (fun x hx => hk x (List.mem_cons_of_mem _ hx)) fun s₂ a₂ c₂ => h s₂ a₂ (c₁.trans c₂)
  | [], _ :: _, _, _, _, hl, _, _, _ => by simp at hl
  | _ :: _, [], _, _, _, hl, _, _, _ => by simp at hl

theorem tupStore {elts : List Expr} {k : Nat} {tpos : Pos} {value : Expr} {pos : Pos} {names : List Str} {Q : Flow → Shared → Prop} (hh : A.handled = none)
    (h : wpAny (model prog w) A (eval value env) (fun v s₁ => ∃ t items m₁, v = .ref t ∧ s₁.heap.get? t = some { cls := .type "tuple", data := .seq items } ∧ items.size = names.length ∧ Act W₀ env s₀ s₁ m₁ ∧
      ∀ s', Act W₀ env s₀ s' (bindAll m₁ (names.reverse.zip items.toList.reverse)) → Ch [] s₁ s' → Q .next s') E s)
    (hk : ∀ x ∈ names, isV (env.kindOf x) = true)
    (hs : swapsWithSole [.Tuple elts k tpos] value pos.line env = pure false := by rfl)
    (hw : swappedStores [.Tuple elts k tpos] value env = pure (some names) := by rfl) :
    wpAny (model prog w) A (exec (.Assign [.Tuple elts k tpos] value pos) env) Q E s := by
  refine Assign_Tuple_swapped (wpAny_mono h (fun v s₁ h₁ => ?_) fun _ _ x => x) hs hw
  obtain ⟨t, items, m₁, rfl, ho, hn, a, hq⟩ := h₁
  rw [← hn]
  refine wpAny_unpackItems_tuple hh ⟨_, ho, rfl, _, rfl⟩ fun h' he => ?_
  have k : Kb [] s₁ { s₁ with heap := h' } := ⟨h', s₁.toks, _, rfl, fun b o _ e => he b o (Nat.ne_of_lt (Heap.lt_size e)) e⟩
  exact act_many _ _ _ _ _ (by simp [hn]) (a.kp k) (by simpa using hk) fun s₂ a₂ c₂ => hq s₂ a₂ (k.ch.trans c₂)
end
end Mine

-- part C10
namespace Mine
open PySem PySem.W PyProof.Rows
open Sem (wp)
open PySem.SeqAt
open Builtin Builtin.Str

local macro_rules | `(tactic| walk_at "lk") => `(tactic| (repeat (first | with_reducible exact upd_eq | assumption | with_reducible refine upd_ne (str_ne (by decide)) ?_)))

section
variable {prog : Program} {w : World} {A : Around} {E : Value → Shared → Prop} {s : Shared} {env : Env} {Q : Value → Shared → Prop}
theorem addNat {a b : Nat} {t u : Tok} (h : ∀ t s', Kb [] s s' → Q (.int ((a + b : Nat) : Int) t) s') : wpAny (model prog w) A (binaryOp .Add (.int (a : Int) t) (.int (b : Int) u)) Q E s :=
  addInt fun t s' k => by have := h t s' k; rw [Int.natCast_add] at this; exact this
theorem ltNat {a b : Nat} {t u : Tok} (h : Q (.bool (decide (a < b))) s) : wpAny (model prog w) A (compareOp .Lt (.int (a : Int) t) (.int (b : Int) u)) Q E s :=
  P.lt_int (by rw [show decide ((a : Int) < (b : Int)) = decide (a < b) from by simp]; exact h)
theorem geNat {a b : Nat} {t u : Tok} (h : Q (.bool (decide (b ≤ a))) s) : wpAny (model prog w) A (compareOp .GtE (.int (a : Int) t) (.int (b : Int) u)) Q E s :=
  P.ge_int (by rw [show decide ((a : Int) ≥ (b : Int)) = decide (b ≤ a) from by simp]; exact h)
theorem eqNat {a b : Nat} {t u : Tok} (h : Q (.bool (a == b)) s) : wpAny (model prog w) A (compareOp .Eq (.int (a : Int) t) (.int (b : Int) u)) Q E s :=
  P.eq_int (by rw [show ((a : Int) == (b : Int)) = (a == b) from by rw [Bool.eq_iff_iff, beq_iff_eq, beq_iff_eq]; omega]; exact h)
end

noncomputable def trW : List Stmt := match (bodyC 131).drop 3 with | Stmt.While _ b _ _ :: _ => b | _ => []
noncomputable def trSet : List Stmt := match trW.drop 2 with | Stmt.If _ _ [Stmt.If _ _ [Stmt.If _ b _ _] _] _ :: _ => b | _ => []
abbrev bfm (l : Addr) : Obj := { cls := .type "builtin_function_or_method", data := .fields #[.builtin "list.append", .ref l] }

structure TI (ts : List Tk) (t u : Tok) (l f : Addr) (pre : List Tk) (m : Str → Option Value) (s : Shared) : Prop where
  pat : m (Str.ofString "pat") = some (.str (mk (rend ts)) t)
  star : m (Str.ofString "STAR") = some .none
  qm : m (Str.ofString "QUESTION_MARK") = some (.str (mk [46]) u)
  res : m (Str.ofString "res") = some (.ref l)
  add : m (Str.ofString "add") = some (.ref f)
  n : ∃ tn, m (Str.ofString "n") = some (.int ((rend ts).length : Nat) tn)
  bf : s.heap.get? f = some (bfm l)
  pl : ∃ vs, s.heap.PlainList l vs.toArray ∧ Paired IsPart vs (parts pre)
  tb : Tb s.heap

section
variable {p prog : Program} {w : World} {hB : Heap} {A : Around} {s s' s₀ : Shared} {m : Str → Option Value} {ts pre : List Tk} {t u : Tok} {l f : Addr}
theorem TI.upd {x : String} {v : Value} (i : TI ts t u l f pre m s) (h : x ∉ ["pat", "STAR", "QUESTION_MARK", "res", "add", "n"]) : TI ts t u l f pre (upd m (Str.ofString x) v) s := by
  simp only [List.mem_cons, List.not_mem_nil, or_false, not_or] at h
  obtain ⟨h1, h2, h3, h4, h5, h6⟩ := h
  refine ⟨upd_ne (str_ne (Ne.symm h1)) i.pat, upd_ne (str_ne (Ne.symm h2)) i.star, upd_ne (str_ne (Ne.symm h3)) i.qm, upd_ne (str_ne (Ne.symm h4)) i.res, upd_ne (str_ne (Ne.symm h5)) i.add, ?_, i.bf, i.pl, i.tb⟩
  obtain ⟨tn, hn⟩ := i.n
  exact ⟨tn, upd_ne (str_ne (Ne.symm h6)) hn⟩
theorem TI.same {m' : Str → Option Value} (i : TI ts t u l f pre m s) (h : ∀ x : String, x ∈ ["pat", "STAR", "QUESTION_MARK", "res", "add", "n"] → m' (Str.ofString x) = m (Str.ofString x)) : TI ts t u l f pre m' s := by
  refine ⟨(h _ (by simp)).trans i.pat, (h _ (by simp)).trans i.star, (h _ (by simp)).trans i.qm, (h _ (by simp)).trans i.res, (h _ (by simp)).trans i.add, ?_, i.bf, i.pl, i.tb⟩
  obtain ⟨tn, hn⟩ := i.n
  exact ⟨tn, (h _ (by simp)).trans hn⟩
theorem TI.ch (i : TI ts t u l f pre m s) (c : Ch [] s s') : TI ts t u l f pre m s' := by
  obtain ⟨vs, h1, h2⟩ := i.pl
  exact ⟨i.pat, i.star, i.qm, i.res, i.add, i.n, c.get0 i.bf (bfm_nv l), ⟨vs, plC h1 c (by simp), h2⟩, i.tb.ch c (by simp)⟩
theorem TI.l126 (i : TI ts t u l f pre m s) : l ≠ 126 := by
  rintro rfl
  obtain ⟨vs, ⟨k, h1⟩, _⟩ := i.pl
  obtain ⟨ps, h2, _⟩ := i.tb
  rw [h1] at h2; cases h2
theorem TI.f126 (i : TI ts t u l f pre m s) : f ≠ 126 := by
  rintro rfl
  obtain ⟨ps, h2, _⟩ := i.tb
  rw [i.bf] at h2; cases h2
theorem TI.fl (i : TI ts t u l f pre m s) : f ≠ l := by
  rintro rfl
  obtain ⟨vs, ⟨k, h1⟩, _⟩ := i.pl
  rw [i.bf] at h1
  exact absurd (congrArg (fun o : Option Obj => o.map (fun o => match o.data with | .fields _ => true | _ => false)) h1) (by simp [bfm])
theorem TI.kt (i : TI ts t u l f pre m s) (k : Kb [126] s s') (tb : Tb s'.heap) : TI ts t u l f pre m s' := by
  obtain ⟨vs, h1, h2⟩ := i.pl
  exact ⟨i.pat, i.star, i.qm, i.res, i.add, i.n, k.get (by simpa using i.f126) i.bf, ⟨vs, plK h1 k (by simpa using i.l126), h2⟩, tb⟩
theorem Act.kt {env : Env} (a : Act [126] env s₀ s m) (tb : Tb s.heap) (k : Kb [126] s s') : Act [126] env s₀ s' m := by
  obtain ⟨ps, h2, _⟩ := tb
  refine a.kb k ?_ (fun b hb => .inl hb)
  intro b hb
  simp only [List.mem_singleton] at hb
  subst hb
  exact ⟨_, h2, rfl⟩
theorem Act.kl {env : Env} {x : List Value} {W₀ : List Addr} (a : Act W₀ env s₀ s m) (h : s.heap.PlainList l x.toArray) (hl : s₀.heap.get? l = none) (k : Kb [l] s s') : Act W₀ env s₀ s' m := by
  obtain ⟨n, ho⟩ := h
  refine a.kb k ?_ ?_
  · intro b hb
    simp only [List.mem_singleton] at hb
    subst hb
    exact ⟨_, ho, rfl⟩
  · intro b hb
    simp only [List.mem_singleton] at hb
    subst hb
    exact .inr hl

/-- adding a part -/
theorem tr_add {E : Value → Shared → Prop} {W : List Addr} {env : Env} {e : Expr} {np cp pos : Pos} {Q : Flow → Shared → Prop} {pre' : List Tk} {q : Part} (a : Act [126] env s₀ s m) (i : TI ts t u l f pre m s) (hl : s₀.heap.get? l = none) (hsz : (rend ts).length ≤ 500) (hsub : (parts pre).length ≤ (rend ts).length) (hq : parts pre' = parts pre ++ [q])
    (h : wpAny (model prog w) A (eval e env) (fun v s₁ => Kb [] s s₁ ∧ IsPart v q ∧ ∀ s', Act [126] env s₀ s' m → TI ts t u l f pre' m s' → Q .next s') E s)
    (hk : isV (env.kindOf (Str.ofString "add")) = true) (he : starEach [e] env = [(false, eval e env)] := by rfl) (hi : interactive env = false := by rfl) (hs : swapsWith (.Call (.Name (Str.ofString "add") np) [e] [] cp) none pos.line env = pure false := by rfl) :
    wpAny (model prog w) A (exec (.Expr (.Call (.Name (Str.ofString "add") np) [e] [] cp) pos) env) Q E s := by
  obtain ⟨vs, hpl, hP⟩ := i.pl
  have hlen := hP.length
  have hszz : vs.toArray.size ≤ sizeLine := by
    have : sizeLine = 16777216 := rfl
    have h2 : vs.toArray.size = vs.length := by simp
    omega
  refine addStmt (W := []) a hk i.add i.bf hpl hszz (by simp) (by simp) (wpAny_mono h (fun v s₁ h₁ => ?_) fun _ _ x => x) he (by decide +kernel) hi hs
  obtain ⟨k, hv, h₁⟩ := h₁
  refine ⟨k, fun s' k' hpl' => h₁ s' ((a.kp k).kl (plK0 hpl k) hl k') ?_⟩
  have hpl'' : s'.heap.PlainList l (vs ++ [v]).toArray := by rw [show (vs ++ [v]).toArray = vs.toArray.push v by simp]; exact hpl'
  exact ⟨i.pat, i.star, i.qm, i.res, i.add, i.n, k'.get (by simpa using i.fl) (k.get0 i.bf), ⟨_, hpl'', by rw [hq]; exact Paired.snoc hP hv⟩, (i.tb.kb k (by simp)).kb k' (by simpa using Ne.symm i.l126)⟩
end
end Mine

-- part C11
namespace Mine
open PySem PySem.W PyProof.Rows
open Sem (wp)
open PySem.SeqAt
open Builtin Builtin.Str

local macro_rules | `(tactic| walk_at "lk") => `(tactic| (repeat (first | with_reducible exact upd_eq | assumption | with_reducible refine upd_ne (str_ne (by decide)) ?_)))

noncomputable def trSt : List Stmt := match trSet.drop 4 with | Stmt.If _ _ b _ :: _ => b | _ => []
section
variable {p prog : Program} {w : World} {hB : Heap} {A : Around} {s s' s₀ : Shared} {m : Str → Option Value} {ts pre : List Tk} {t u : Tok} {l f : Addr}

theorem cut1 (c : Nat) (r : List Nat) : cut (c :: r) (some 1) none = r := by
  have h1 : clipAt (r.length + 1) (1 : Int) = 1 := (clipAt_nat (r.length + 1) 1).trans (by omega)
  simp [cut, h1]
theorem eqStrE {E : Value → Shared → Prop} {Q : Value → Shared → Prop} {a : List Nat} (b : List Nat) {y : Str} {t u : Tok} (h : Q (.bool (a == b)) s) (hy : y = mk b := by decide +kernel) : wpAny (model prog w) A (compareOp .Eq (.str (mk a) t) (.str y u)) Q E s := by
  subst hy; exact eqStr h
theorem addStrE {E : Value → Shared → Prop} {Q : Value → Shared → Prop} (a : List Nat) {b : List Nat} {x : Str} {t u : Tok} (hsz : a.length + b.length ≤ sizeLine) (h : ∀ t s', Kb [] s s' → Q (.str (mk (a ++ b)) t) s') (hx : x = mk a := by decide +kernel) : wpAny (model prog w) A (binaryOp .Add (.str x t) (.str (mk b) u)) Q E s := by
  subst hx; exact addStr hsz h
theorem head_not_mem {st : List Nat} (ok : StOk st) : ∃ c r, st = c :: r ∧ c ≠ 93 ∧ (c = 33 → ∃ d, r = [d] ∧ d ≠ 93) := by
  cases st with
  | nil => exact absurd rfl ok.ne
  | cons c r =>
    refine ⟨c, r, rfl, ok.n93 c (by simp), fun e => ?_⟩
    subst e
    have h := ok.two rfl
    match r, h with
    | [d], _ => exact ⟨d, rfl, ok.n93 d (by simp)⟩

noncomputable def trAdd : List Stmt := match trSt.drop 4 with | Stmt.If _ _ [Stmt.If _ _ b _] _ :: _ => b.drop 1 | _ => []
theorem tr_fin {L : Addr} {st : List Nat} {post : List Tk} (a : Act [126] (callEnvC (fdC 131) L 131) s₀ s m) (i : TI ts t u l f pre m s) (hl : s₀.heap.get? l = none)
    (hsz : (rend ts).length ≤ 500) (hsub : (parts pre).length ≤ (rend ts).length) (ok : StOk st) (hi : ∃ ti, m (Str.ofString "i") = some (.int ((rend (pre ++ [.set st])).length : Nat) ti)) (hs : ∃ tt, m (Str.ofString "stuff") = some (.str (mk (shown st)) tt)) :
    wpAny (model prog w) A (execs trAdd (callEnvC (fdC 131) L 131)) (fun fl s₃ => fl = .next ∧ ∃ m', Act [126] (callEnvC (fdC 131) L 131) s₀ s₃ m' ∧ TI ts t u l f (pre ++ [.set st]) m' s₃ ∧
      (∃ ti, m' (Str.ofString "i") = some (.int ((rend (pre ++ [.set st])).length : Nat) ti))) (fun _ _ => False) s := by
  have h24 : sizeLine = 16777216 := rfl
  obtain ⟨tt, hs⟩ := hs
  have hle : (shown st).length ≤ 3 := by
    have := ok.le
    cases st with
    | nil => simp [shown]
    | cons c r => simp only [shown, List.length_cons] at this ⊢; split <;> (try split) <;> simp <;> omega
  refine wpAny_execs_cons (tr_add (W := []) (pre' := pre ++ [.set st]) (q := some (91 :: (shown st ++ [93]))) a i hl hsz hsub (by rw [parts_snoc]; rfl) ?_ (by rfl))
  refine JoinedStr_many (joinParts_cons (cStr fun t₁ s₁ k₁ => ?_))
  dsimp only
  rw [show Str.ofString "[" = mk [91] from by decide +kernel, show Str.empty ++ mk [91] = mk [91] from by decide +kernel]
  refine ⟨by rw [mk_length]; simp; omega, ?_⟩
  refine joinParts_cons (FormattedValue_plain ((a.kp k₁).name (by rfl) hs ?_))
  refine formatField_str (fun t₂ k₂ => ?_) (by rw [mk_length]; omega)
  dsimp only
  refine ⟨by rw [mk_append, mk_length, List.length_append]; simp; omega, ?_⟩
  rw [mk_append]
  refine joinParts_cons (cStr fun t₃ s₃ k₃ => ?_)
  dsimp only
  rw [show Str.ofString "]" = mk [93] from by decide +kernel]
  refine ⟨by rw [mk_append, mk_length, List.length_append]; simp; omega, ?_⟩
  rw [mk_append]
  refine joinParts_nil ?_ (by rw [mk_length]; simp; omega)
  refine ⟨k₁.trans ((toks _ _).trans (k₃.trans (toks _ _))), ⟨s₃.toks, by simp⟩, fun s' a' i' => wpAny_execs_nil ⟨rfl, m, a', i', hi⟩⟩

set_option maxHeartbeats 4000000 in
theorem tr_st (B : Bd p w hB) {L : Addr} {st : List Nat} {post : List Tk} (X₀ : Ext hB s₀.heap) (a : Act [126] (callEnvC (fdC 131) L 131) s₀ s m) (i : TI ts t u l f pre m s) (hl : s₀.heap.get? l = none)
    (hsz : (rend ts).length ≤ 500) (hsub : (parts pre).length ≤ (rend ts).length) (hts : ts = pre ++ .set st :: post) (ok : StOk st) (hi : ∃ ti, m (Str.ofString "i") = some (.int (((rend pre).length + 1 : Nat) : Int) ti)) (hj : ∃ tj, m (Str.ofString "j") = some (.int (((rend pre).length + 1 + st.length : Nat) : Int) tj)) (hh : A.handled = none) :
    wpAny (model prog w) A (execs trSt (callEnvC (fdC 131) L 131)) (fun fl s₃ => fl = .next ∧ ∃ m', Act [126] (callEnvC (fdC 131) L 131) s₀ s₃ m' ∧ TI ts t u l f (pre ++ [.set st]) m' s₃ ∧
      (∃ ti, m' (Str.ofString "i") = some (.int ((rend (pre ++ [.set st])).length : Nat) ti))) (fun _ _ => False) s := by
  have h24 : sizeLine = 16777216 := rfl
  have hrend : rend ts = rend pre ++ (91 :: (st ++ [93]) ++ rend post) := by rw [hts]; simp [rend, rend1]
  have hlen : (rend ts).length = (rend pre).length + (st.length + 2 + (rend post).length) := by rw [hrend]; simp; omega
  have hrl : (rend (pre ++ [.set st])).length = (rend pre).length + 1 + st.length + 1 := by simp [rend, rend1]; omega
  have hcut : ∀ (ti tj : Tok), cut (rend ts) (Option.map (·.1) (some (((((rend pre).length + 1 : Nat) : Int), ti)))) (Option.map (·.1) (some (((((rend pre).length + 1 + st.length : Nat) : Int), tj)))) = st := by
    intro ti tj
    simp only [cut, Option.map_some, Option.elim_some, clipAt_nat]
    rw [Nat.min_eq_left (by omega), Nat.min_eq_left (by omega), hrend]
    rw [show (rend pre).length + 1 + st.length - ((rend pre).length + 1) = st.length by omega]
    rw [show rend pre ++ (91 :: (st ++ [93]) ++ rend post) = (rend pre ++ [91]) ++ (st ++ ([93] ++ rend post)) by simp]
    rw [List.drop_left' (by simp), List.take_left' rfl]
  obtain ⟨ti, hi⟩ := hi
  obtain ⟨tj, hj⟩ := hj
  obtain ⟨c0, st', hst, hc0, hc33⟩ := head_not_mem ok
  -- stuff = pat[i:j]
  refine wpAny_execs_cons (wpAny_Assign_Name (Slice_str (a.name (by rfl) i.pat (wpAny_evalPart_some (a.name (by rfl) hi (wpAny_evalPart_some (a.name (by rfl) hj ⟨_, _, some (_, ti), some (_, tj), rfl, rfl, rfl, by omega, fun t₁ s₁ k₁ => ?_⟩)))))))
  rw [hcut]
  refine (a.kp k₁).store (by rfl) fun s₂ a₂ c₂ => ?_
  have i₂ := (i.ch (k₁.ch.trans c₂)).upd (x := "stuff") (v := .str (mk st) t₁) (by decide)
  -- '-' not in stuff
  refine wpAny_execs_cons (wpAny_If (wpAny_isTrue_Compare1 (cStrT fun s₃ k₃ ht₃ => (a₂.kp k₃).name (by rfl) upd_eq ?_)))
  rw [show Str.ofString "-" = mk [45] from by decide +kernel]
  refine P.notIn_str (wpAny_truthy_bool ?_)
  rw [ok.dash]
  simp only [Bool.not_true, Bool.not_false, if_true]
  -- stuff = stuff.replace
  refine wpAny_execs_cons (wpAny_Assign_Name (Call_method2 (by rfl) (by rfl) (by rfl) ((a₂.kp k₃).name (by rfl) upd_eq ?_)))
  refine ⟨"str", "str.replace", F.plainAttrs_str, F.slot_str_replace, F.type_str_replace, typeIs_str _ _ _, (fun _ e => nomatch e), callWith_val (by rfl) (fun a => by simp) ?_⟩
  refine Calls.spliced_cons (cStrT fun s₄ k₄ ht₄ => Calls.spliced_cons (cStrT fun s₅ k₅ ht₅ => Calls.spliced_nil ?_))
  rw [show Str.ofString "\\" = mk [92] from by decide +kernel, show Str.ofString "\\\\" = mk [92, 92] from by decide +kernel]
  have hle := ok.le
  refine SC.replace (u := s₃.toks) (v := s₄.toks) (fun e => by have e : (s₃.toks : Nat) = 0 := e; omega) (fun e => by have e : (s₄.toks : Nat) = 0 := e; omega) (fun e => by have e : (s₃.toks : Nat) = s₄.toks := e; omega) (by decide +kernel) (by rw [mk_length, mk_length]; have : (st.length + 1) * ([92, 92] : List Nat).length ≤ 3 * 2 := Nat.mul_le_mul (by omega) (by simp); omega) fun t₆ k => ?_
  rw [ok.rep]
  have k₃₆ := k₃.trans (k₄.trans (k₅.trans (toks _ k)))
  refine (a₂.kp k₃₆).store (by rfl) fun s₇ a₇ c₇ => wpAny_execs_nil ?_
  have i₇ := (i₂.ch (k₃₆.ch.trans c₇)).upd (x := "stuff") (v := .str (mk st) t₆) (by decide)
  have X₇ : Ext hB s₇.heap := X₀.trans a₇.base.extT
  -- stuff = re.sub
  refine wpAny_execs_cons (wpAny_Assign_Name (Call_method2 (by rfl) (by rfl) (by rfl) (B.glob X₇ (g_twin w) ?_)))
  obtain ⟨ro, rvs, hro, hrc, hrd, _⟩ := re_at w.params
  have hro' : s₇.heap.get? 112 = some ro := B.at_ X₇ hro
  refine ⟨"re.Pattern", "re.Pattern.sub", plainAttrs_rePattern, slot_re_sub, type_re_sub, ⟨ro, hro', hrc⟩, (fun a e => by cases e; exact ⟨ro, hro', hrd⟩), callWith_val (by rfl) (fun a => by simp) ?_⟩
  refine Calls.spliced_cons (mkLambda B X₇ i₇.tb (by rfl) (by rfl) fun fa s₈ k₈ hfa tb₈ => ?_)
  have a₈ := a₇.kt i₇.tb k₈
  have i₈ := i₇.kt k₈ tb₈
  have X₈ : Ext hB s₈.heap := X₀.trans a₈.base.extT
  refine Calls.spliced_cons (a₈.name (by rfl) upd_eq (Calls.spliced_nil ?_))
  refine sub_call (P := w.params) hh (fun a o e => B.at_ X₈ e) hfa ok.no ok.ne (by omega) fun t₉ s₉ k₉ => ?_
  refine (a₈.kp k₉).store (by rfl) fun s₁₀ a₁₀ c₁₀ => ?_
  have i₁₀ := (i₈.ch (k₉.ch.trans c₁₀)).upd (x := "stuff") (v := .str (mk st) t₉) (by decide)
  -- i = j + 1
  refine wpAny_execs_cons (wpAny_Assign_Name (wpAny_BinOp (a₁₀.name (by rfl) (upd_ne (str_ne (by decide)) (upd_ne (str_ne (by decide)) (upd_ne (str_ne (by decide)) hj))) (cInt fun t₁₁ s₁₁ k₁₁ => addNat (b := 1) fun t₁₂ s₁₂ k₁₂ => ?_))))
  refine (a₁₀.kp (k₁₁.trans k₁₂)).store (by rfl) fun s₁₃ a₁₃ c₁₃ => ?_
  have i₁₃ := (i₁₀.ch ((k₁₁.trans k₁₂).ch.trans c₁₃)).upd (x := "i") (v := .int (((rend pre).length + 1 + st.length + 1 : Nat) : Int) t₁₂) (by decide)
  -- if not stuff
  refine wpAny_execs_cons (wpAny_If (wpAny_isTrue_Not (wpAny_isTrue_value (a₁₃.name (by rfl) (upd_ne (str_ne (by decide)) upd_eq) ?_))))
  refine P.truthy_str (by rw [mk_length]; omega) ?_
  have hne : (((mk st).length : Int) != 0) = true := by rw [mk_length, hst]; simp; omega
  rw [hne]
  simp only [Bool.not_true, Bool.false_eq_true, if_false]
  have k₁₄ : Kb [] s₁₃ { s₁₃ with toks := s₁₃.toks + 1 + 1 } := toks _ _
  generalize ({ s₁₃ with toks := s₁₃.toks + 1 + 1 } : Shared) = s₁₄ at k₁₄ ⊢
  have a₁₄ := a₁₃.kp k₁₄
  have i₁₄ := i₁₃.ch k₁₄.ch
  have hi' : (rend (pre ++ [.set st])).length = (rend pre).length + 1 + st.length + 1 := hrl
  have hs14 := upd_ne (v := .int (((rend pre).length + 1 + st.length + 1 : Nat) : Int) t₁₂) (x := Str.ofString "i") (str_ne (a := "stuff") (b := "i") (by decide)) (upd_eq (m := (upd (upd m (Str.ofString "stuff") (Value.str (mk st) t₁)) (Str.ofString "stuff") (Value.str (mk st) t₆))) (x := Str.ofString "stuff") (v := Value.str (mk st) t₉))
  have hi14 := upd_eq (m := upd (upd (upd m (Str.ofString "stuff") (Value.str (mk st) t₁)) (Str.ofString "stuff") (Value.str (mk st) t₆)) (Str.ofString "stuff") (Value.str (mk st) t₉)) (x := Str.ofString "i") (v := .int (((rend pre).length + 1 + st.length + 1 : Nat) : Int) t₁₂)
  rw [← hi'] at hi14 i₁₄ a₁₄ hs14
  generalize upd (upd (upd (upd m (Str.ofString "stuff") (Value.str (mk st) t₁)) (Str.ofString "stuff") (Value.str (mk st) t₆)) (Str.ofString "stuff") (Value.str (mk st) t₉)) (Str.ofString "i") (.int ((rend (pre ++ [.set st])).length : Nat) t₁₂) = m4 at hi14 i₁₄ a₁₄ hs14
  -- stuff == '!'
  refine wpAny_execs_cons (wpAny_If (wpAny_isTrue_Compare1 (a₁₄.name (by rfl) hs14 (cStr fun t₁₅ s₁₅ k₁₅ => eqStrE [33] (wpAny_truthy_bool ?_)))))
  rw [show (st == [33]) = false from by simpa using ok.neq]
  simp only [Bool.false_eq_true, if_false]
  -- stuff[0] == '!'
  refine wpAny_execs_cons (wpAny_If (wpAny_isTrue_Compare1 ?_))
  refine Subscript_str ((a₁₄.kp k₁₅).name (by rfl) hs14 (cInt fun t₁₆ s₁₆ k₁₆ => ⟨⟨_, _, rfl⟩, itemStr (k := 0) (c := c0) (by omega) (by rw [hst]; rfl) fun t₁₇ s₁₇ k₁₇ => cStr fun t₁₈ s₁₈ k₁₈ => eqStrE [33] (wpAny_truthy_bool ?_)⟩))
  have k₁₅₈ := k₁₅.trans (k₁₆.trans (k₁₇.trans k₁₈))
  cases e1 : (([c0] : List Nat) == [33]) with
  | true =>
    simp only [if_true]
    have e1' : c0 = 33 := by simpa using e1
    refine wpAny_execs_cons (wpAny_Assign_Name (wpAny_BinOp (cStr fun t₁₉ s₁₉ k₁₉ => Slice_str ((a₁₄.kp (k₁₅₈.trans k₁₉)).name (by rfl) hs14 (wpAny_evalPart_some (cInt fun t₂₀ s₂₀ k₂₀ => wpAny_evalPart_none ⟨_, _, some (1, t₂₀), none, rfl, rfl, rfl, by omega, fun t₂₁ s₂₁ k₂₁ => ?_⟩))))))
    rw [show cut st (Option.map (·.1) (some ((1 : Int), t₂₀))) (Option.map (·.1) (none : Option (Int × Tok))) = st' from by rw [hst]; exact cut1 c0 st']
    refine addStrE [94] (by rw [hst] at hle; simp at hle ⊢; omega) fun t₂₂ s₂₂ k₂₂ => ?_
    refine (a₁₄.kp (k₁₅₈.trans (k₁₉.trans (k₂₀.trans (k₂₁.trans k₂₂))))).store (by rfl) fun s₂₃ a₂₃ c₂₃ => wpAny_execs_nil ?_
    refine wpAny_mono (tr_fin (post := post) a₂₃ ((i₁₄.ch ((k₁₅₈.trans (k₁₉.trans (k₂₀.trans (k₂₁.trans k₂₂)))).ch.trans c₂₃)).upd (by decide)) hl hsz hsub ok ⟨_, upd_ne (str_ne (by decide)) hi14⟩ ⟨t₂₂, ?_⟩) (fun fl s h => by obtain ⟨rfl, h⟩ := h; exact wpAny_execs_nil (wpAny_execs_nil ⟨rfl, h⟩)) (fun _ _ x => x)
    rw [upd_eq, hst, e1']; rfl
  | false =>
    simp only [Bool.false_eq_true, if_false]
    have e1' : c0 ≠ 33 := by simpa using e1
    refine wpAny_execs_cons (wpAny_If (wpAny_isTrue_Compare1 ?_))
    refine Subscript_str ((a₁₄.kp k₁₅₈).name (by rfl) hs14 (cInt fun t₁₉ s₁₉ k₁₉ => ⟨⟨_, _, rfl⟩, itemStr (k := 0) (c := c0) (by omega) (by rw [hst]; rfl) fun t₂₀ s₂₀ k₂₀ => ?_⟩))
    refine tupleMade (wpAny_items_cons (cStr fun t₂₁ s₂₁ k₂₁ => wpAny_items_cons (cStr fun t₂₂ s₂₂ k₂₂ => wpAny_items_nil ⟨by show 2 ≤ sizeLine; decide, fun lt s₂₃ k₂₃ hlt hot => ?_⟩)))
    refine in_tuple_strs ⟨_, hot, rfl, _, rfl⟩ (StrsAre.cons _ t₂₁ (.cons _ t₂₂ .nil)) (wpAny_truthy_bool ?_)
    have k₁₅₂ := k₁₅₈.trans (k₁₉.trans (k₂₀.trans (k₂₁.trans (k₂₂.trans k₂₃))))
    have ein : (([Str.ofString "^", Str.ofString "["] : List Str).any (· == mk [c0])) = (c0 == 94 || c0 == 91) := by
      rw [show Str.ofString "^" = mk [94] from by decide +kernel, show Str.ofString "[" = mk [91] from by decide +kernel]
      have inj : ∀ a b : Nat, (mk [a] == mk [b]) = (b == a) := by
        intro a b
        rw [Bool.eq_iff_iff, beq_iff_eq, beq_iff_eq]
        constructor
        · intro h; simpa [mk] using h.symm
        · rintro rfl; rfl
      simp only [List.any_cons, List.any_nil, Bool.or_false, inj]
    rw [ein]
    cases e2 : (c0 == 94 || c0 == 91) with
    | true =>
      simp only [if_true]
      refine wpAny_execs_cons (wpAny_Assign_Name (wpAny_BinOp (cStr fun t₂₄ s₂₄ k₂₄ => (a₁₄.kp (k₁₅₂.trans k₂₄)).name (by rfl) hs14 (addStrE [92] (by simp; omega) fun t₂₅ s₂₅ k₂₅ => ?_))))
      refine (a₁₄.kp (k₁₅₂.trans (k₂₄.trans k₂₅))).store (by rfl) fun s₂₆ a₂₆ c₂₆ => wpAny_execs_nil (wpAny_execs_nil ?_)
      refine wpAny_mono (tr_fin (post := post) a₂₆ ((i₁₄.ch ((k₁₅₂.trans (k₂₄.trans k₂₅)).ch.trans c₂₆)).upd (by decide)) hl hsz hsub ok ⟨_, upd_ne (str_ne (by decide)) hi14⟩ ⟨t₂₅, ?_⟩) (fun fl s h => by obtain ⟨rfl, h⟩ := h; exact wpAny_execs_nil (wpAny_execs_nil ⟨rfl, h⟩)) (fun _ _ x => x)
      rw [upd_eq, hst]
      have : (c0 == 33) = false := by simpa using e1'
      simp only [shown, this, e2]; rfl
    | false =>
      simp only [Bool.false_eq_true, if_false]
      refine wpAny_execs_nil (wpAny_execs_nil ?_)
      refine wpAny_mono (tr_fin (post := post) (a₁₄.kp k₁₅₂) (i₁₄.ch k₁₅₂.ch) hl hsz hsub ok ⟨_, hi14⟩ ⟨t₉, ?_⟩) (fun fl s h => by obtain ⟨rfl, h⟩ := h; exact wpAny_execs_nil (wpAny_execs_nil ⟨rfl, h⟩)) (fun _ _ x => x)
      rw [hs14, hst]
      have : (c0 == 33) = false := by simpa using e1'
      simp only [shown, this, e2]; rfl
end
end Mine

-- part C12
namespace Mine
open PySem PySem.W PyProof.Rows
open Sem (wp)
open PySem.SeqAt
open Builtin Builtin.Str

section
variable {p prog : Program} {w : World} {hB : Heap} {A : Around} {s s' s₀ : Shared} {m : Str → Option Value} {ts pre : List Tk} {t u : Tok} {l f : Addr}
theorem neStrE {E : Value → Shared → Prop} {Q : Value → Shared → Prop} {a : List Nat} (b : List Nat) {y : Str} {t u : Tok} (h : Q (.bool (a != b)) s) (hy : y = mk b := by decide +kernel) : wpAny (model prog w) A (compareOp .NotEq (.str (mk a) t) (.str y u)) Q E s := by
  subst hy; exact neStr h

set_option maxHeartbeats 4000000 in
/-- from the test for ']' on; the place of `j` is `d` signs into the set -/
theorem tr_set2 (B : Bd p w hB) {L : Addr} {st : List Nat} {post : List Tk} {d : Nat} (X₀ : Ext hB s₀.heap) (a : Act [126] (callEnvC (fdC 131) L 131) s₀ s m) (i : TI ts t u l f pre m s) (hl : s₀.heap.get? l = none)
    (hsz : (rend ts).length ≤ 500) (hsub : (parts pre).length ≤ (rend ts).length) (hts : ts = pre ++ .set st :: post) (ok : StOk st) (hi : ∃ ti, m (Str.ofString "i") = some (.int (((rend pre).length + 1 : Nat) : Int) ti)) (hj : ∃ tj, m (Str.ofString "j") = some (.int (((rend pre).length + 1 + d : Nat) : Int) tj)) (hd : d < st.length) (hh : A.handled = none) :
    wpAny (model prog w) A (execs (trSet.drop 2) (callEnvC (fdC 131) L 131)) (fun fl s₃ => fl = .next ∧ ∃ m', Act [126] (callEnvC (fdC 131) L 131) s₀ s₃ m' ∧ TI ts t u l f (pre ++ [.set st]) m' s₃ ∧
      (∃ ti, m' (Str.ofString "i") = some (.int ((rend (pre ++ [.set st])).length : Nat) ti))) (fun _ _ => False) s := by
  have h24 : sizeLine = 16777216 := rfl
  have hrend : rend ts = rend pre ++ (91 :: (st ++ [93]) ++ rend post) := by rw [hts]; simp [rend, rend1]
  have hlen : (rend ts).length = (rend pre).length + (st.length + 2 + (rend post).length) := by rw [hrend]; simp; omega
  have hat : ∀ k, k ≤ st.length → (rend ts)[(rend pre).length + 1 + k]? = (st ++ [93])[k]? := by
    intro k hk
    rw [hrend, List.getElem?_append_right (by omega), show (rend pre).length + 1 + k - (rend pre).length = k + 1 by omega, List.cons_append, List.getElem?_cons_succ, List.getElem?_append_left (by simp; omega)]
  have hin : ∀ k (hk : k < st.length), (rend ts)[(rend pre).length + 1 + k]? = some st[k] ∧ st[k] ≠ 93 := by
    intro k hk
    refine ⟨by rw [hat k (Nat.le_of_lt hk), List.getElem?_append_left hk]; simp, ok.n93 _ (by simp)⟩
  have hend : (rend ts)[(rend pre).length + 1 + st.length]? = some 93 := by rw [hat _ (Nat.le_refl _)]; simp
  obtain ⟨ti, hi⟩ := hi
  obtain ⟨tj, hj⟩ := hj
  obtain ⟨tn, hn⟩ := i.n
  -- the sign ']'
  refine wpAny_execs_cons (wpAny_If (wpAny_isTrue_BoolOp (wpAny_allTrue_And_cons (wpAny_isTrue_Compare1 ?_))))
  refine a.name (by rfl) hj (a.name (by rfl) hn (ltNat (wpAny_truthy_bool ?_)))
  rw [show decide ((rend pre).length + 1 + d < (rend ts).length) = true from by simp; omega]
  rw [if_pos rfl]
  refine wpAny_allTrue_And_cons (wpAny_isTrue_Compare1 ?_)
  refine Subscript_str (a.name (by rfl) i.pat (a.name (by rfl) hj ⟨⟨_, _, rfl⟩, itemStr (c := st[d]) (by omega) (hin d hd).1 fun t₂ s₂ k₂ => cStr fun t₃ s₃ k₃ => eqStrE [93] (wpAny_truthy_bool ?_)⟩))
  rw [show (([st[d]] : List Nat) == [93]) = false from by simpa using (hin d hd).2]
  simp only [Bool.false_eq_true, if_false]
  refine wpAny_execs_nil ?_
  have k₁₃ := k₂.trans k₃
  -- the loop
  refine wpAny_execs_cons ?_
  refine while_go (W₀ := [126]) (s₀ := s₀) (m := m) (n := st.length - d) (fun n m' s' => ∃ k tj, n = st.length - k ∧ k ≤ st.length ∧ m' (Str.ofString "j") = some (.int (((rend pre).length + 1 + k : Nat) : Int) tj) ∧ (∀ x : Str, x ≠ Str.ofString "j" → m' x = m x) ∧ Ch [] s₃ s')
    (a.kp k₁₃) ⟨d, tj, rfl, Nat.le_of_lt hd, hj, fun _ _ => rfl, Ch.refl _ _⟩ ?_
  rintro n m' s' ⟨k, tj', rfl, hk, hj', hsame, c⟩ a'
  have i' : TI ts t u l f pre m' s' := (i.ch (k₁₃.ch.trans c)).same fun x hx => hsame _ (str_ne (by rintro rfl; simp at hx))
  have hn' : m' (Str.ofString "n") = some (.int ((rend ts).length : Nat) tn) := (hsame _ (str_ne (by decide))).trans hn
  refine wpAny_isTrue_BoolOp (wpAny_allTrue_And_cons (wpAny_isTrue_Compare1 ?_))
  refine a'.name (by rfl) hj' (a'.name (by rfl) hn' (ltNat (wpAny_truthy_bool ?_)))
  rw [show decide ((rend pre).length + 1 + k < (rend ts).length) = true from by simp; omega]
  rw [if_pos rfl]
  refine wpAny_allTrue_And_cons (wpAny_isTrue_Compare1 ?_)
  by_cases hlt : k < st.length
  · refine Subscript_str (a'.name (by rfl) i'.pat (a'.name (by rfl) hj' ⟨⟨_, _, rfl⟩, itemStr (c := st[k]) (by omega) (hin k hlt).1 fun t₄ s₄ k₄ => cStr fun t₅ s₅ k₅ => neStrE [93] (wpAny_truthy_bool ?_)⟩))
    rw [show (([st[k]] : List Nat) != [93]) = true from by simpa using (hin k hlt).2]
    simp only [if_true]
    refine wpAny_allTrue_And_nil ?_
    simp only [if_true]
    refine wpAny_execs_cons (wpAny_Assign_Name (wpAny_BinOp ((a'.kp (k₄.trans k₅)).name (by rfl) hj' (cInt fun t₆ s₆ k₆ => addNat (b := 1) fun t₇ s₇ k₇ => ?_))))
    refine (a'.kp (k₄.trans (k₅.trans (k₆.trans k₇)))).store (by rfl) fun s₈ a₈ c₈ => wpAny_execs_nil ?_
    exact ⟨st.length - (k + 1), _, by omega, ⟨k + 1, t₇, rfl, hlt, upd_eq, fun x hx => upd_ne hx (hsame x hx), c.trans ((k₄.trans (k₅.trans (k₆.trans k₇))).ch.trans c₈)⟩, a₈⟩
  · have hkl : k = st.length := by omega
    subst hkl
    refine Subscript_str (a'.name (by rfl) i'.pat (a'.name (by rfl) hj' ⟨⟨_, _, rfl⟩, itemStr (c := 93) (by omega) hend fun t₄ s₄ k₄ => cStr fun t₅ s₅ k₅ => neStrE [93] (wpAny_truthy_bool ?_)⟩))
    rw [show (([93] : List Nat) != [93]) = false from rfl]
    simp only [Bool.false_eq_true, if_false]
    have k₄₅ := k₄.trans k₅
    refine wpAny_execs_cons (wpAny_If (wpAny_isTrue_Compare1 ((a'.kp k₄₅).name (by rfl) hj' ((a'.kp k₄₅).name (by rfl) hn' (geNat (wpAny_truthy_bool ?_))))))
    rw [show decide ((rend ts).length ≤ (rend pre).length + 1 + st.length) = false from by simp; omega]
    simp only [Bool.false_eq_true, if_false]
    refine wpAny_mono (tr_st (post := post) B X₀ (a'.kp k₄₅) (i'.ch k₄₅.ch) hl hsz hsub hts ok ⟨ti, (hsame _ (str_ne (by decide))).trans hi⟩ ⟨tj', hj'⟩ hh) (fun fl s h => ?_) fun _ _ x => x
    obtain ⟨rfl, h⟩ := h
    exact wpAny_execs_nil ⟨rfl, h⟩

set_option maxHeartbeats 4000000 in
theorem tr_set (B : Bd p w hB) {L : Addr} {st : List Nat} {post : List Tk} (X₀ : Ext hB s₀.heap) (a : Act [126] (callEnvC (fdC 131) L 131) s₀ s m) (i : TI ts t u l f pre m s) (hl : s₀.heap.get? l = none)
    (hsz : (rend ts).length ≤ 500) (hsub : (parts pre).length ≤ (rend ts).length) (hts : ts = pre ++ .set st :: post) (ok : StOk st) (hi : ∃ ti, m (Str.ofString "i") = some (.int (((rend pre).length + 1 : Nat) : Int) ti)) (hh : A.handled = none) :
    wpAny (model prog w) A (execs trSet (callEnvC (fdC 131) L 131)) (fun fl s₃ => fl = .next ∧ ∃ m', Act [126] (callEnvC (fdC 131) L 131) s₀ s₃ m' ∧ TI ts t u l f (pre ++ [.set st]) m' s₃ ∧
      (∃ ti, m' (Str.ofString "i") = some (.int ((rend (pre ++ [.set st])).length : Nat) ti))) (fun _ _ => False) s := by
  have h24 : sizeLine = 16777216 := rfl
  have hrend : rend ts = rend pre ++ (91 :: (st ++ [93]) ++ rend post) := by rw [hts]; simp [rend, rend1]
  have hlen : (rend ts).length = (rend pre).length + (st.length + 2 + (rend post).length) := by rw [hrend]; simp; omega
  obtain ⟨ti, hi⟩ := hi
  obtain ⟨tn, hn⟩ := i.n
  obtain ⟨c0, st', hst, hc0, hc33⟩ := head_not_mem ok
  have h0 : (rend ts)[(rend pre).length + 1]? = some c0 := by
    rw [hrend, List.getElem?_append_right (by omega), show (rend pre).length + 1 - (rend pre).length = 0 + 1 by omega, List.cons_append, List.getElem?_cons_succ, hst]; rfl
  refine wpAny_execs_cons (wpAny_Assign_Name (a.name (by rfl) hi ?_))
  refine a.store (by rfl) fun s₁ a₁ c₁ => ?_
  have i₁ : TI ts t u l f pre (upd m (Str.ofString "j") (.int (((rend pre).length + 1 : Nat) : Int) ti)) s₁ := (i.ch c₁).upd (by decide)
  -- the sign '!'
  refine wpAny_execs_cons (wpAny_If (wpAny_isTrue_BoolOp (wpAny_allTrue_And_cons (wpAny_isTrue_Compare1 ?_))))
  refine a₁.name (by rfl) upd_eq (a₁.name (by rfl) (upd_ne (str_ne (by decide)) hn) (ltNat (wpAny_truthy_bool ?_)))
  rw [show decide ((rend pre).length + 1 < (rend ts).length) = true from by simp; omega]
  rw [if_pos rfl]
  refine wpAny_allTrue_And_cons (wpAny_isTrue_Compare1 ?_)
  refine Subscript_str (a₁.name (by rfl) i₁.pat (a₁.name (by rfl) upd_eq ⟨⟨_, _, rfl⟩, itemStr (c := c0) (by omega) h0 fun t₂ s₂ k₂ => cStr fun t₃ s₃ k₃ => eqStrE [33] (wpAny_truthy_bool ?_)⟩))
  have k₁₃ := k₂.trans k₃
  cases e : (([c0] : List Nat) == [33]) with
  | true =>
    have e' : c0 = 33 := by simpa using e
    simp only [if_true]
    refine wpAny_allTrue_And_nil ?_
    simp only [if_true]
    refine wpAny_execs_cons (wpAny_Assign_Name (wpAny_BinOp ((a₁.kp k₁₃).name (by rfl) upd_eq (cInt fun t₄ s₄ k₄ => addNat (b := 1) fun t₅ s₅ k₅ => ?_))))
    refine (a₁.kp (k₁₃.trans (k₄.trans k₅))).store (by rfl) fun s₆ a₆ c₆ => wpAny_execs_nil ?_
    refine tr_set2 (d := 1) (post := post) B X₀ a₆ ((i₁.ch ((k₁₃.trans (k₄.trans k₅)).ch.trans c₆)).upd (by decide)) hl hsz hsub hts ok ⟨ti, upd_ne (str_ne (by decide)) (upd_ne (str_ne (by decide)) hi)⟩ ⟨t₅, upd_eq⟩ ?_ hh
    obtain ⟨d, hd, _⟩ := hc33 e'
    rw [hst, hd]; simp
  | false =>
    simp only [Bool.false_eq_true, if_false]
    refine wpAny_execs_nil ?_
    refine tr_set2 (d := 0) (post := post) B X₀ (a₁.kp k₁₃) (i₁.ch k₁₃.ch) hl hsz hsub hts ok ⟨ti, upd_ne (str_ne (by decide)) hi⟩ ⟨ti, upd_eq⟩ ?_ hh
    rw [hst]; simp
end
end Mine

-- part C13
namespace Mine
open PySem PySem.W PyProof.Rows
open Sem (wp)
open PySem.SeqAt
open Builtin Builtin.Str

theorem pLast {α β : Type} {R : α → β → Prop} {vs : List α} {ns : List β} (h : Paired R vs ns) {v : α} (hv : vs.getLast? = some v) : ∃ q, ns.getLast? = some q ∧ R v q := by
  rw [List.getLast?_eq_getElem?] at hv ⊢
  obtain ⟨q, h1, h2⟩ := Mine.Paired.get h _ _ hv
  exact ⟨q, by rw [← h.length]; exact h1, h2⟩

section
variable {p prog : Program} {w : World} {hB : Heap} {A : Around} {s s' s₀ : Shared} {m : Str → Option Value} {ts pre : List Tk} {t u : Tok} {l f : Addr} {E : Value → Shared → Prop}

theorem itemNeg {value slice : Expr} {l : Addr} {items : List Value} {u : Tok} {x : Value} {Q : Value → Shared → Prop} (hl : s.heap.PlainList l items.toArray) (hx : items.getLast? = some x) (h : Q x s)
    (hs : subscripted slice false (.ref l) (.int (-1) u) = operate [.ref l, .int (-1) u] (getItem (.ref l) (.int (-1) u)) := by with_unfolding_all rfl) (hg : ∀ r, letTemporaryGo value (.ref l) r = pure () := by intro _; with_unfolding_all rfl) :
    wpAny (model prog w) A (subscriptTail value slice (.ref l) (.int (-1) u)) Q E s := by
  have hne : 0 < items.length := by cases items with | nil => simp at hx | cons _ _ => simp
  refine subscriptTail_builtin hl.isList.typeIs slot_list_getitem.lookup (wpAny_getItem_list_neg hl.isList (by decide) (by simp; omega) (by decide) ?_ h) hs hg
  rw [List.getLast?_eq_getElem?] at hx
  simp only [List.size_toArray, List.getElem?_toArray]
  rw [show ((-1 : Int) + (items.length : Int)).toNat = items.length - 1 by omega]
  exact hx

theorem TI.repre {pre' : List Tk} (i : TI ts t u l f pre m s) (h : parts pre' = parts pre) : TI ts t u l f pre' m s :=
  ⟨i.pat, i.star, i.qm, i.res, i.add, i.n, i.bf, h ▸ i.pl, i.tb⟩

theorem call_at (B : Bd p w hB) (X : Ext hB s.heap) {a : Addr} {fn : Str} {fp pos : Pos} {args : List Expr} {env : Env} {Q : Value → Shared → Prop} (e : nsIn (KH w) mainGlobals fn = some (some (.ref a)))
    (h : wpAny (model prog w) A (spliced (backTo pos (starEach args env))) (fun vs s₂ => Ext hB s₂.heap ∧ wpAny (model prog w) A (call (.ref a) vs) Q E s₂) E s)
    (hf : (match (KF w.params).lookup a with | some ⟨_, _, .func _, _⟩ => true | _ => false) = true := by rfl)
    (hplain : (backTo pos (starEach args env)).any (·.1) = false := by rfl)
    (hg : env.globals = mainGlobals := by rfl) (hk : env.scope.kind = .function := by rfl) (hx : env.kindOf fn = some .globalImplicit := by rfl) (hd' : (fn == ("__debug__" : Str)) = false := by decide +kernel) :
    wpAny (model prog w) A (eval (.Call (.Name fn fp) args [] pos) env) Q E s := by
  obtain ⟨o, ho, hd⟩ := fd_at hf
  refine Call_fun (o := o) (B.glob X e ⟨rfl, wpAny_mono h (fun vs s₂ h₂ => ⟨⟨B.at_ h₂.1 ho, hd⟩, h₂.2⟩) fun _ _ x => x⟩ hg hk hx hd') hplain

theorem okSet {st : List Nat} (h : okTk (.set st) = true) : StOk st := StOk.of h

set_option maxHeartbeats 4000000 in
theorem tr_turn (B : Bd p w hB) {L : Addr} {tk : Tk} {post : List Tk} (X₀ : Ext hB s₀.heap) (a : Act [126] (callEnvC (fdC 131) L 131) s₀ s m) (i : TI ts t u l f pre m s) (hl : s₀.heap.get? l = none)
    (hsz : (rend ts).length ≤ 500) (hsub : (parts pre).length ≤ (rend ts).length) (hts : ts = pre ++ tk :: post) (ok : okTk tk = true) (hi : ∃ ti, m (Str.ofString "i") = some (.int ((rend pre).length : Nat) ti)) (r : Rm A 2) :
    wpAny (model prog w) A (execs trW (callEnvC (fdC 131) L 131)) (fun fl s₃ => fl = .next ∧ ∃ m', Act [126] (callEnvC (fdC 131) L 131) s₀ s₃ m' ∧ TI ts t u l f (pre ++ [tk]) m' s₃ ∧
      (∃ ti, m' (Str.ofString "i") = some (.int ((rend (pre ++ [tk])).length : Nat) ti))) (fun _ _ => False) s := by
  have h24 : sizeLine = 16777216 := rfl
  have hrend : rend ts = rend pre ++ (rend1 tk ++ rend post) := by rw [hts]; simp [rend]
  have hpos := rend1_pos tk
  have hlen : (rend ts).length = (rend pre).length + ((rend1 tk).length + (rend post).length) := by rw [hrend]; simp
  have hrl : (rend (pre ++ [tk])).length = (rend pre).length + (rend1 tk).length := by simp [rend]
  obtain ⟨ti, hi⟩ := hi
  obtain ⟨c0, rest, hc0⟩ : ∃ c r, rend1 tk = c :: r := by cases h : rend1 tk with | nil => rw [h] at hpos; cases hpos | cons c r => exact ⟨c, r, rfl⟩
  have h0 : (rend ts)[(rend pre).length]? = some c0 := by
    rw [hrend, List.getElem?_append_right (by omega), Nat.sub_self, hc0]; rfl
  -- c = pat[i]
  refine wpAny_execs_cons (wpAny_Assign_Name (Subscript_str (a.name (by rfl) i.pat (a.name (by rfl) hi ⟨⟨_, _, rfl⟩, itemStr (by omega) h0 fun tc s₁ k₁ => ?_⟩))))
  refine (a.kp k₁).store (by rfl) fun s₂ a₂ c₂ => ?_
  have i₂ := (i.ch (k₁.ch.trans c₂)).upd (x := "c") (v := .str (mk [c0]) tc) (by decide)
  -- i = i + 1
  refine wpAny_execs_cons (wpAny_Assign_Name (wpAny_BinOp (a₂.name (by rfl) (upd_ne (str_ne (by decide)) hi) (cInt fun t₃ s₃ k₃ => addNat (b := 1) fun t₄ s₄ k₄ => ?_))))
  refine (a₂.kp (k₃.trans k₄)).store (by rfl) fun s₅ a₅ c₅ => ?_
  have i₅ := (i₂.ch ((k₃.trans k₄).ch.trans c₅)).upd (x := "i") (v := .int (((rend pre).length + 1 : Nat) : Int) t₄) (by decide)
  have hc5 : upd (upd m (Str.ofString "c") (.str (mk [c0]) tc)) (Str.ofString "i") (.int (((rend pre).length + 1 : Nat) : Int) t₄) (Str.ofString "c") = some (.str (mk [c0]) tc) := upd_ne (str_ne (by decide)) upd_eq
  have hi5 := upd_eq (m := upd m (Str.ofString "c") (.str (mk [c0]) tc)) (x := Str.ofString "i") (v := .int (((rend pre).length + 1 : Nat) : Int) t₄)
  generalize upd (upd m (Str.ofString "c") (.str (mk [c0]) tc)) (Str.ofString "i") (.int (((rend pre).length + 1 : Nat) : Int) t₄) = m5 at a₅ i₅ hc5 hi5
  -- c == '*'
  refine wpAny_execs_cons (wpAny_If (wpAny_isTrue_Compare1 (a₅.name (by rfl) hc5 (cStr fun t₆ s₆ k₆ => eqStrE [42] (wpAny_truthy_bool ?_)))))
  have a₆ := a₅.kp k₆
  have i₆ := i₅.ch k₆.ch
  cases tk with
  | star =>
    obtain ⟨rfl, _⟩ : 42 = c0 ∧ [] = rest := by simpa [rend1] using hc0
    rw [if_pos (by rfl)]
    obtain ⟨vs, hpl, hP⟩ := i₆.pl
    have hlv := hP.length
    have hend : ∀ s₉ m' , Act [126] (callEnvC (fdC 131) L 131) s₀ s₉ m' → TI ts t u l f (pre ++ [.star]) m' s₉ → m' = m5 → (∃ m', Act [126] (callEnvC (fdC 131) L 131) s₀ s₉ m' ∧ TI ts t u l f (pre ++ [.star]) m' s₉ ∧ (∃ ti, m' (Str.ofString "i") = some (.int ((rend (pre ++ [.star])).length : Nat) ti))) := by
      rintro s₉ m' a₉ i₉ rfl
      exact ⟨_, a₉, i₉, t₄, by rw [hi5, hrl]; rfl⟩
    refine wpAny_execs_cons (wpAny_If (wpAny_isTrue_BoolOp (wpAny_allTrue_Or_cons (wpAny_isTrue_Not (wpAny_isTrue_value (a₆.name (by rfl) i₆.res ?_))))))
    have hszv : vs.length ≤ 500 := by omega
    refine wpAny_truthy_list hpl.isList (by simp; omega) ?_
    have k₇ : Kb [] s₆ { s₆ with toks := s₆.toks + 1 + 1 } := toks _ _
    generalize ({ s₆ with toks := s₆.toks + 1 + 1 } : Shared) = s₇ at k₇ ⊢
    have a₇ := a₆.kp k₇
    have i₇ := i₆.ch k₇.ch
    cases hv : vs.getLast? with
    | none =>
      have : vs = [] := by simpa using hv
      subst this
      have hp0 : parts pre = [] := List.length_eq_zero_iff.mp hlv.symm
      rw [show (!!(#[] : Array Value).isEmpty) = true from rfl]
      simp only [if_true]
      refine wpAny_execs_cons (tr_add (W := []) (pre' := pre ++ [.star]) (q := none) a₇ i₇ hl hsz hsub (by rw [parts_snoc, pstep, hp0]; rfl) ?_ (by rfl))
      exact a₇.name (by rfl) i₇.star ⟨Kb.refl _ _, rfl, fun s₉ a₉ i₉ => wpAny_execs_nil (wpAny_execs_nil (wpAny_execs_nil ⟨rfl, hend s₉ _ a₉ i₉ rfl⟩))⟩
    | some v =>
      obtain ⟨q, hq, hvq⟩ := pLast hP hv
      have hne : (!!vs.toArray.isEmpty) = false := by cases vs with | nil => simp at hv | cons _ _ => rfl
      rw [hne]
      simp only [Bool.false_eq_true, if_false]
      refine wpAny_allTrue_Or_cons (wpAny_isTrue_Compare1 ?_)
      refine Subscript_ (a₇.name (by rfl) i₇.res (wpAny_UnaryOp (cInt fun t₈ s₈ k₈ => P.neg_int ?_)))
      have k₉ : Kb [] s₈ { s₈ with toks := s₈.toks + 1 } := toks _ _
      generalize ({ s₈ with toks := s₈.toks + 1 } : Shared) = s₉ at k₉ ⊢
      have k₇₉ := k₇.trans (k₈.trans k₉)
      refine itemNeg (plK0 hpl k₇₉) hv ?_
      refine (a₆.kp k₇₉).name (by rfl) i₆.star (isNot_none (wpAny_truthy_bool ?_))
      cases q with
      | none =>
        have : v = .none := hvq
        subst this
        rw [show (!(Value.none == Value.none)) = false from rfl]
        simp only [Bool.false_eq_true, if_false]
        refine wpAny_allTrue_Or_nil ?_
        simp only [Bool.false_eq_true, if_false]
        exact wpAny_execs_nil (wpAny_execs_nil (wpAny_execs_nil ⟨rfl, hend _ _ (a₆.kp k₇₉) ((i₆.ch k₇₉.ch).repre (by rw [parts_snoc, pstep, hq]; rfl)) rfl⟩))
      | some x =>
        obtain ⟨tx, rfl⟩ := hvq
        rw [show (!(Value.str (mk x) tx == Value.none)) = true from rfl]
        simp only [if_true]
        refine wpAny_execs_cons (tr_add (W := []) (pre' := pre ++ [.star]) (q := none) (a₆.kp k₇₉) (i₆.ch k₇₉.ch) hl hsz hsub (by rw [parts_snoc, pstep, hq]; rfl) ?_ (by rfl))
        exact (a₆.kp k₇₉).name (by rfl) i₇.star ⟨Kb.refl _ _, rfl, fun s₉ a₉ i₉ => wpAny_execs_nil (wpAny_execs_nil (wpAny_execs_nil ⟨rfl, hend s₉ _ a₉ i₉ rfl⟩))⟩
  | any =>
    obtain ⟨rfl, _⟩ : 63 = c0 ∧ [] = rest := by simpa [rend1] using hc0
    rw [if_neg (by decide)]
    refine wpAny_execs_cons (wpAny_If (wpAny_isTrue_Compare1 (a₆.name (by rfl) hc5 (cStr fun t₇ s₇ k₇ => eqStrE [63] (wpAny_truthy_bool ?_)))))
    rw [if_pos (by rfl)]
    refine wpAny_execs_cons (tr_add (W := []) (pre' := pre ++ [.any]) (q := some [46]) (a₆.kp k₇) (i₆.ch k₇.ch) hl hsz hsub (by rw [parts_snoc]; rfl) ?_ (by rfl))
    exact (a₆.kp k₇).name (by rfl) i₆.qm ⟨Kb.refl _ _, ⟨_, rfl⟩, fun s₉ a₉ i₉ => wpAny_execs_nil (wpAny_execs_nil (wpAny_execs_nil ⟨rfl, m5, a₉, i₉, t₄, by rw [hi5, hrl]; rfl⟩))⟩
  | set st =>
    obtain ⟨rfl, _⟩ : 91 = c0 ∧ (st ++ [93]) = rest := by simpa [rend1] using hc0
    rw [if_neg (by decide)]
    refine wpAny_execs_cons (wpAny_If (wpAny_isTrue_Compare1 (a₆.name (by rfl) hc5 (cStr fun t₇ s₇ k₇ => eqStrE [63] (wpAny_truthy_bool ?_)))))
    rw [if_neg (by decide)]
    refine wpAny_execs_cons (wpAny_If (wpAny_isTrue_Compare1 ((a₆.kp k₇).name (by rfl) hc5 (cStr fun t₈ s₈ k₈ => eqStrE [91] (wpAny_truthy_bool ?_)))))
    rw [if_pos (by rfl)]
    refine wpAny_mono (tr_set (post := post) B X₀ (a₆.kp (k₇.trans k₈)) (i₆.ch (k₇.trans k₈).ch) hl hsz hsub hts (okSet ok) ⟨_, hi5⟩ r.h) (fun fl s h => ?_) fun _ _ x => x
    obtain ⟨rfl, h⟩ := h
    exact wpAny_execs_nil (wpAny_execs_nil (wpAny_execs_nil ⟨rfl, h⟩))
  | lit c =>
    obtain ⟨rfl, _⟩ : c = c0 ∧ [] = rest := by simpa [rend1] using hc0
    simp only [okTk, Bool.and_eq_true, bne_iff_ne] at ok
    obtain ⟨ok1, ok2, ok3⟩ := ok
    rw [if_neg (by simpa using ok1)]
    refine wpAny_execs_cons (wpAny_If (wpAny_isTrue_Compare1 (a₆.name (by rfl) hc5 (cStr fun t₇ s₇ k₇ => eqStrE [63] (wpAny_truthy_bool ?_)))))
    rw [if_neg (by simpa using ok2)]
    refine wpAny_execs_cons (wpAny_If (wpAny_isTrue_Compare1 ((a₆.kp k₇).name (by rfl) hc5 (cStr fun t₈ s₈ k₈ => eqStrE [91] (wpAny_truthy_bool ?_)))))
    rw [if_neg (by simpa using ok3)]
    have k₇₈ := k₇.trans k₈
    refine wpAny_execs_cons (tr_add (W := []) (pre' := pre ++ [.lit c]) (q := some (esc c)) (a₆.kp k₇₈) (i₆.ch k₇₈.ch) hl hsz hsub (by rw [parts_snoc]; rfl) ?_ (by rfl))
    have X₈ := X₀.trans (a₆.kp k₇₈).base.extT
    refine call_at B X₈ (g_escape w) (wpAny_items_cons ((a₆.kp k₇₈).name (by rfl) hc5 (wpAny_items_nil ⟨X₈, ?_⟩)))
    refine wpAny_call (call_escape B X₈ r fun s₉ t₉ k₉ => ⟨k₉, ⟨_, rfl⟩, fun s₉ a₉ i₉ => wpAny_execs_nil (wpAny_execs_nil (wpAny_execs_nil (wpAny_execs_nil ⟨rfl, m5, a₉, i₉, t₄, by rw [hi5, hrl]; rfl⟩)))⟩)
end
end Mine

-- part C14
namespace Mine
open PySem PySem.W PyProof.Rows
open Sem (wp)
open PySem.SeqAt
open Builtin Builtin.Str

section
variable {p prog : Program} {w : World} {hB : Heap} {A : Around} {s : Shared} {R : Result → Shared → Prop}

set_option maxHeartbeats 4000000 in
theorem call_translate (B : Bd p w hB) (X : Ext hB s.heap) (tb : Tb s.heap) (r : Rm A 3) {ts : List Tk} {t u : Tok} (hts : ts.all okTk = true) (hsz : (rend ts).length ≤ 500)
    (h : ∀ l s' vs, Kb [126] s s' → s.heap.get? l = none → s'.heap.PlainList l vs.toArray → Paired IsPart vs (parts ts) → Tb s'.heap → R (.ok (.ret (.ref l))) s') :
    codeAny (model prog w) A (.call (.ref 131) ⟨[.str (mk (rend ts)) t, .none, .str (mk [46]) u], []⟩) R s := by
  have h24 : sizeLine = 16777216 := rfl
  refine call_fn B X r 131 _ [(Str.ofString "pat", .str (mk (rend ts)) t), (Str.ofString "STAR", .none), (Str.ofString "QUESTION_MARK", .str (mk [46]) u)] (bodyC 131) (fun s₁ a => ?_) (hb := by intro x hx; simp only [List.mem_cons, List.not_mem_nil, or_false] at hx; rcases hx with rfl | rfl | rfl <;> rfl)
  have X₁ : Ext hB s₁.heap := X.trans a.base.ext
  have tb₁ : Tb s₁.heap := tb.kb a.base (by simp)
  have r2 : Rm (A.deeper (callEnvC (fdC 131) s.heap.objs.size 131)) 2 := r.deeper _
  refine wpAny_execs_cons (wpAny_Assign_Name (listMade (wpAny_items_nil ⟨by simp, fun l s₂ k₂ hl hpl => ?_⟩)))
  have hl0 : s.heap.get? l = none := a.base.nope0 hl
  refine (a.kp k₂).store (by rfl) fun s₃ a₃ c₃ => ?_
  have hpl₃ := plC hpl c₃ (by simp)
  refine wpAny_execs_cons (wpAny_Assign_Name (Attribute_any_ (a₃.name (by rfl) upd_eq (getAppend hpl₃ fun f s₄ k₄ hf hf' => ?_))))
  refine (a₃.kp k₄).store (by rfl) fun s₅ a₅ c₅ => ?_
  have hpl₅ : s₅.heap.PlainList l #[] := plC (plK0 hpl₃ k₄) c₅ (by simp)
  have hf₅ := c₅.get0 hf' (bfm_nv l)
  have tb₅ : Tb s₅.heap := tb₁.ch (k₂.ch.trans (c₃.trans (k₄.ch.trans c₅))) (by simp)
  have X₅ : Ext hB s₅.heap := X.trans a₅.base.ext
  refine wpAny_execs_cons (tupStore (W₀ := []) (s₀ := s) (names := [Str.ofString "i", Str.ofString "n"]) r2.h ?_ (by intro x hx; simp only [List.mem_cons, List.not_mem_nil, or_false] at hx; rcases hx with rfl | rfl <;> rfl))
  refine tupleMade (wpAny_items_cons (cInt fun t₆ s₆ k₆ => wpAny_items_cons ?_))
  have a₆ := a₅.kp k₆
  refine Call_val (B.built (X₅.trans k₆.ext) (v := .builtin "len") (by rfl) (by rfl) (by decide +kernel) ⟨fun a => by simp, ?_⟩)
  refine wpAny_items_cons (a₆.name (by rfl) (upd_ne (str_ne (by decide)) (upd_ne (str_ne (by decide)) (by rfl))) (wpAny_items_nil (lenStr (by omega) fun t₇ s₇ k₇ => wpAny_items_nil ⟨by show 2 ≤ sizeLine; decide, fun tu s₈ k₈ htu htu' => ?_⟩)))
  have k₅₈ := k₆.trans (k₇.trans k₈)
  refine ⟨tu, _, _, rfl, htu', rfl, a₅.kp k₅₈, fun s₉ a₉ c₉ => ?_⟩
  change Act [] _ s s₉ (upd (upd (upd (upd _ (Str.ofString "res") _) (Str.ofString "add") _) (Str.ofString "n") _) (Str.ofString "i") _) at a₉
  have mkTI : ∀ {m : Str → Option Value}, Act [] (callEnvC (fdC 131) s.heap.objs.size 131) s s₉ m → m (Str.ofString "pat") = some (.str (mk (rend ts)) t) → m (Str.ofString "STAR") = some .none → m (Str.ofString "QUESTION_MARK") = some (.str (mk [46]) u) → m (Str.ofString "res") = some (.ref l) →
      m (Str.ofString "add") = some (.ref f) → m (Str.ofString "n") = some (.int ((rend ts).length : Nat) t₇) → TI ts t u l f [] m s₉ := fun _ h1 h2 h3 h4 h5 h6 =>
    ⟨h1, h2, h3, h4, h5, ⟨t₇, h6⟩, (k₅₈.ch.trans c₉).get0 hf₅ (bfm_nv l), ⟨[], plC hpl₅ (k₅₈.ch.trans c₉) (by simp), .nil⟩, tb₅.ch (k₅₈.ch.trans c₉) (by simp)⟩
  refine (fun i₉ => ?_ : (_ → _)) (mkTI a₉ ?_ ?_ ?_ ?_ ?_ ?_)
  rotate_left
  · exact upd_ne (str_ne (by decide)) (upd_ne (str_ne (by decide)) (upd_ne (str_ne (by decide)) (upd_ne (str_ne (by decide)) (by rfl))))
  · exact upd_ne (str_ne (by decide)) (upd_ne (str_ne (by decide)) (upd_ne (str_ne (by decide)) (upd_ne (str_ne (by decide)) (by rfl))))
  · exact upd_ne (str_ne (by decide)) (upd_ne (str_ne (by decide)) (upd_ne (str_ne (by decide)) (upd_ne (str_ne (by decide)) (by rfl))))
  · exact upd_ne (str_ne (by decide)) (upd_ne (str_ne (by decide)) (upd_ne (str_ne (by decide)) upd_eq))
  · exact upd_ne (str_ne (by decide)) (upd_ne (str_ne (by decide)) upd_eq)
  · exact upd_ne (str_ne (by decide)) upd_eq
  refine wpAny_execs_cons ?_
  refine while_go (W₀ := [126]) (s₀ := s) (n := ts.length) (fun n m s' => ∃ pre post, ts = pre ++ post ∧ n = post.length ∧ TI ts t u l f pre m s' ∧ ∃ ti, m (Str.ofString "i") = some (.int ((rend pre).length : Nat) ti))
    (a₉.weak (by simp)) ⟨[], ts, rfl, rfl, i₉, t₆, upd_eq⟩ ?_
  rintro n m s' ⟨pre, post, hpp, rfl, i, ti, hi⟩ a'
  obtain ⟨tn, hn⟩ := i.n
  refine wpAny_isTrue_Compare1 (a'.name (by rfl) hi (a'.name (by rfl) hn (ltNat (wpAny_truthy_bool ?_))))
  have hrl : (rend ts).length = (rend pre).length + (rend post).length := by rw [hpp, rend_app]; simp
  cases post with
  | cons tk post =>
    have hpos := rend1_pos tk
    have hlt : (rend pre).length < (rend ts).length := by rw [hrl]; simp [rend]; omega
    rw [show decide ((rend pre).length < (rend ts).length) = true from by simpa using hlt]
    simp only [if_true]
    have hsub := parts_le pre []
    have ok : okTk tk = true := List.all_eq_true.mp hts tk (by rw [hpp]; simp)
    refine wpAny_mono (tr_turn (post := post) B X a' i hl0 hsz (by have : (parts pre).length ≤ 0 + (rend pre).length := hsub; omega) hpp ok ⟨ti, hi⟩ r2) (fun fl s₁₀ h₁₀ => ?_) fun _ _ x => x
    obtain ⟨rfl, m', a₁₀, i₁₀, hi₁₀⟩ := h₁₀
    exact ⟨post.length, m', by simp, ⟨pre ++ [tk], post, by rw [hpp]; simp, rfl, i₁₀, hi₁₀⟩, a₁₀⟩
  | nil =>
    have hpe : pre = ts := by rw [hpp]; simp
    subst hpe
    rw [show decide ((rend pre).length < (rend pre).length) = false from by simp]
    simp only [Bool.false_eq_true, if_false]
    refine wpAny_execs_cons (wpAny_Assert_holds (wpAny_isTrue_Compare1 (a'.name (by rfl) hi (a'.name (by rfl) hn (eqNat (wpAny_truthy_bool ⟨by simp, ?_⟩))))))
    refine execs_ret (a'.name (by rfl) i.res ?_)
    obtain ⟨vs, hpl', hP⟩ := i.pl
    exact h l s' vs a'.base hl0 hpl' hP i.tb
end
end Mine

-- part D1
namespace Mine
open PySem PySem.W PyProof.Rows
open Sem (wp)

abbrev byText (w : World) : Bool := w.params.followText "set-order"

/-! ## order tables -/
theorem eraseIdx_perm {α : Type} {l : List α} {i : Nat} (h : i < l.length) : List.Perm (l[i] :: l.eraseIdx i) l := by
  rw [List.eraseIdx_eq_take_drop_succ]
  refine List.perm_middle.symm.trans (List.Perm.of_eq ?_)
  rw [List.getElem_cons_drop, List.take_append_drop]
theorem pick_perm {α : Type} (next : Nat → Nat) : ∀ (fuel k : Nat) (left : List α) (out : Array α), left.length ≤ fuel → List.Perm (pickOrder.go next fuel k left out).toList (out.toList ++ left)
  | 0, k, left, out, h => by
    have : left = [] := List.length_eq_zero_iff.mp (by omega)
    subst this
    unfold pickOrder.go; simp
  | fuel + 1, k, left, out, h => by
    unfold pickOrder.go
    cases hl : left with
    | nil => simp
    | cons a r =>
      have hlt : next k % (a :: r).length < (a :: r).length := Nat.mod_lt _ (by simp)
      rw [List.getElem?_eq_getElem hlt]
      dsimp only
      refine (pick_perm next fuel (k + 1) _ _ ?_).trans ?_
      · rw [List.length_eraseIdx_of_lt hlt, ← hl]; omega
      · rw [Array.toList_push, List.append_assoc]
        exact List.Perm.append_left _ (eraseIdx_perm hlt)
theorem pickOrder_perm {α : Type} (next : Nat → Nat) (xs : Array α) : List.Perm (pickOrder next xs).toList xs.toList := by
  unfold pickOrder
  refine (pick_perm next xs.size 0 xs.toList #[] (by simp)).trans ?_
  simp

section
variable {prog : Program} {w : World} {A : Around} {E : Value → Shared → Prop} {s : Shared}
theorem wpAny_choose {M : Model} {src : Source} {n : Nat} {Q : Nat → Shared → Prop} (hn : n ≠ 0) (h : ∀ i, i < n → Q i { s with drawn := s.drawn.bump src }) : wpAny M A (choose src n) Q E s := fun Γ p hΓ => by
  show wp M Γ (.choose src n .pure) _ _ p s
  rw [Sem.wp_choose]
  exact ⟨hn, h _ (Nat.mod_lt _ (by omega))⟩
theorem wpAny_drawOrder {M : Model} {α : Type} : ∀ (n : Nat) (xs : List α) (s : Shared) (Q : List α → Shared → Prop), n = xs.length → (∀ ys s', List.Perm ys xs → Kb [] s s' → Q ys s') → wpAny M A (drawOrder n xs) Q E s
  | 0, xs, s, Q, hn, h => by
    have : xs = [] := List.length_eq_zero_iff.mp hn.symm
    subst this
    exact wpAny_pure (h [] s .nil (Kb.refl _ _))
  | n + 1, [], s, Q, hn, h => by simp at hn
  | n + 1, a :: r, s, Q, hn, h => by
    unfold drawOrder
    refine wpAny_bind (wpAny_choose (by simp) fun i hi => ?_)
    rw [List.getElem?_eq_getElem hi]
    dsimp only
    refine wpAny_bind (wpAny_drawOrder n _ _ _ (by rw [List.length_eraseIdx_of_lt hi]; omega) fun ys s' hp k => wpAny_pure (h _ s' ?_ ?_))
    · exact (List.Perm.cons _ hp).trans (eraseIdx_perm hi)
    · exact Kb.trans ⟨_, _, _, rfl, fun _ _ _ e => e⟩ k
end

theorem standIn_led (t : SetTable) (n : Nat) : (t.standIn n).led = t.led ∧ (t.plain = false → (t.standIn n).plain = false) := ⟨rfl, fun _ => rfl⟩
theorem layNew_led (t : SetTable) (es : Array (Int × Value)) (h : Int) (x : Value) : (layNew t es h x).2.1.led = t.led ∧ (t.plain = false → (layNew t es h x).2.1.plain = false) := by
  unfold layNew
  split
  · rename_i slot wd _
    have e1 : (t.put slot).1.led = t.led := rfl
    have e2 : (t.put slot).1.plain = t.plain := rfl
    dsimp only
    unfold SetTable.orStandIn
    split
    · exact ⟨e1, fun h => e2.trans h⟩
    · exact ⟨(standIn_led _ _).1.trans e1, fun _ => rfl⟩
  · exact ⟨rfl, fun _ => rfl⟩
theorem relaid_led {t : SetTable} {hs : Array Int} {wanted : Nat} {t' : SetTable} {o : Array Nat} (h : t.relaid hs wanted = some (t', o)) : t'.led = t.led ∧ t'.plain = t.plain := by
  unfold SetTable.relaid SetTable.laid at h
  cases q : SetTable.layClean (SetTable.sizeAbove wanted - 1) hs with
  | none => rw [q] at h; cases h
  | some owner =>
    rw [q] at h
    have h' := Option.some.inj h
    have e := congrArg Prod.fst h'
    dsimp only at e
    subst e
    exact ⟨rfl, rfl⟩
theorem relayAll_led (t : SetTable) (es : Array (Int × Value)) (wanted : Nat) : (relayAll t es wanted).2.1.led = t.led ∧ (t.plain = false → (relayAll t es wanted).2.1.plain = false) := by
  unfold relayAll
  split
  · rename_i t' o h
    obtain ⟨e1, e2⟩ := relaid_led h
    dsimp only
    split
    · exact ⟨e1, fun h => e2.trans h⟩
    · exact ⟨rfl, fun _ => rfl⟩
  · exact ⟨rfl, fun _ => rfl⟩

/-! ## a set of strs -/
structure SO (prog : Program) (w : World) (o : Obj) (es : Array (Int × Value)) (ep : Nat) (t : SetTable) (xs : List Str) : Prop where
  ex : o.ExactSet
  d : o.data = .set es ep t
  el : ElemsOf (strKind prog w) es.toList
  mem : ∀ k : Str, k ∈ xs ↔ ∃ e ∈ es.toList, (strKind prog w).is k e.2 = true
  le : es.size ≤ xs.length
  fits : t.fits es.size = true
  led : byText w = false → t.led = true ∧ (es.size ≠ 0 → t.plain = false)
def SSet (prog : Program) (w : World) (h : Heap) (a : Addr) (xs : List Str) : Prop := ∃ o es ep t, h.get? a = some o ∧ SO prog w o es ep t xs

section
variable {prog : Program} {w : World} {A : Around} {E : Value → Shared → Prop} {s s' : Shared} {a : Addr} {xs : List Str}
theorem SSet.kb {W : List Addr} (x : SSet prog w s.heap a xs) (k : Kb W s s') (h : a ∉ W) : SSet prog w s'.heap a xs := by
  obtain ⟨o, es, ep, t, ho, r⟩ := x; exact ⟨o, es, ep, t, k.get h ho, r⟩
theorem SO.nv {o : Obj} {es ep t} (x : SO prog w o es ep t xs) : isVar o = false := by simp [isVar, x.ex.1, x.d]
theorem SSet.ch {W : List Addr} (x : SSet prog w s.heap a xs) (k : Ch W s s') (h : a ∉ W) : SSet prog w s'.heap a xs := by
  obtain ⟨o, es, ep, t, ho, r⟩ := x; exact ⟨o, es, ep, t, k.get h ho r.nv, r⟩
theorem SSet.of (x : SSet prog w s.heap a xs) (hb : xs.length < scanBound) : ∃ n, s.heap.SetOf (strKind prog w) a (fun k => decide (k ∈ xs)) n := by
  obtain ⟨o, es, ep, t, ho, r⟩ := x
  exact ⟨es.size, o, es, ep, t, ho, r.ex, r.d, r.el, fun k => by rw [decide_eq_true_eq]; exact r.mem k, Nat.lt_of_le_of_lt r.le hb, r.fits, rfl⟩
theorem sset_in {k : Str} {u : Tok} {Q : Value → Shared → Prop} (x : SSet prog w s.heap a xs) (hb : xs.length < scanBound) (h : ∀ s', Kb [] s s' → Q (.bool (decide (k ∈ xs))) s') : wpAny (model prog w) A (compareOp .In (.str k u) (.ref a)) Q E s := by
  obtain ⟨n, hS⟩ := x.of hb
  exact wpAny_inSet_of (k := k) (knd := strKind prog w) (by simp [PySem.strKind, Value.isStrOf]) rfl hS (h _ (toks _ _))

set_option maxHeartbeats 1000000 in
theorem sset_add {k : Str} {u : Tok} {Q : Bool → Shared → Prop} (x : SSet prog w s.heap a xs) (hb : xs.length + 1 < scanBound) (h : ∀ b s', Kb [a] s s' → SSet prog w s'.heap a (xs ++ [k]) → Q b s') : wpAny (model prog w) A (setAdd a (.str k u)) Q E s := by
  obtain ⟨o, es, ep, t, ho, r⟩ := x
  have hkey : (strKind prog w).is k (.str k u) = true := by simp [PySem.strKind, Value.isStrOf]
  have hbe : es.size + 1 < scanBound := Nat.lt_of_le_of_lt (Nat.succ_le_succ r.le) hb
  have hsc : (Value.str k u).scannable = true := rfl
  unfold setAdd
  refine wpAny_holding (wpAny_bind ((strKind prog w).pyHash hkey ?_))
  have k₁ : Kb [a] s { s with toks := s.toks + 1 } := toks _ _
  have ho₁ : ({ s with toks := s.toks + 1 } : Shared).heap.get? a = some o := ho
  generalize ({ s with toks := s.toks + 1 } : Shared) = s₁ at k₁ ho₁ ⊢
  unfold setAddHashed setAddHashedIn
  refine wpAny_holding (wpAny_bind (wpAny_setState_of ho₁ r.d r.fits ?_))
  dsimp only
  rw [byScan_of hsc (by omega) r.el]
  simp only [if_true]
  unfold setAddByScan
  refine wpAny_bind (wpAny_bind (wpAny_rule (wpAny_bind (wpAny_setScan_of hkey ho₁ r.d r.fits r.el ?_))))
  cases hr : List.findIdx? (fun e => (strKind prog w).is k e.2) es.toList with
  | some j =>
    dsimp only
    obtain ⟨hj, hpj, _⟩ := List.findIdx?_eq_some_iff_getElem.mp hr
    refine wpAny_pure (wpAny_pure (h _ s₁ k₁ ⟨o, es, ep, t, ho₁, r.ex, r.d, r.el, fun k' => ?_, by have := r.le; simp; omega, r.fits, r.led⟩))
    rw [List.mem_append, List.mem_singleton, r.mem k']
    refine ⟨fun hk => hk.elim id ?_, .inl⟩
    rintro rfl
    exact ⟨_, List.getElem_mem hj, hpj⟩
  | none =>
    dsimp only
    have hperm := layNew_perm t es ((strKind prog w).hash k) (.str k u)
    have hfits := layNew_fits t es ((strKind prog w).hash k) (.str k u)
    have hled := layNew_led t es ((strKind prog w).hash k) (.str k u)
    generalize layNew t es ((strKind prog w).hash k) (.str k u) = Lx at hperm hfits hled ⊢
    obtain ⟨es1, t1, wasDummy, gave⟩ := Lx
    dsimp only at hperm hfits hled ⊢
    rw [Array.toList_push] at hperm
    have hgw : ∀ (b : Bool) {s₁ : Shared} {Q' : Unit → Shared → Prop}, Q' () s₁ → wpAny (model prog w) A (match b with | true => rule "set.scan.the-table-gave-way" | false => pure ()) Q' E s₁ :=
      fun b s₁ Q' hq => by cases b <;> first | exact wpAny_pure hq | exact wpAny_rule hq
    have hel1 : ElemsOf (strKind prog w) es1.toList := (r.el.push hkey hsc).perm hperm
    have hsz1 : es1.size = es.size + 1 := by rw [← Array.length_toList, hperm.length_eq, List.length_append, Array.length_toList]; rfl
    have hmem1 : ∀ k', k' ∈ xs ++ [k] ↔ ∃ e ∈ es1.toList, (strKind prog w).is k' e.2 = true := fun k' => by
      have h1 := mem_push_iff (S := fun k => decide (k ∈ xs)) hkey (fun k' => by rw [decide_eq_true_eq]; exact r.mem k') hperm k'
      rw [← h1, List.mem_append, List.mem_singleton, Bool.or_eq_true, decide_eq_true_eq, decide_eq_true_eq]
    refine wpAny_bind (hgw _ ?_)
    have tail : ∀ (t2 : SetTable), t2.fits es1.size = true → t2.led = t1.led → t2.plain = false → wpAny (model prog w) A (do
        storeSet a es1 t2
        if (!wasDummy && t2.tooFull) = true then do
            (match (relayAll t2 es1 (SetTable.grown es1.size)).2.2 with | true => rule "set.scan.the-table-gave-way" | false => pure ())
            storeSet a (relayAll t2 es1 (SetTable.grown es1.size)).1 (relayAll t2 es1 (SetTable.grown es1.size)).2.1
            pure (some true)
          else pure (some true)) (fun r s' => ∃ b, r = some b ∧ Q b s') E s₁ := by
      intro t2 hf2 hl2 hp2
      have hz1 : es1.size ≤ sizeLine := fits_of_scanBound (by omega)
      refine wpAny_bind (wpAny_storeSet_of ho₁ r.d ?_ hz1)
      have hg : (s₁.heap.update a (Obj.putSet es1 t2)).get? a = some { o with data := .set es1 (ep + 1) t2 } := by
        have := Heap.get?_update_self (Obj.putSet es1 t2) ho₁ (by rw [putSet_of es1 t2 r.d]; rfl)
        rw [putSet_of es1 t2 r.d] at this; exact this
      have k₂ : Kb [a] s { s₁ with heap := s₁.heap.update a (Obj.putSet es1 t2) } := k₁.trans ⟨_, _, _, rfl, fun b o hb e => (Heap.get?_update_other _ _ (by rintro rfl; exact hb (by simp))).trans e⟩
      have hled2 : byText w = false → t2.led = true ∧ (es1.size ≠ 0 → t2.plain = false) := fun hbt => ⟨by rw [hl2, hled.1]; exact (r.led hbt).1, fun _ => hp2⟩
      split
      · have hp := relayAll_perm t2 es1 (SetTable.grown es1.size)
        have hfr := relayAll_fits t2 es1 (SetTable.grown es1.size)
        have hlr := relayAll_led t2 es1 (SetTable.grown es1.size)
        generalize relayAll t2 es1 (SetTable.grown es1.size) = Rl at hp hfr hlr ⊢
        obtain ⟨es2, t3, gave2⟩ := Rl
        dsimp only at hp hfr hlr ⊢
        have hsz : es2.size = es1.size := by rw [← Array.length_toList, hp.length_eq, Array.length_toList]
        refine wpAny_bind (hgw _ ?_)
        refine wpAny_bind (wpAny_storeSet_of hg rfl ?_ (fits_of_scanBound (by omega)))
        have hg2 : ((s₁.heap.update a (Obj.putSet es1 t2)).update a (Obj.putSet es2 t3)).get? a = some { ({ o with data := .set es1 (ep + 1) t2 } : Obj) with data := .set es2 (ep + 1 + 1) t3 } := by
          have := Heap.get?_update_self (Obj.putSet es2 t3) hg (by rw [putSet_of es2 t3 rfl]; rfl)
          rw [putSet_of es2 t3 rfl] at this; exact this
        refine wpAny_pure ⟨true, rfl, h _ _ (k₂.trans ⟨_, _, _, rfl, fun b o hb e => (Heap.get?_update_other _ _ (by rintro rfl; exact hb (by simp))).trans e⟩) ⟨_, es2, _, t3, hg2, r.ex, rfl, hel1.perm hp, fun k' => (hmem1 k').trans ⟨fun ⟨e, he, q⟩ => ⟨e, hp.mem_iff.mpr he, q⟩, fun ⟨e, he, q⟩ => ⟨e, hp.mem_iff.mp he, q⟩⟩, ?_, hfr, fun hbt => ⟨hlr.1.trans (hled2 hbt).1, fun _ => hlr.2 hp2⟩⟩⟩
        have := r.le; simp; omega
      · refine wpAny_pure ⟨true, rfl, h _ _ k₂ ⟨_, es1, _, t2, hg, r.ex, rfl, hel1, hmem1, ?_, hf2, hled2⟩⟩
        have := r.le; simp; omega
    have fin : ∀ {m : Sem (Option Bool)}, wpAny (model prog w) A m (fun r s' => ∃ b, r = some b ∧ Q b s') E s₁ → wpAny (model prog w) A m (fun r s' => wpAny (model prog w) A (match r with | some added => pure added | none => setAddHashedIn a (.str k u) ((strKind prog w).hash k) 99999) Q E s') E s₁ :=
      fun hm => wpAny_mono hm (fun r s' ⟨b, hr, hq⟩ => by subst hr; exact wpAny_pure hq) fun _ _ e => e
    cases hp1 : t1.plain with
    | true =>
      simp only [if_true]
      rw [hashByValue_scannable 8 hsc]
      refine wpAny_bind (wpAny_pure ?_)
      rw [show plainKind (.str k u) = false from rfl]
      simp only [Bool.false_eq_true, if_false]
      exact fin (tail _ (SetTable.fits_plain_off hfits) rfl rfl)
    | false =>
      simp only [Bool.false_eq_true, if_false]
      refine wpAny_bind (wpAny_pure ?_)
      simp only [if_true]
      exact fin (tail t1 hfits rfl hp1)
end
end Mine

-- part D2
namespace Mine
open PySem PySem.W PyProof.Rows
open Sem (wp)

theorem owner_si : Manifest.owners.lookup (String.ofList ['r', 'o', 't', 'a', 'r', 'e', 't', 'i', '_', 't', 'e', 's'].reverse) = some Manifest.sig_set_iterator := by kernel_rfl
theorem slot_si_next : Slot "set_iterator" "__next__" "set_iterator.__next__" :=
  .of (owner := "set_iterator") (n := "__next__") (by rw [typeLookup_type, builtinLookup_eq_fast]; kernel_rfl) (by decide +kernel) (by decide +kernel) (by decide +kernel)
    (by first | exact .inl (by decide +kernel) | exact .inr (by decide +kernel)) (by rw [isSubtype_type]; kernel_rfl)
theorem entry_si_next : entryFor table "set_iterator.__next__" = some Builtin.«set_iterator.__next__» := entryFor_of_tree (by kernel_rfl)
theorem args_si_next_1 (a : Value) : argsOk "set_iterator.__next__" ⟨[a], []⟩ := by
  unfold argsOk; rw [signature?_of (id := "set_iterator.__next__") (n := ['_', '_', 't', 'x', 'e', 'n', '_', '_']) (o := ['r', 'o', 't', 'a', 'r', 'e', 't', 'i', '_', 't', 'e', 's']) (by kernel_rfl) owner_si]; kernel_rfl
theorem entry_set_iter : entryFor table "set.__iter__" = some Builtin.«frozenset.__iter__» :=
  entryFor_alias (id' := "frozenset.__iter__") (by kernel_rfl) rfl (by decide +kernel) (by kernel_rfl)

abbrev siObj (x y : Value) (i n ep : Nat) : Obj := { cls := .type "set_iterator", data := .fields #[x, .int (i : Nat) 0, y, .int (n : Nat) 0, .int (ep : Nat) 0] }

section
variable {prog : Program} {w : World} {A : Around} {E : Value → Shared → Prop} {s : Shared} {a I : Addr} {xs : List Str} {o : Obj} {es : Array (Int × Value)} {ep : Nat} {t : SetTable}

theorem SO.small (r : SO prog w o es ep t xs) (hb : xs.length ≤ 1000) : es.size ≤ 1000 := Nat.le_trans r.le hb
theorem si_iter {Q : Value → Shared → Prop} (r : SO prog w o es ep t xs) (hb : xs.length ≤ 1000) (ho : s.heap.get? a = some o)
    (h1 : (byText w = true ∨ es.size ≤ 1) → ∀ I s', Kb [] s s' → s.heap.get? I = none → s'.heap.get? I = some (siObj (.int 0 0) (.ref a) 0 es.size ep) → Q (.ref I) s')
    (h2 : byText w = false → ∀ I T ys s', Kb [] s s' → s.heap.get? I = none → s.heap.get? T = none → I ≠ T → List.Perm ys (List.range es.size) → s'.heap.get? T = some { cls := .type "tuple", data := .seq (ys.map fun (i : Nat) => rawInt i).toArray } →
      s'.heap.get? I = some (siObj (.ref T) (.ref a) 0 es.size ep) → Q (.ref I) s') :
    wpAny (model prog w) A (pyIter (.ref a)) Q E s := by
  have h24 : sizeLine = 16777216 := rfl
  have hT : s.TypeIs (.ref a) "set" := ⟨o, ho, r.ex.1⟩
  have hz := r.small hb
  refine wpAny_pyIter_slot hT F.slot_set_iter (wpAny_call_entry F.slot_set_iter hT entry_set_iter ?_ (F.args_set_iter_1 _))
  unfold Builtin.«frozenset.__iter__» Builtin.Frozenset.slot0 slotArgs
  simp only [List.isEmpty_nil, Bool.not_true, Bool.false_eq_true, ↓reduceIte, bind_assoc, List.length_nil, bne_self_eq_false]
  unfold Builtin.Frozenset.addrOf Builtin.Frozenset.sizeOf
  refine wpAny_bind (wpAny_pure ?_)
  try dsimp only
  refine wpAny_bind (wpAny_pure ?_)
  refine wpAny_bind (wpAny_bind (wpAny_setEntries_of ho r.d r.fits (wpAny_pure ?_)))
  unfold setDrawn
  refine wpAny_bind (wpAny_bind (wpAny_setState_of ho r.d r.fits ?_))
  dsimp only
  unfold setsByText
  refine wpAny_bind (wpAny_bind (wpAny_askSetting (wpAny_pure (wpAny_pure ?_))))
  show wpAny _ _ (if (!byText w && (!t.plain && decide (es.size > 1))) = true then _ else _) _ _ _
  have plainWay : (byText w = true ∨ es.size ≤ 1) → wpAny (model prog w) A.in1 (do
          let first ← pure (rawInt 0)
          let __do_lift ← setEpoch a
          let __do_lift ← newFields "set_iterator" [first, rawInt 0, Value.ref a, rawInt ↑es.size, rawInt ↑__do_lift]
          ret __do_lift) (fun fin s' => ∃ v, fin = Fin.done (Flow.ret v) ∧ ∃ T' r, s'.TypeIs v T' ∧ typeLookup (Value.type T') (Str.ofString "__next__") = pure (some r) ∧ Q v s') E s := fun hc => by
    refine wpAny_bind (wpAny_pure (wpAny_bind (wpAny_setEpoch_of ho r.d r.fits ?_)))
    refine wpAny_bind (wpAny_newObj_type (wpAny_pure ⟨_, rfl, "set_iterator", _, ⟨_, Heap.get?_push_size _ rfl, rfl⟩, slot_si_next.lookup, ?_⟩))
    exact h1 hc s.heap.objs.size _ (Kb.push s _ _) (fresh_size _) (Heap.get?_push_size _ rfl)
  cases hbt : byText w with
  | true =>
    rw [show (!true && (!t.plain && decide (es.size > 1))) = false from rfl]
    simp only [Bool.false_eq_true, if_false]
    exact plainWay (.inl hbt)
  | false =>
    by_cases h1' : es.size ≤ 1
    · have : decide (es.size > 1) = false := by simp; omega
      rw [this]
      simp only [Bool.and_false, Bool.false_eq_true, if_false]
      exact plainWay (.inr h1')
    · have hp := (r.led hbt).2 (by omega)
      rw [hp, show decide (es.size > 1) = true from by simp; omega]
      simp only [Bool.not_false, Bool.and_self, if_true]
      refine wpAny_bind (wpAny_drawOrder es.size _ _ _ (by simp) fun ys s₂ hperm k₂ => ?_)
      have hlen : ys.length = es.size := by rw [hperm.length_eq]; simp
      have ho₂ := k₂.get0 ho
      refine wpAny_bind (wpAny_newObj_type ?_ (by show _ ≤ sizeLine; simp; omega))
      have k₃ : Kb [] s₂ { s₂ with heap := s₂.heap.push { cls := .type "tuple", data := .seq (ys.map fun (i : Nat) => rawInt i).toArray } } := Kb.push s₂ _ _
      have hT3 : ({ s₂ with heap := s₂.heap.push { cls := .type "tuple", data := .seq (ys.map fun (i : Nat) => rawInt i).toArray } } : Shared).heap.get? s₂.heap.objs.size = some { cls := .type "tuple", data := .seq (ys.map fun (i : Nat) => rawInt i).toArray } := Heap.get?_push_size _ rfl
      have hTn : s.heap.get? s₂.heap.objs.size = none := k₂.nope0 (fresh_size _)
      show wpAny (model prog w) A.in1 (do
          let __do_lift ← setEpoch a
          let __do_lift ← newFields "set_iterator" [.ref s₂.heap.objs.size, rawInt 0, Value.ref a, rawInt ↑es.size, rawInt ↑__do_lift]
          ret __do_lift) _ E { s₂ with heap := s₂.heap.push { cls := .type "tuple", data := .seq (ys.map fun (i : Nat) => rawInt i).toArray } }
      generalize ({ s₂ with heap := s₂.heap.push { cls := .type "tuple", data := .seq (ys.map fun (i : Nat) => rawInt i).toArray } } : Shared) = s₃ at k₃ hT3 ⊢
      generalize s₂.heap.objs.size = T at hT3 hTn ⊢
      refine wpAny_bind (wpAny_setEpoch_of (k₃.get0 ho₂) r.d r.fits ?_)
      refine wpAny_bind (wpAny_newObj_type (wpAny_pure ⟨_, rfl, "set_iterator", _, ⟨_, Heap.get?_push_size _ rfl, rfl⟩, slot_si_next.lookup, ?_⟩))
      refine h2 hbt s₃.heap.objs.size T ys _ ((k₂.trans k₃).trans (Kb.push s₃ _ _)) ((k₂.trans k₃).nope0 (fresh_size _)) hTn ?_ hperm (Heap.get?_push_of_some _ hT3) (Heap.get?_push_size _ rfl)
      rintro rfl
      rw [fresh_size] at hT3; cases hT3
end

/-! ## one step -/
section
variable {prog : Program} {w : World} {A : Around} {E : Value → Shared → Prop} {s : Shared} {a I : Addr} {xs : List Str} {o : Obj} {es : Array (Int × Value)} {ep : Nat} {t : SetTable} {first : Value} {i : Nat}

theorem si_stop {QF : Fin → Shared → Prop} {Q : Option Value → Shared → Prop} (hh : A.handled = none) (h : ∀ s', Kb [] s s' → Q none s') :
    wpAny (model prog w) A.in1 (do
          let __do_lift ← newExc (Value.type "StopIteration") []
          raiseNew __do_lift : Sem Fin) QF (fun e s' =>
      wpAny (model prog w) A
        (do
          let __do_lift ← isInstance e (Value.type "StopIteration")
          if __do_lift = true then pure none else throw e)
        Q E s') s := by
  refine wpAny_bind ?_
  simp only [newExc, newTuple]
  refine wpAny_bind (wpAny_newObj_type ?_ (by size_fits))
  refine wpAny_bind (m := firstArgMember _ _) (wpAny_of_eq (a := Value.none) (by first | rfl | (simp only [firstArgMember]; rfl)) ?_)
  refine wpAny_newObj_type ?_ (by size_fits)
  simp only [raiseNew]
  refine wpAny_bind (wpAny_handled ?_)
  rw [show A.in1.handled = none from hh]
  refine wpAny_bind (wpAny_pure (wpAny_throw ?_))
  refine wpAny_bind (wpAny_isInstance (T := "StopIteration") (b := true) ⟨_, Heap.get?_push_size _ rfl, rfl⟩ isSubtype_stop ?_)
  exact wpAny_pure (h _ ((Kb.push s _ s.toks).trans (Kb.push _ _ s.toks)))

theorem setField_kb {cls : Value} {vs : Array Value} {k : Nat} {x : Value} {Q : Unit → Shared → Prop} (ho : s.heap.get? I = some { cls := cls, data := .fields vs }) (hk : k < vs.size)
    (h : ∀ s', Kb [I] s s' → s'.heap.get? I = some { cls := cls, data := .fields (vs.setIfInBounds k x) } → Q () s') : wpAny (model prog w) A (setField (.ref I) k x) Q E s :=
  wpAny_setField_rec ho hk fun h' hg hs => h _ ⟨h', _, _, rfl, fun b o hb e => hs.extBut b o (by rintro rfl; exact hb (by simp)) e⟩ hg

theorem setNext_text {slot given : Nat} {Q : Option (Value × Nat) → Shared → Prop} (r : SO prog w o es ep t xs) (hbt : byText w = true) (ho : s.heap.get? a = some o)
    (h : Q (((pickOrder (w.params.setOrder a ep) es)[given]?).map fun e => (e.2, slot)) s) : wpAny (model prog w) A (setNext a slot given ep) Q E s := by
  unfold setNext
  refine wpAny_bind (wpAny_setState_of ho r.d r.fits ?_)
  dsimp only
  unfold setsByText
  refine wpAny_bind (wpAny_bind (wpAny_askSetting (wpAny_pure ?_)))
  show wpAny _ _ (if byText w = true then _ else _) _ _ _
  rw [if_pos hbt]
  simp only [bne_self_eq_false, Bool.false_eq_true, if_false]
  unfold setWalk setsByText
  refine wpAny_bind (wpAny_bind (wpAny_setState_of ho r.d r.fits ?_))
  dsimp only
  refine wpAny_bind (wpAny_bind (wpAny_askSetting (wpAny_pure ?_)))
  show wpAny _ _ (if byText w = true then _ else _) _ _ _
  rw [if_pos hbt]
  refine wpAny_bind (wpAny_askSetting (wpAny_pure ?_))
  exact wpAny_pure h

def slotGot (es : Array (Int × Value)) (t : SetTable) (slot : Nat) : Option (Value × Nat) := match es[SetTable.below t.place slot]?, t.place[SetTable.below t.place slot]? with | some (_, x), some j => some (x, j + 1) | _, _ => none
theorem setNext_one {slot given : Nat} {Q : Option (Value × Nat) → Shared → Prop} (r : SO prog w o es ep t xs) (hbt : byText w = false) (hz : es.size ≤ 1) (ho : s.heap.get? a = some o)
    (h : Q (slotGot es t slot) s) : wpAny (model prog w) A (setNext a slot given ep) Q E s := by
  unfold setNext
  refine wpAny_bind (wpAny_setState_of ho r.d r.fits ?_)
  dsimp only
  unfold setsByText
  refine wpAny_bind (wpAny_bind (wpAny_askSetting (wpAny_pure ?_)))
  show wpAny _ _ (if byText w = true then _ else _) _ _ _
  rw [if_neg (by rw [hbt]; decide)]
  show wpAny _ _ (if (!t.plain && decide (es.size > 1)) = true then _ else _) _ _ _
  rw [show decide (es.size > 1) = false from by simp; omega, Bool.and_false]
  simp only [Bool.false_eq_true, if_false]
  refine wpAny_bind (m := (if (!t.led && !es.isEmpty) = true then unsupported "set:maker-not-led" else pure ())) ?_
  rw [(r.led hbt).1]
  simp only [Bool.not_true, Bool.false_and, Bool.false_eq_true, if_false]
  exact wpAny_pure (wpAny_pure h)

theorem si_slot {x : Nat} {Q : Option Value → Shared → Prop} (hh : A.handled = none) (r : SO prog w o es ep t xs) (ho : s.heap.get? a = some o) (hI : s.heap.get? I = some (siObj (.int (x : Nat) 0) (.ref a) i es.size ep)) {got : Option (Value × Nat)}
    (hn : ∀ (Q' : Option (Value × Nat) → Shared → Prop) (E' : Value → Shared → Prop), Q' got s → wpAny (model prog w) A.in1 (setNext a x i ep) Q' E' s)
    (h : match got with
      | some (v, nx) => ∀ s', Kb [I] s s' → s'.heap.get? I = some (siObj (.int (nx : Nat) 0) (.ref a) (i + 1) es.size ep) → Q (some v) s'
      | none => ∀ s', Kb [I] s s' → Q none s') :
    wpAny (model prog w) A (pyNext (.ref I)) Q E s := by
  unfold pyNext
  refine wpAny_bind (wpAny_attempt (wpAny_callSpecial?_slot (name := Str.ofString "__next__") ⟨_, hI, rfl⟩ slot_si_next
    (wpAny_call_entry slot_si_next ⟨_, hI, rfl⟩ entry_si_next ?_ (args_si_next_1 _))))
  unfold Builtin.«set_iterator.__next__» slotArgs
  simp only [List.isEmpty_nil, Bool.not_true, Bool.false_eq_true, ↓reduceIte, bind_assoc, List.length_nil, bne_self_eq_false]
  refine wpAny_bind (wpAny_pure ?_)
  refine wpAny_bind (wpAny_fieldsOf hI rfl ?_)
  dsimp only
  refine wpAny_bind (wpAny_setEntries_of ho r.d r.fits ?_)
  simp only [bne_self_eq_false, Bool.false_eq_true, if_false, Int.toNat_natCast]
  refine wpAny_bind (hn _ _ ?_)
  cases got with
  | some p =>
    obtain ⟨v, nx⟩ := p
    dsimp only at h ⊢
    refine wpAny_bind (setField_kb hI (by simp) fun s₁ k₁ hI₁ => ?_)
    refine wpAny_bind (setField_kb hI₁ (by simp) fun s₂ k₂ hI₂ => ?_)
    exact wpAny_pure ⟨v, rfl, wpAny_pure (h s₂ (k₁.trans k₂) hI₂)⟩
  | none =>
    dsimp only at h ⊢
    refine wpAny_bind (setField_kb hI (by simp) fun s₁ k₁ hI₁ => ?_)
    exact si_stop hh fun s₂ k₂ => h s₂ (k₁.trans k₂.any)

theorem si_tup {T : Addr} {ys : List Nat} {Q : Option Value → Shared → Prop} (hh : A.handled = none) (r : SO prog w o es ep t xs) (ho : s.heap.get? a = some o) (hT : s.heap.get? T = some { cls := .type "tuple", data := .seq (ys.map fun (i : Nat) => rawInt i).toArray })
    (hI : s.heap.get? I = some (siObj (.ref T) (.ref a) i es.size ep))
    (h : match ys[i]? with
      | some p => ∃ e, es[p]? = some e ∧ ∀ s', Kb [I] s s' → s'.heap.get? I = some (siObj (.ref T) (.ref a) (i + 1) es.size ep) → Q (some e.2) s'
      | none => ∀ s', Kb [I] s s' → Q none s') :
    wpAny (model prog w) A (pyNext (.ref I)) Q E s := by
  unfold pyNext
  refine wpAny_bind (wpAny_attempt (wpAny_callSpecial?_slot (name := Str.ofString "__next__") ⟨_, hI, rfl⟩ slot_si_next
    (wpAny_call_entry slot_si_next ⟨_, hI, rfl⟩ entry_si_next ?_ (args_si_next_1 _))))
  unfold Builtin.«set_iterator.__next__» slotArgs
  simp only [List.isEmpty_nil, Bool.not_true, Bool.false_eq_true, ↓reduceIte, bind_assoc, List.length_nil, bne_self_eq_false]
  refine wpAny_bind (wpAny_pure ?_)
  refine wpAny_bind (wpAny_fieldsOf hI rfl ?_)
  dsimp only
  refine wpAny_bind (wpAny_setEntries_of ho r.d r.fits ?_)
  simp only [bne_self_eq_false, Bool.false_eq_true, if_false, Int.toNat_natCast]
  refine wpAny_bind (wpAny_seqItems hT rfl ?_)
  dsimp only
  have hget : (ys.map fun (i : Nat) => rawInt i).toArray[i]? = (ys[i]?).map fun (i : Nat) => rawInt i := by simp
  rw [hget]
  cases hy : ys[i]? with
  | some p =>
    rw [hy] at h
    obtain ⟨e, he, h⟩ := h
    simp only [Option.map_some, rawInt]
    refine wpAny_bind (m := setNextDrawn a _ ep) ?_
    unfold setNextDrawn
    refine wpAny_bind (wpAny_setState_of ho r.d r.fits ?_)
    simp only [bne_self_eq_false, Bool.false_eq_true, if_false, Int.toNat_natCast, he]
    refine wpAny_pure ?_
    refine wpAny_bind (setField_kb hI (by simp) fun s₁ k₁ hI₁ => ?_)
    exact wpAny_pure ⟨e.2, rfl, wpAny_pure (h s₁ k₁ hI₁)⟩
  | none =>
    rw [hy] at h
    simp only [Option.map_none]
    refine wpAny_bind (setField_kb hI (by simp) fun s₁ k₁ hI₁ => ?_)
    refine wpAny_bind (setField_kb hI₁ (by simp) fun s₂ k₂ hI₂ => ?_)
    exact si_stop hh fun s₃ k₃ => h s₃ (k₁.trans (k₂.trans k₃.any))
end
end Mine

-- part D3
namespace Mine
open PySem PySem.W PyProof.Rows
open Sem (wp)

structure WalkN (prog : Program) (w : World) (A : Around) (I : Addr) (n : Nat) (P : Nat → Value → Prop) (St : Nat → Heap → Prop) (fp : List Addr) : Prop where
  frame : ∀ i h h', St i h → (∀ b ∈ fp, ∀ o, h.get? b = some o → h'.get? b = some o) → St i h'
  item : ∀ i (s : Shared) (Q : Option Value → Shared → Prop) (E : Value → Shared → Prop), i < n → St i s.heap → (∀ v s', P i v → St (i + 1) s'.heap → Kb [I] s s' → Q (some v) s') → wpAny (model prog w) A (pyNext (.ref I)) Q E s
  done : ∀ (s : Shared) (Q : Option Value → Shared → Prop) (E : Value → Shared → Prop), St n s.heap → (∀ s', Kb [I] s s' → Q none s') → wpAny (model prog w) A (pyNext (.ref I)) Q E s

def keyOf : Value → Str | .str k _ => k | _ => Str.empty

section
variable {prog : Program} {w : World} {A : Around} {E : Value → Shared → Prop} {s : Shared} {a : Addr} {xs : List Str} {o : Obj} {es : Array (Int × Value)} {ep : Nat} {t : SetTable}

theorem SO.key (r : SO prog w o es ep t xs) {e : Int × Value} (he : e ∈ es.toList) : ∃ u, e.2 = .str (keyOf e.2) u := by
  obtain ⟨⟨k, hk, _⟩, _⟩ := r.el e he
  obtain ⟨u, hu⟩ := Value.isStrOf_shape hk
  exact ⟨u, by rw [hu]; rfl⟩
theorem SO.keys (r : SO prog w o es ep t xs) {l : List (Int × Value)} (hp : List.Perm l es.toList) (k : Str) : k ∈ l.map (fun e => keyOf e.2) ↔ k ∈ xs := by
  rw [r.mem k, List.mem_map]
  constructor
  · rintro ⟨e, he, rfl⟩
    have he' := hp.mem_iff.mp he
    obtain ⟨u, hu⟩ := r.key he'
    exact ⟨e, he', by rw [hu]; simp [PySem.strKind, Value.isStrOf, keyOf]⟩
  · rintro ⟨e, he, hk⟩
    obtain ⟨u, hu⟩ := Value.isStrOf_shape hk
    exact ⟨e, hp.mem_iff.mpr he, by rw [hu]; rfl⟩
theorem SO.at (r : SO prog w o es ep t xs) {l : List (Int × Value)} (hp : List.Perm l es.toList) {i : Nat} {e : Int × Value} (he : l[i]? = some e) : ∃ k u, (l.map (fun e => keyOf e.2))[i]? = some k ∧ e.2 = .str k u := by
  obtain ⟨u, hu⟩ := r.key (hp.mem_iff.mp (List.mem_of_getElem? he))
  exact ⟨keyOf e.2, u, by rw [List.getElem?_map, he]; rfl, hu⟩

def SrcSet (prog : Program) (w : World) (A : Around) (xv : Value) (s : Shared) (xs : List Str) : Prop :=
  ∀ (Q : Value → Shared → Prop) (E : Value → Shared → Prop), (∀ (as : List Str) s₂ I fp St, (∀ k, k ∈ as ↔ k ∈ xs) → Kb [] s s₂ → s.heap.get? I = none → I ∈ fp → WalkN prog w A I as.length (fun i v => ∃ k u, as[i]? = some k ∧ v = .str k u) St fp → St 0 s₂.heap →
    (∀ i h, St i h → ∀ b ∈ fp, ∃ o, h.get? b = some o ∧ isVar o = false) → Q (.ref I) s₂) → wpAny (model prog w) A (pyIter xv) Q E s

theorem si_nv {x y : Value} {i n ep : Nat} : isVar (siObj x y i n ep) = false := rfl

theorem src_set (hh : A.handled = none) (S : SSet prog w s.heap a xs) (hb : xs.length ≤ 1000) : SrcSet prog w A (.ref a) s xs := by
  obtain ⟨o, es, ep, t, ho, r⟩ := S
  intro Q E h
  refine si_iter r hb ho (fun hc I s' k hI hI' => ?_) (fun hbt I T ys s' k hI hT hIT hp hT' hI' => ?_)
  · have hne : I ≠ a := by rintro rfl; rw [ho] at hI; cases hI
    have hk : ∀ {s s' : Shared}, s.heap.get? a = some o → Kb [I] s s' → s'.heap.get? a = some o := fun e k => k.get (by simpa using Ne.symm hne) e
    by_cases hbt : byText w = true
    · have hp := pickOrder_perm (w.params.setOrder a ep) es
      refine h _ s' I [I, a] (fun i h => h.get? I = some (siObj (.int 0 0) (.ref a) i es.size ep) ∧ h.get? a = some o) (r.keys hp) k hI (by simp) ?_ ⟨hI', k.get0 ho⟩ ?_
      · refine ⟨fun i h h' st hk => ⟨hk I (by simp) _ st.1, hk a (by simp) _ st.2⟩, fun i s Q E hi st hQ => ?_, fun s Q E st hQ => ?_⟩
        · rw [List.length_map] at hi
          have hi' : i < (pickOrder (w.params.setOrder a ep) es).size := by simpa using hi
          refine si_slot (x := 0) (got := some ((pickOrder (w.params.setOrder a ep) es)[i].2, 0)) hh r st.2 st.1 (fun Q' E' q => setNext_text r hbt st.2 (by rw [Array.getElem?_eq_getElem hi']; exact q)) ?_
          intro s' k' hI''
          obtain ⟨ky, u, h1, h2⟩ := r.at hp (i := i) (e := (pickOrder (w.params.setOrder a ep) es)[i]) (by rw [Array.getElem?_toList, Array.getElem?_eq_getElem hi'])
          exact hQ _ s' ⟨ky, u, h1, h2⟩ ⟨hI'', hk st.2 k'⟩ k'
        · refine si_slot (x := 0) (got := none) hh r st.2 st.1 (fun Q' E' q => setNext_text r hbt st.2 ?_) fun s' k' => hQ s' k'
          rw [Array.getElem?_eq_none (by simp)]; exact q
      · rintro i h' st b hb'
        simp only [List.mem_cons, List.not_mem_nil, or_false] at hb'
        rcases hb' with rfl | rfl
        · exact ⟨_, st.1, si_nv⟩
        · exact ⟨_, st.2, r.nv⟩
    · have hbt : byText w = false := by simpa using hbt
      have hz : es.size ≤ 1 := hc.resolve_left (by rw [hbt]; decide)
      have hfit := r.fits
      simp only [SetTable.fits, Bool.and_eq_true, beq_iff_eq] at hfit
      obtain ⟨slotAt, hs0, hstep, hend⟩ : ∃ slotAt : Nat → Nat, slotAt 0 = 0 ∧ (∀ i (hi : i < es.size), slotGot es t (slotAt i) = some (es[i].2, slotAt (i + 1))) ∧
          slotGot es t (slotAt es.size) = none := by
        have hz2 : es.size = 0 ∨ es.size = 1 := by omega
        rcases hz2 with h0 | h1
        · have hpl : t.place = #[] := Array.size_eq_zero_iff.mp (hfit.1.trans h0)
          have hes : es = #[] := Array.size_eq_zero_iff.mp h0
          refine ⟨fun _ => 0, rfl, fun i hi => by omega, ?_⟩
          unfold slotGot
          rw [hpl, hes]
          rfl
        · obtain ⟨j, hj⟩ : ∃ j, t.place = #[j] := by
            have := hfit.1.trans h1
            exact ⟨t.place[0], by rw [Array.size_eq_one_iff] at this; obtain ⟨x, hx⟩ := this; simp [hx]⟩
          obtain ⟨e, he⟩ := Array.size_eq_one_iff.mp h1
          subst he
          have b0 : SetTable.below #[j] 0 = 0 := by simp [SetTable.below, SetTable.below.go]
          have b1 : SetTable.below #[j] (j + 1) = 1 := by simp [SetTable.below, SetTable.below.go]
          refine ⟨fun i => if i = 0 then 0 else j + 1, rfl, fun i hi => ?_, ?_⟩
          · have : i = 0 := by simp at hi; omega
            subst this
            unfold slotGot
            rw [hj]
            simp [b0]
          · unfold slotGot
            rw [hj]
            simp [b1]
      refine h _ s' I [I, a] (fun i h => h.get? I = some (siObj (.int (slotAt i : Nat) 0) (.ref a) i es.size ep) ∧ h.get? a = some o) (r.keys (List.Perm.refl _)) k hI (by simp) ?_ ⟨by rw [hs0]; exact hI', k.get0 ho⟩ ?_
      · refine ⟨fun i h h' st hk => ⟨hk I (by simp) _ st.1, hk a (by simp) _ st.2⟩, fun i s Q E hi st hQ => ?_, fun s Q E st hQ => ?_⟩
        · have hi' : i < es.size := by simpa using hi
          refine si_slot (got := some (es[i].2, slotAt (i + 1))) hh r st.2 st.1 (fun Q' E' q => setNext_one r hbt hz st.2 (by rw [hstep i hi']; exact q)) ?_
          intro s' k' hI''
          obtain ⟨ky, u, h1, h2⟩ := r.at (List.Perm.refl _) (i := i) (e := es[i]) (by rw [Array.getElem?_toList, Array.getElem?_eq_getElem hi'])
          exact hQ _ s' ⟨ky, u, h1, h2⟩ ⟨hI'', hk st.2 k'⟩ k'
        · rw [List.length_map, Array.length_toList] at st
          exact si_slot (got := none) hh r st.2 st.1 (fun Q' E' q => setNext_one r hbt hz st.2 (by rw [hend]; exact q)) fun s' k' => hQ s' k'
      · rintro i h' st b hb'
        simp only [List.mem_cons, List.not_mem_nil, or_false] at hb'
        rcases hb' with rfl | rfl
        · exact ⟨_, st.1, si_nv⟩
        · exact ⟨_, st.2, r.nv⟩
  · have hne : I ≠ a := by rintro rfl; rw [ho] at hI; cases hI
    have hlt : ∀ p ∈ ys, p < es.size := fun p hp' => by simpa using hp.mem_iff.mp hp'
    -- the drawn order of the elements
    have hperm : List.Perm (ys.filterMap fun p => es.toList[p]?) es.toList := by
      refine (hp.filterMap _).trans (List.Perm.of_eq ?_)
      have := filterMap_getElem?_range es
      simpa only [Array.getElem?_toList] using this
    have hlen : ∀ (l : List Nat), (∀ p ∈ l, p < es.size) → ∀ i : Nat, (l.filterMap fun p => es.toList[p]?)[i]? = (l[i]?).bind fun p => es.toList[p]? := by
      intro l
      induction l with
      | nil => intro _ i; simp
      | cons p l ih =>
        intro hl i
        have hp' : p < es.toList.length := by simpa using hl p (by simp)
        rw [List.filterMap_cons, List.getElem?_eq_getElem hp']
        cases i with
        | zero => simp [List.getElem?_eq_getElem hp']
        | succ i => simpa using ih (fun q hq => hl q (by simp [hq])) i
    have hll : (ys.filterMap fun p => es.toList[p]?).length = ys.length := by rw [hperm.length_eq, hp.length_eq]; simp
    refine h _ s' I [I, a, T] (fun i h => h.get? I = some (siObj (.ref T) (.ref a) i es.size ep) ∧ h.get? a = some o ∧ h.get? T = some { cls := .type "tuple", data := .seq (ys.map fun (i : Nat) => rawInt i).toArray }) (r.keys hperm) k hI (by simp) ?_ ⟨hI', k.get0 ho, hT'⟩ ?_
    · refine ⟨fun i h h' st hk => ⟨hk I (by simp) _ st.1, hk a (by simp) _ st.2.1, hk T (by simp) _ st.2.2⟩, fun i s Q E hi st hQ => ?_, fun s Q E st hQ => ?_⟩
      · rw [List.length_map, hll] at hi
        refine si_tup (ys := ys) hh r st.2.1 st.2.2 st.1 ?_
        rw [List.getElem?_eq_getElem hi]
        have hq := hlt ys[i] (List.getElem_mem hi)
        refine ⟨es[ys[i]], Array.getElem?_eq_getElem hq, fun s' k' hI'' => ?_⟩
        obtain ⟨ky, u, h1, h2⟩ := r.at hperm (i := i) (e := es[ys[i]]) (by rw [hlen ys hlt i, List.getElem?_eq_getElem hi, Option.bind_some, Array.getElem?_toList, Array.getElem?_eq_getElem hq])
        exact hQ _ s' ⟨ky, u, h1, h2⟩ ⟨hI'', k'.get (by simpa using Ne.symm hne) st.2.1, k'.get (by simpa using Ne.symm hIT) st.2.2⟩ k'
      · rw [List.length_map, hll] at st
        refine si_tup (ys := ys) hh r st.2.1 st.2.2 st.1 ?_
        rw [List.getElem?_eq_none (Nat.le_refl _)]
        exact fun s' k' => hQ s' k'
    · rintro i h' st b hb'
      simp only [List.mem_cons, List.not_mem_nil, or_false] at hb'
      rcases hb' with rfl | rfl | rfl
      · exact ⟨_, st.1, si_nv⟩
      · exact ⟨_, st.2.1, r.nv⟩
      · exact ⟨_, st.2.2, rfl⟩

theorem for_set {env : Env} {target : Str} {px : Pos} {body : List Stmt} {W₀ : List Addr} {s₀ : Shared} {m : Str → Option Value} {xv : Value} {Q : Flow → Shared → Prop}
    (J : List Str → Nat → (Str → Option Value) → Shared → Prop) (hsrc : SrcSet prog w A xv s xs) (hx : isV (env.kindOf target) = true)
    (a : Act W₀ env s₀ s m) (h0 : ∀ as s', (∀ k, k ∈ as ↔ k ∈ xs) → Kb [] s s' → J as 0 m s')
    (hJ : ∀ as I i m s' s'', s.heap.get? I = none → J as i m s' → Ch [I] s' s'' → J as i m s'')
    (turn : ∀ as i k u m s', (∀ k, k ∈ as ↔ k ∈ xs) → as[i]? = some k → J as i m s' → Act W₀ env s₀ s' (upd m target (.str k u)) →
      wpAny (model prog w) A (execs body env) (fun f s'' => match f with
        | .next | .cont => ∃ m'', Act W₀ env s₀ s'' m'' ∧ J as (i + 1) m'' s'' ∧ Ch [] s' s''
        | .brk => False
        | .ret v => Q (.ret v) s'') (fun _ _ => False) s')
    (done : ∀ as m s', (∀ k, k ∈ as ↔ k ∈ xs) → J as as.length m s' → Act W₀ env s₀ s' m → Q .next s') :
    wpAny (model prog w) A (pyIter xv) (fun it s₂ =>
      codeAny (model prog w) A (.forLoop (.Name target px) it body [] env) (fun r s' => match r with | .ok f => Q f s' | .error e => cameBackBy (model prog w) A env E e s') s₂) E s := by
  refine hsrc _ _ fun as s₂ I fp St has k₂ hI hIm Wk hst hnv => ?_
  have hIs₀ : s₀.heap.get? I = none ∨ I ∈ W₀ := by
    by_cases hw : I ∈ W₀
    · exact .inr hw
    · refine .inl ?_
      cases q : s₀.heap.get? I with
      | none => rfl
      | some o => rw [a.base.get hw q] at hI; cases hI
  refine codeAny_forLoop (fun k s' => ∃ i m', k = as.length + 1 - i ∧ i ≤ as.length ∧ St i s'.heap ∧ J as i m' s' ∧ Act W₀ env s₀ s' m') ?_ (as.length + 1) ⟨0, m, rfl, Nat.zero_le _, hst, h0 as s₂ has k₂, a.kp k₂⟩
  rintro k s' ⟨i, m', rfl, hi, hst', hj, a'⟩
  have nvI := hnv _ _ hst' I hIm
  by_cases hlt : i < as.length
  · refine Wk.item i _ _ _ hlt hst' fun v s₁ hPv hst₁ k₁ => ?_
    obtain ⟨b, u, hb, rfl⟩ := hPv
    have a₁ := a'.kb k₁ (by simpa using nvI) (by simpa using hIs₀.symm)
    refine wpAny_assign_Name (a₁.store hx fun s₃ a₃ c₃ => ?_)
    have hj₃ : J as i m' s₃ := hJ _ _ _ _ _ _ hI hj (k₁.ch.trans c₃.any)
    have hst₃ : St (i + 1) s₃.heap := Wk.frame _ _ _ hst₁ fun b hb o e => by
      obtain ⟨o', e', v'⟩ := hnv _ _ hst₁ b hb
      rw [e] at e'; cases e'
      exact c₃.get0 e v'
    refine wpAny_mono (turn as i b u m' s₃ has hb hj₃ a₃) (fun f s₄ h₄ => ?_) fun _ _ e => e.elim
    have nxt : (∃ m'', Act W₀ env s₀ s₄ m'' ∧ J as (i + 1) m'' s₄ ∧ Ch [] s₃ s₄) → ∃ k', k' < as.length + 1 - i ∧ ∃ i m', k' = as.length + 1 - i ∧ i ≤ as.length ∧ St i s₄.heap ∧ J as i m' s₄ ∧ Act W₀ env s₀ s₄ m' := by
      rintro ⟨m'', a₄, hj₄, c₄⟩
      refine ⟨as.length + 1 - (i + 1), by omega, i + 1, m'', rfl, hlt, ?_, hj₄, a₄⟩
      refine Wk.frame _ _ _ hst₃ fun b hb o e => ?_
      obtain ⟨o', e', v'⟩ := hnv _ _ hst₃ b hb
      rw [e] at e'; cases e'
      exact c₄.get0 e v'
    cases f with
    | next => exact nxt h₄
    | cont => exact nxt h₄
    | brk => exact h₄.elim
    | ret v => exact h₄
  · have hin : i = as.length := by omega
    subst hin
    refine Wk.done _ _ _ hst' fun s₁ k₁ => ?_
    exact wpAny_execs_nil (done as m' _ has (hJ _ _ _ _ _ _ hI hj k₁.ch) (a'.kb k₁ (by simpa using nvI) (by simpa using hIs₀.symm)))
end
end Mine

-- part D4
namespace Mine
open PySem PySem.W PyProof.Rows
open Sem (wp)

section
variable {prog : Program} {w : World} {A : Around} {E : Value → Shared → Prop} {s : Shared}

abbrev newSetObj (w : World) : Obj := { cls := .type "set", dict := none, data := .set #[] 0 (.fresh 0 0 (!byText w)) }
theorem SSet.new {h : Heap} {S : Addr} (ho : h.get? S = some (newSetObj w)) : SSet prog w h S [] :=
  ⟨_, #[], 0, _, ho, ⟨⟨rfl, rfl, rfl⟩, rfl, fun e he => by simp at he, fun k => by simp, Nat.le_refl _, rfl, fun hb => ⟨by show (!byText w) = true; rw [hb]; rfl, fun hn => absurd rfl hn⟩⟩⟩

theorem set_new_1 (a : Value) {Q₁ : Value → Shared → Prop} (h : Q₁ (.ref s.heap.objs.size) { s with heap := s.heap.push (newSetObj w) }) :
    codeAny (model prog w) A (.call (.builtin "set.__new__") ⟨[.type "set", a], []⟩) (wants Q₁ E) s := by
  refine codeAny_of_tree ?_
  show wpAny _ A.in1 (do checkBuiltinCall "set.__new__" ⟨[.type "set", a], []⟩; again (.builtin "set.__new__" ⟨[.type "set", a], []⟩)) _ _ s
  refine wpAny_bind (wpAny_of_eq (F.newCall_set_1 a) (wpAny_pure ⟨plainId_quiet F.plain_set_new _, codeAny_builtin F.entry_set_new ?_⟩))
  rw [Around.under_plainId F.plain_set_new _]
  unfold Builtin.«set.__new__» Builtin.Frozenset.newClass
  have hsub := sub_set_self
  obtain ⟨hp, g, d, tk, os⟩ := s
  dsimp only
  wp_walk
  refine wpAny_askSetting (wpAny_pure ?_)
  dsimp only
  simp only [newObj]
  refine wpAny_bind (wpAny_alloc (wpAny_pure ?_))
  exact wpAny_pure h

theorem set_loop {R : Result → Shared → Prop} {S I l : Addr} {vs : List Value} {xs : List Str} (hP : Paired (fun v k => ∃ u, v = .str k u) vs xs) (hSI : S ≠ I) (hSl : S ≠ l) (hIl : l ≠ I) (hb : xs.length + 1 < scanBound) (hh : A.handled = none) :
    ∀ (k i : Nat) (s : Shared), xs.length - i = k → i ≤ xs.length → s.heap.IsListIter I l i → s.heap.IsList l vs.toArray → SSet prog w s.heap S (xs.take i) →
      (∀ s', Kb [S, I] s s' → SSet prog w s'.heap S xs → R (.ok (.ret .none)) s') → codeAny (model prog w) A (.builtin "set.update.loop" ⟨[.ref S, .ref I], []⟩) R s := by
  have hlen := hP.length
  intro k
  induction k with
  | zero =>
    intro i s hk hi hit hl hS hR
    have hin : i = xs.length := by omega
    subst hin
    refine codeAny_builtin F.entry_set_update_loop ?_
    rw [Around.under_plainId F.plain_set_update_loop _]
    show wpAny _ A.in1 (pyNext (.ref I) >>= _) _ _ s
    refine wpAny_bind (wpAny_pyNext_list_end hh hit hl (by simp [hlen]) fun h' he' => ?_)
    show wpAny _ A.in1 (ret Value.none) _ _ _
    have k₁ : Kb [S, I] s { s with heap := h' } := ⟨h', _, _, rfl, fun b o hb e => he' b o (by rintro rfl; exact hb (by simp)) e⟩
    refine wpAny_pure (hR _ k₁ ?_)
    rw [List.take_length] at hS
    obtain ⟨o, es, ep, t, ho, r⟩ := hS
    exact ⟨o, es, ep, t, he' _ _ hSI ho, r⟩
  | succ k ih =>
    intro i s hk hi hit hl hS hR
    have hlt : i < xs.length := by omega
    have hltv : i < vs.length := by omega
    obtain ⟨kx, h1, u, h2⟩ := Mine.Paired.get hP i vs[i] (List.getElem?_eq_getElem hltv)
    refine codeAny_builtin F.entry_set_update_loop ?_
    rw [Around.under_plainId F.plain_set_update_loop _]
    show wpAny _ A.in1 (pyNext (.ref I) >>= _) _ _ s
    refine wpAny_bind (wpAny_pyNext_list_item hit hl (x := vs[i]) (by simp [hltv]) fun h' hit' hs' => ?_)
    rw [h2]
    have k₁ : Kb [S, I] s { s with heap := h' } := ⟨h', _, _, rfl, fun b o hb e => hs'.extBut b o (by rintro rfl; exact hb (by simp)) e⟩
    have hl₁ : h'.IsList l vs.toArray := hl.extBut hs'.extBut hIl
    have hS₁ : SSet prog w h' S (xs.take i) := by
      obtain ⟨o, es, ep, t, ho, r⟩ := hS
      exact ⟨o, es, ep, t, hs'.extBut _ _ hSI ho, r⟩
    show wpAny _ A.in1 (holding [Value.str kx u] (setAdd S (.str kx u)) >>= _) _ _ _
    refine wpAny_bind (wpAny_holding (sset_add (s := { s with heap := h' }) hS₁ (by rw [List.length_take]; omega) fun b s₂ k₂ hS₂ => ?_))
    have htake : xs.take i ++ [kx] = xs.take (i + 1) := by rw [List.take_add_one, h1]; rfl
    rw [htake] at hS₂
    have kk : ∀ {b o}, b ≠ S → h'.get? b = some o → s₂.heap.get? b = some o := fun hb e => k₂.get (by simpa using hb) e
    refine wpAny_pure ⟨plainId_quiet F.plain_set_update_loop _, ih (i + 1) s₂ (by omega) hlt ?_ ?_ hS₂ fun s₃ k₃ hS₃ => hR s₃ (k₁.trans ((k₂.mono (by simp)).trans k₃)) hS₃⟩
    · obtain ⟨o, ho, r⟩ := hit'; exact ⟨o, kk (Ne.symm hSI) ho, r⟩
    · obtain ⟨o, ho, r⟩ := hl₁; exact ⟨o, kk (Ne.symm hSl) ho, r⟩

set_option maxHeartbeats 3200000 in
theorem call_set_strs {l : Addr} {vs : List Value} {xs : List Str} {Q : Value → Shared → Prop} (hh : A.handled = none) (hl : s.heap.PlainList l vs.toArray) (hP : Paired (fun v k => ∃ u, v = .str k u) vs xs) (hb : xs.length + 1 < scanBound)
    (h : ∀ S s', Kb [] s s' → s.heap.get? S = none → SSet prog w s'.heap S xs → Q (.ref S) s') :
    wpAny (model prog w) A (call (.type "set") [.ref l]) Q E s := by
  obtain ⟨c, tl, hmro⟩ := F.called_set.mro
  have hmade := F.called_set.made
  have hsub := F.called_set.sub
  refine wpAny_call (codeAny_of_tree ?_)
  show wpAny _ _ (callAny (.type "set") _) _ _ _
  refine wpAny_pure ⟨Code.quiet_builtin _ (by decide +kernel), codeAny_builtin F.entry_type_call ?_⟩
  rw [Around.under_plain (weight_type_call_type "set" [.ref l] []) rfl]
  have h1 := F.called_set.notType
  have h2 := F.called_set.canCreate
  have hct := F.typeCall_set_1 (.ref l)
  repeat (any_goals (first | assumption | wp_step))
  refine codeAny_mono (set_new_1 (.ref l) (E := E) (Q₁ := fun obj s₁ => obj = .ref s.heap.objs.size ∧ s₁ = { s with heap := s.heap.push (newSetObj w) }) ⟨rfl, rfl⟩) fun r s₁ hr => ?_
  cases r with
  | error e => exact hr
  | ok fl =>
    cases fl with
    | ret obj =>
      obtain ⟨rfl, rfl⟩ := hr
      have hS : (s.heap.push (newSetObj w)).get? s.heap.objs.size = some (newSetObj w) := Heap.get?_push_size _ rfl
      have hT : Shared.TypeIs { s with heap := s.heap.push (newSetObj w) } (.ref s.heap.objs.size) "set" := ⟨_, hS, rfl⟩
      have hli := F.called_set.init.lookup
      have hbi := F.called_set.init.bind (.ref s.heap.objs.size)
      repeat (any_goals (first | assumption | wp_step))
      refine codeAny_mono (codeAny_call_builtin (R := wants (fun r s₂ => r = .none ∧ Kb [] s s₂ ∧ SSet prog w s₂.heap s.heap.objs.size xs) E) F.called_set.init.plain F.entry_set_init (check_set_init_1 hT ?_)) fun r₂ s₂ hr₂ => ?_
      · obtain ⟨nl, hol⟩ := hl
        have hol' : (s.heap.push (newSetObj w)).get? l = some { cls := .type "list", dict := none, data := .seq vs.toArray nl, slots := #[] } := Heap.get?_push_of_some _ hol
        have hsls := F.sub_list_set
        have hslf := F.sub_list_frozenset
        have hne : (Value.type "list" == Value.type "dict") = false := by decide
        have hl1 : (s.heap.push (newSetObj w)).IsList l vs.toArray := ⟨_, hol', rfl, nl, rfl⟩
        unfold Builtin.«set.__init__» noKeywords Builtin.Frozenset.updateFrom
        generalize hPI : pyIter = PI
        wp_walk
        subst hPI
        refine wpAny_pyIter_list hl1 ?_
        refine wpAny_bind (wpAny_runValue ?_)
        have hlS : l < s.heap.objs.size := Heap.lt_size hol
        have hh3 : A.in1.in1.in1.handled = none := by simp [hh]
        have hsz : (s.heap.push (newSetObj w)).objs.size = s.heap.objs.size + 1 := Heap.size_push ..
        have hneI : l ≠ (s.heap.push (newSetObj w)).objs.size := by
          rw [hsz]; exact Nat.ne_of_lt (Nat.lt_succ_of_lt hlS)
        have hSI : s.heap.objs.size ≠ (s.heap.push (newSetObj w)).objs.size := by
          rw [hsz]; exact Nat.ne_of_lt (Nat.lt_succ_self _)
        refine set_loop hP hSI (Nat.ne_of_gt hlS) hneI hb (by simp [hh]) xs.length 0 _ (by omega) (Nat.zero_le _) ⟨_, Heap.get?_push_size _ rfl, rfl, rfl⟩ (hl1.push _) (SSet.new (Heap.get?_push_of_some _ hS)) fun s₃ k₃ hS₃ => ?_
        refine wpAny_pure ?_
        show wpAny _ _ (ret Value.none) _ _ _
        refine wpAny_pure ⟨rfl, ?_, hS₃⟩
        obtain ⟨h', tk, dr, rfl, kk⟩ := k₃
        refine ⟨h', tk, dr, rfl, fun b o _ e => kk b o ?_ (Heap.get?_push_of_some _ (Heap.get?_push_of_some _ e))⟩
        simp only [List.mem_cons, List.not_mem_nil, or_false, not_or]
        have hlt := Heap.lt_size e
        rw [hsz]
        exact ⟨Nat.ne_of_lt hlt, Nat.ne_of_lt (Nat.lt_succ_of_lt hlt)⟩
      · cases r₂ with
        | error e => exact hr₂
        | ok fl₂ =>
          cases fl₂ with
          | ret r =>
            obtain ⟨rfl, hk', hS'⟩ := hr₂
            repeat (any_goals (first | assumption | wp_step))
            exact h _ _ hk' (fresh_size _) hS'
          | _ => exact hr₂.elim
    | _ => exact hr.elim

theorem set_new_0 {Q₁ : Value → Shared → Prop} (h : Q₁ (.ref s.heap.objs.size) { s with heap := s.heap.push (newSetObj w) }) :
    codeAny (model prog w) A (.call (.builtin "set.__new__") ⟨[.type "set"], []⟩) (wants Q₁ E) s := by
  refine codeAny_of_tree ?_
  show wpAny _ A.in1 (do checkBuiltinCall "set.__new__" ⟨[.type "set"], []⟩; again (.builtin "set.__new__" ⟨[.type "set"], []⟩)) _ _ s
  refine wpAny_bind (wpAny_of_eq F.newCall_set_0 (wpAny_pure ⟨plainId_quiet F.plain_set_new _, codeAny_builtin F.entry_set_new ?_⟩))
  rw [Around.under_plainId F.plain_set_new _]
  unfold Builtin.«set.__new__» Builtin.Frozenset.newClass
  have hsub := sub_set_self
  obtain ⟨hp, g, d, tk, os⟩ := s
  dsimp only
  wp_walk
  refine wpAny_askSetting (wpAny_pure ?_)
  dsimp only
  simp only [newObj]
  refine wpAny_bind (wpAny_alloc (wpAny_pure ?_))
  exact wpAny_pure h

set_option maxHeartbeats 3200000 in
theorem call_set_none {Q : Value → Shared → Prop} (h : ∀ S s', Kb [] s s' → s.heap.get? S = none → SSet prog w s'.heap S [] → Q (.ref S) s') :
    wpAny (model prog w) A (call (.type "set") []) Q E s := by
  obtain ⟨c, tl, hmro⟩ := F.called_set.mro
  have hmade := F.called_set.made
  have hsub := F.called_set.sub
  refine wpAny_call (codeAny_of_tree ?_)
  show wpAny _ _ (callAny (.type "set") _) _ _ _
  refine wpAny_pure ⟨Code.quiet_builtin _ (by decide +kernel), codeAny_builtin F.entry_type_call ?_⟩
  rw [Around.under_plain (weight_type_call_type "set" [] []) rfl]
  have h1 := F.called_set.notType
  have h2 := F.called_set.canCreate
  have hct := F.typeCall_set_0
  repeat (any_goals (first | assumption | wp_step))
  refine codeAny_mono (set_new_0 (E := E) (Q₁ := fun obj s₁ => obj = .ref s.heap.objs.size ∧ s₁ = { s with heap := s.heap.push (newSetObj w) }) ⟨rfl, rfl⟩) fun r s₁ hr => ?_
  cases r with
  | error e => exact hr
  | ok fl =>
    cases fl with
    | ret obj =>
      obtain ⟨rfl, rfl⟩ := hr
      have hS : (s.heap.push (newSetObj w)).get? s.heap.objs.size = some (newSetObj w) := Heap.get?_push_size _ rfl
      have hT : Shared.TypeIs { s with heap := s.heap.push (newSetObj w) } (.ref s.heap.objs.size) "set" := ⟨_, hS, rfl⟩
      have hli := F.called_set.init.lookup
      have hbi := F.called_set.init.bind (.ref s.heap.objs.size)
      repeat (any_goals (first | assumption | wp_step))
      refine codeAny_mono (codeAny_call_builtin (R := wants (fun r s₂ => r = .none ∧ Q (.ref s.heap.objs.size) s₂) E) F.called_set.init.plain F.entry_set_init (check_set_init hT ?_)) fun r₂ s₂ hr₂ => ?_
      · unfold Builtin.«set.__init__» noKeywords
        wp_walk
        exact ⟨rfl, h _ _ (Kb.push s _ _) (fresh_size _) (SSet.new hS)⟩
      · cases r₂ with
        | error e => exact hr₂
        | ok fl₂ =>
          cases fl₂ with
          | ret r =>
            obtain ⟨rfl, hq⟩ := hr₂
            repeat (any_goals (first | assumption | wp_step))
          | _ => exact hr₂.elim
    | _ => exact hr.elim
end
end Mine

-- part D5
namespace Mine
open PySem PySem.W PyProof.Rows
open Sem (wp)

structure Own (h : Heap) (x dx : Addr) (m : Str → Option Value) : Prop where
  at_ : h.get? x = some (instObj 103 dx)
  d : ∃ o es n, h.get? dx = some o ∧ o.cls = .type "dict" ∧ o.data = .dict es n ∧ StrKeys es ∧ (∀ y, nsFind es y = m y) ∧ es.size ≤ 100

theorem lookIn_str {o : Obj} {es : Array DictEntry} {n : Nat} {name : Str} (hd : o.data = .dict es n) (hk : StrKeys es) : lookIn name o = some (nsFind es name) := by
  unfold lookIn
  rw [hd]
  dsimp only
  unfold nsFind findBy
  rw [← Array.find?_toList]
  cases hf : es.toList.find? (fun e => e.key.isStr name) with
  | some e => rfl
  | none =>
    have hany : es.toList.any (·.refKey) = false := by
      rw [List.any_eq_false]; intro e he q
      obtain ⟨n', t', h⟩ := hk e (by simpa using he)
      simp [DictEntry.refKey, h] at q
    rw [hany]; rfl

section
variable {prog : Program} {w : World} {A : Around} {E : Value → Shared → Prop} {s s' : Shared} {x dx : Addr} {m : Str → Option Value}
theorem Own.kb {W : List Addr} (i : Own s.heap x dx m) (k : Kb W s s') (h1 : x ∉ W) (h2 : dx ∉ W) : Own s'.heap x dx m := by
  obtain ⟨h, o, es, n, ho, r⟩ := i; exact ⟨k.get h1 h, o, es, n, k.get h2 ho, r⟩
theorem Own.ch {W : List Addr} (i : Own s.heap x dx m) (k : Ch W s s') (h1 : x ∉ W) (h2 : dx ∉ W) : Own s'.heap x dx m := by
  obtain ⟨h, o, es, n, ho, hc, hd, r⟩ := i
  refine ⟨k.get h1 h rfl, o, es, n, k.get h2 ho ?_, hc, hd, r⟩
  have : (Value.type "dict" == Value.type "frame") = false := by decide +kernel
  simp [isVar, hc, hd, this]
theorem Own.inst (i : Own s.heap x dx m) : ∃ o, InstAt s.heap x (instObj 103 dx) 103 (some o) ∧ (∀ name, lookIn name o = some (m name)) := by
  obtain ⟨h, o, es, n, ho, hc, hd, hk, hm, _⟩ := i
  exact ⟨o, ⟨h, rfl, rfl, ho⟩, fun name => by rw [lookIn_str hd hk, hm]⟩

theorem Own.get {name : Str} {v : Value} {expr : Bool} {Q : Value → Shared → Prop} (X : (KH w).In s.heap) (i : Own s.heap x dx m) (hv : m name = some v) (h : ∀ s', Kb [] s s' → Q v s') (hh : handedIn v = true := by rfl) (ha : findIn (KH w) (.ref 103) name = some none := by rfl) :
    wpAny (model prog w) A (getAttr (.ref x) name expr) Q E s := by
  obtain ⟨o, I, hl⟩ := i.inst
  exact get_value X I (by rfl) (findObj_own (by rfl) ha (by rfl) (by rw [hl, hv])) hh (h _ (toks _ _))

theorem nsSet_own {a : Addr} {o : Obj} {es : Array DictEntry} {ep : Nat} {name : Str} {v : Value} {M : Model} {Q : Unit → Shared → Prop} (ho : s.heap.get? a = some o) (hd : o.data = .dict es ep) (hk : StrKeys es)
    (h : ∀ h' o' es' ep', h'.get? a = some o' → o'.cls = o.cls → o'.data = .dict es' ep' → StrKeys es' → (∀ x, nsFind es' x = if x = name then some v else nsFind es x) → es'.size ≤ es.size + 1 → Heap.SameBut a s.heap h' →
      Q () { s with heap := h', toks := s.toks + 1 }) : wpAny M A (nsSet a name v) Q E s := fun Γ p _ => by
  simp only [nsSet, strHash, Sem.wp_bind', Sem.wp_cmd_ask, Sem.wp_pure', Sem.wp_cmd_mkText]
  rw [Sem.wp_loadPart_of M Γ _ p { s with toks := s.toks + 1 } (o := o) _ ho]
  have hany : es.any (·.refKey) = false := by
    rw [Array.any_eq_false']; intro e he; obtain ⟨n, t, h⟩ := hk e he; simp [DictEntry.refKey, h]
  simp only [hd, aRefKeyMayBeTheName_eq, aRefKeyMayBeTheNameByArray, hany, Bool.and_false, Bool.false_eq_true, if_false, Sem.wp_cmd_updatePart]
  obtain ⟨c, d, dt, sl⟩ := o
  simp only at hd
  subst hd
  refine ⟨by rw [ho]; rfl, ?_⟩
  cases hi : es.findIdx? (·.key.isStr name) with
  | some i =>
    refine h _ _ _ _ (Heap.get?_update_self _ ho (by simp only [Obj.putName_eq, Obj.putNameByArray, hi]; rfl)) (by simp only [Obj.putName_eq, Obj.putNameByArray, hi]) (by simp only [Obj.putName_eq, Obj.putNameByArray, hi]; rfl) (hk.modify _ _) (fun x => ?_) (by simp) (Heap.SameBut.update ..)
    exact findBy_modify (fun n v => v.isStr n) Value.isStr_inj es name x v i hi
  | none =>
    refine h _ _ _ _ (Heap.get?_update_self _ ho (by simp only [Obj.putName_eq, Obj.putNameByArray, hi]; rfl)) (by simp only [Obj.putName_eq, Obj.putNameByArray, hi]) (by simp only [Obj.putName_eq, Obj.putNameByArray, hi]; rfl) (hk.push _ _ _ _) (fun x => ?_) (by simp) (Heap.SameBut.update ..)
    exact findBy_push (fun n v => v.isStr n) es name x _ _ v (fun y => by
      show (name == y) = decide (y = name)
      by_cases h : y = name
      · subst h; simp
      · have : ¬ name = y := fun e => h e.symm
        simp [h, this]) hi

theorem Own.set {name : Str} {v : Value} {Q : Unit → Shared → Prop} (X : (KH w).In s.heap) (i : Own s.heap x dx m) (hsz : ∀ o es n, s.heap.get? dx = some o → o.data = .dict es n → es.size ≤ 99) (h : ∀ s', Kb [dx] s s' → Own s'.heap x dx (upd m name v) → (∀ o es n o' es' n', s.heap.get? dx = some o → o.data = .dict es n → s'.heap.get? dx = some o' → o'.data = .dict es' n' → es'.size ≤ es.size + 1) → Q () s') (ht : takerIn (KH w) 103 name = some none := by rfl) :
    wpAny (model prog w) A (setAttr (.ref x) name v) Q E s := by
  obtain ⟨od, I, hl⟩ := i.inst
  refine set_plain X I (by rfl) ?_
  refine osa_open (s := { s with toks := s.toks + 1 }) (ox := instObj 103 dx) (od := some od) X I (by rfl) ht fun b => ?_
  obtain ⟨hx, o, es, n, ho, hc, hd, hk, hm, _⟩ := i
  have hne : x ≠ dx := by
    rintro rfl; rw [hx] at ho; cases ho; cases hd
  obtain ⟨cd, hcd, hdct⟩ := any_some (p := (·.hasDict)) (x := clsIn (KH w) 103) (by rfl)
  refine wpAny_bind (wpAny_pure (wpAny_bind (wpAny_bind (wpAny_loadPart (o := instObj 103 dx) hx (wpAny_bind (looks_clsIn X hcd _ _ _ _ (fun _ _ e => e) ?_))))))
  rw [hdct]
  refine wpAny_pure (a := some dx) (wpAny_bind (wpAny_pure (wpAny_bind ?_)))
  refine nsSet_own (s := { s with toks := s.toks + 1 }) ho hd hk fun h' o' es' ep' ho' hc' hd' hk' hm' hs' hsb => ?_
  have hle := hsz o es n ho hd
  refine wpAny_bind (wpAny_lookBehind ho' (by rw [hd']; exact pastItsLine_dict (by rw [sizeLine_eq]; omega)) ?_)
  refine wpAny_pure (h _ ⟨h', _, _, rfl, fun b o hb e => hsb.extBut b o (by rintro rfl; exact hb (by simp)) e⟩ ⟨hsb.extBut _ _ hne hx, o', es', ep', ho', hc'.trans hc, hd', hk', fun y => ?_, by omega⟩ ?_)
  · rw [hm', upd]; split
    · rfl
    · exact hm y
  · intro o2 es2 n2 o3 es3 n3 e1 e2 e3 e4
    rw [ho] at e1; cases e1; rw [hd] at e2; cases e2
    rw [ho'] at e3; cases e3; rw [hd'] at e4; cases e4
    exact hs'

theorem Own.method {name : Str} {f : Addr} {pl : Sem Bool} {Q : Value × List Value → Shared → Prop} (X : (KH w).In s.heap) (i : Own s.heap x dx m) (hn : m name = none) (h : Q (.ref f, [.ref x]) s)
    (hf : findIn (KH w) (.ref 103) name = some (some (.ref f)) := by rfl) (ht : typeIn (KH w) (.ref f) = some (.type "function") := by rfl) : wpAny (model prog w) A (getMethod (.ref x) name pl) Q E s := by
  obtain ⟨o, I, hl⟩ := i.inst
  exact method_fn X I (by rfl) (by rfl) hf ht (by show (lookIn name o).map _ = _; rw [hl, hn]; rfl) h

theorem Call_method_own {env : Env} {o e₁ e₂ : Expr} {name : Str} {apos pos : Pos} {Q : Value → Shared → Prop} {a : Addr} {ob : Obj} {fd : FuncData}
    (h : wpAny (model prog w) A (eval o env) (fun ov s₁ => ∀ pl, wpAny (model prog w) A (getMethod ov name pl) (fun r s₂ => ∃ self, r = (.ref a, [self]) ∧
      wpAny (model prog w) A (spliced (backTo pos (starEach [e₁, e₂] env))) (fun vs s₃ => (s₃.heap.get? a = some ob ∧ ob.data = .func fd) ∧ wpAny (model prog w) A (call (.ref a) (self :: vs)) Q E s₃) E s₂) E s₁) E s)
    (hbase : attributeBase o name env (eval o env) = eval o env) (hs : starEach [e₁, e₂] env = [(false, eval e₁ env), (false, eval e₂ env)]) (hline : (apos.endLine == pos.line) = true) :
    wpAny (model prog w) A (eval (.Call (.Attribute o name apos) [e₁, e₂] [] pos) env) Q E s := by
  rw [arm_eval_Call, hbase]
  refine wpAny_bind (wpAny_mono h (fun ov s₁ h₁ => ?_) fun _ _ e => e)
  refine wpAny_bind (wpAny_standAt ?_)
  have hform : methodCallForm ([e₁, e₂].length + ([] : List Keyword).length) (backTo pos (starEach [e₁, e₂] env)) (backToKw pos (keywordEach [] env)) = true := by rw [hs]; rfl
  have hpos : methodCallPos true o env apos pos = pure pos := by unfold methodCallPos; simp [hline]
  unfold methodCall
  rw [hform]
  refine wpAny_bind (wpAny_holding (wpAny_mono (h₁ _) (fun r s₂ h₂ => ?_) fun _ _ e => e))
  obtain ⟨self, rfl, h₂⟩ := h₂
  refine wpAny_bind (wpAny_of_eq hpos ?_)
  exact Calls.callWith_function (first := [self]) (o := ob) (fd := fd) (evalArgs_gen (by rw [hs]; rfl) h₂)
end
end Mine

-- part D6
namespace Mine
open PySem PySem.W PyProof.Rows
open Sem (wp)
open PySem.SeqAt

theorem stored_at {kvs : List (Str × Value)} {k : Str} {v : Value} (k' : Str) : valueAt (stored kvs k v) k' = if k' = k then some v else valueAt kvs k' := by
  unfold stored
  split
  · rename_i h
    unfold valueAt
    induction kvs with
    | nil => simp at h
    | cons kv kvs ih =>
      by_cases h1 : kv.1 = k
      · by_cases h2 : k' = k
        · subst h2; simp [h1]
        · have h3 : ¬ kv.1 = k' := fun e => h2 (e.symm.trans h1)
          have h4 : ¬ k = k' := fun e => h2 e.symm
          simp only [List.map_cons, h1, if_true, List.find?_cons, h4, decide_false, if_neg h2]
          by_cases h5 : kvs.any (fun kv => decide (kv.1 = k)) = true
          · have := ih h5
            rw [if_neg h2] at this
            exact this
          · congr 1
            have : kvs.map (fun kv => if kv.1 = k then (kv.1, v) else kv) = kvs := by
              have h6 : ∀ x ∈ kvs, (if x.1 = k then (x.1, v) else x) = x := fun x hx => by
                rw [if_neg]; intro e; exact h5 (List.any_eq_true.mpr ⟨x, hx, by simpa using e⟩)
              exact List.map_congr_left h6 |>.trans (by simp)
            have h7 : (List.map (fun kv => if kv.1 = k then (k, v) else kv) kvs) = kvs := by
              rw [← this]
              simp only [List.map_map]
              refine List.map_congr_left fun x hx => ?_
              have h8 : ¬ x.1 = k := fun e => h5 (List.any_eq_true.mpr ⟨x, hx, by simpa using e⟩)
              simp [h8]
            first | rw [h7] | rw [this]
      · have h' : kvs.any (fun kv => decide (kv.1 = k)) = true := by simpa [h1] using h
        have := ih h'
        simp only [List.map_cons, if_neg h1, List.find?_cons]
        by_cases h2 : kv.1 = k'
        · have h3 : ¬ k' = k := fun e => h1 (h2.trans e)
          simp [h2, h3]
        · simp only [h2, decide_false]
          exact this
  · rename_i h
    unfold valueAt
    by_cases h2 : k' = k
    · subst h2
      have : kvs.find? (fun kv => decide (kv.1 = k')) = none := by
        rw [List.find?_eq_none]
        intro x hx e
        exact h (List.any_eq_true.mpr ⟨x, hx, e⟩)
      simp [List.find?_append, this]
    · have h4 : ¬ k = k' := fun e => h2 e.symm
      rw [List.find?_append]
      cases kvs.find? (fun kv => decide (kv.1 = k')) <;> simp [h4, h2]

structure Rd (prog : Program) (w : World) (h : Heap) (x dx ms dl g : Addr) (xs : List Str) (F : Str → Option Nat) (n : Nat) : Prop where
  own : ∃ m, Own h x dx m ∧ m (Str.ofString "_mods") = some (.ref ms) ∧ m (Str.ofString "_dirs") = some (.ref dl) ∧ m (Str.ofString "_ignore") = some (.ref g) ∧ m (Str.ofString "names") = none
  set : SSet prog w h ms xs
  dirs : h.PlainList dl #[]
  map : ∃ kvs, h.DictOf (PySem.strKind prog w) g kvs ∧ kvs.length ≤ n ∧ ∀ k, match valueAt kvs k with | some v => ∃ a t, F k = some a ∧ v = .int (a : Nat) t | none => F k = none
  ne : g ≠ x ∧ g ≠ dx ∧ g ≠ ms ∧ g ≠ dl
  sys : (g == sysModules) = false

section
variable {p prog : Program} {w : World} {hB : Heap} {A : Around} {E : Value → Shared → Prop} {s s' s₀ : Shared} {x dx ms dl g : Addr} {xs : List Str} {F : Str → Option Nat} {n : Nat} {R : Result → Shared → Prop}

theorem dictOfC {W : List Addr} {kvs : List (Str × Value)} (m : s.heap.DictOf (PySem.strKind prog w) g kvs) (k : Ch W s s') (h : g ∉ W) : s'.heap.DictOf (PySem.strKind prog w) g kvs := by
  obtain ⟨o, es, ep, ho, hx, hd, r⟩ := m
  refine ⟨o, es, ep, k.get h ho ?_, hx, hd, r⟩
  have : (Value.type "dict" == Value.type "frame") = false := by decide +kernel
  simp [isVar, hx.1, hd, this]
theorem Rd.ch {W : List Addr} (i : Rd prog w s.heap x dx ms dl g xs F n) (k : Ch W s s') (h1 : x ∉ W) (h2 : dx ∉ W) (h3 : ms ∉ W) (h4 : dl ∉ W) (h5 : g ∉ W) : Rd prog w s'.heap x dx ms dl g xs F n := by
  obtain ⟨⟨m, ho, r⟩, hs, hd, ⟨kvs, hm, hl⟩, ne, sys⟩ := i
  exact ⟨⟨m, ho.ch k h1 h2, r⟩, hs.ch k h3, plC hd k h4, ⟨kvs, dictOfC hm k h5, hl⟩, ne, sys⟩
theorem Rd.ch0 (i : Rd prog w s.heap x dx ms dl g xs F n) (k : Ch [] s s') : Rd prog w s'.heap x dx ms dl g xs F n := i.ch k (by simp) (by simp) (by simp) (by simp) (by simp)
theorem Rd.gObj (i : Rd prog w s.heap x dx ms dl g xs F n) : ∃ o, s.heap.get? g = some o ∧ isVar o = false := by
  obtain ⟨kvs, ⟨o, es, ep, ho, hx, hd, _⟩, _⟩ := i.map
  have : (Value.type "dict" == Value.type "frame") = false := by decide +kernel
  exact ⟨o, ho, by simp [isVar, hx.1, hd, this]⟩

/-- the dict after a name is noted -/
theorem Rd.note (i : Rd prog w s.heap x dx ms dl g xs F n) (hn : n ≤ 5000) {k : Str} {u : Tok} {a : Nat} {t : Tok} {Q : Unit → Shared → Prop} (h : ∀ s', Kb [g] s s' → Rd prog w s'.heap x dx ms dl g xs (fun y => if y = k then some a else F y) (n + 1) → Q () s') :
    wpAny (model prog w) A (setItem (.ref g) (.str k u) (.int (a : Nat) t)) Q E s := by
  have h24 : sizeLine = 16777216 := rfl
  obtain ⟨⟨m, ho, r⟩, hs, hd, ⟨kvs, hm, hl, hF⟩, ne, sys⟩ := i
  refine wpAny_setItem_pairs (k := k) (by simp [PySem.strKind, Value.isStrOf]) hm (fun h' hm' hsb => ?_) (by omega)
  have kb : Kb [g] s { s with heap := h', toks := s.toks + 1 } := ⟨h', _, _, rfl, fun b o hb e => hsb.extBut b o (by rintro rfl; exact hb (by simp)) e⟩
  have n1 : x ∉ [g] := by simpa using Ne.symm ne.1
  have n2 : dx ∉ [g] := by simpa using Ne.symm ne.2.1
  have n3 : ms ∉ [g] := by simpa using Ne.symm ne.2.2.1
  have n4 : dl ∉ [g] := by simpa using Ne.symm ne.2.2.2
  refine h _ kb ⟨⟨m, ho.kb kb n1 n2, r⟩, hs.kb kb n3, plK hd kb n4, ⟨_, hm', ?_, fun k' => ?_⟩, ne, sys⟩
  · unfold stored; split <;> simp <;> omega
  · rw [stored_at]
    by_cases e : k' = k
    · subst e
      simp only [if_true]
      exact ⟨a, t, rfl, rfl⟩
    · simp only [if_neg e]
      exact hF k'
end
end Mine

-- part D7
namespace Mine
open PySem PySem.W PyProof.Rows
open Sem (wp)
open PySem.SeqAt
open Builtin Builtin.Str

def starts (y m : List Nat) : Bool := Txt.startswith (mk y) (mk m)
def isIn (ns : List (List Nat)) (y : List Nat) : Bool := ns.contains y || ns.any fun m => starts y (m ++ [46])
theorem mk_inj {a b : List Nat} (h : mk a = mk b) : a = b := by simpa [mk] using h
theorem mem_mk {ns : List (List Nat)} {y : List Nat} : mk y ∈ ns.map mk ↔ y ∈ ns := by
  rw [List.mem_map]
  exact ⟨fun ⟨a, h, e⟩ => mk_inj e ▸ h, fun h => ⟨y, h, rfl⟩⟩

section
variable {p prog : Program} {w : World} {hB : Heap} {A : Around} {E : Value → Shared → Prop} {s s' s₀ : Shared} {x dx ms dl g : Addr} {xs : List Str} {F : Str → Option Nat} {n : Nat} {R : Result → Shared → Prop}
variable {env : Env} {W₀ : List Addr} {m : Str → Option Value}

theorem Bd.kin (B : Bd p w hB) (X : Ext hB s.heap) : (KH w).In s.heap := fun a o e => B.at_ X e

/-- `self.name` -/
theorem selfAttr (B : Bd p w hB) (X : Ext hB s.heap) (a : Act W₀ env s₀ s m) (hself : m (Str.ofString "self") = some (.ref x)) {mo : Str → Option Value} (o : Own s.heap x dx mo) {name : Str} {v : Value} {np ap : Pos} {Q : Value → Shared → Prop} (hv : mo name = some v)
    (h : ∀ s', Kb [] s s' → Q v s') (hk : isV (env.kindOf (Str.ofString "self")) = true := by rfl) (hh : handedIn v = true := by rfl) (ha : findIn (KH w) (.ref 103) name = some none := by rfl) :
    wpAny (model prog w) A (eval (.Attribute (.Name (Str.ofString "self") np) name ap) env) Q E s :=
  Attribute_any_ (a.name hk hself (Own.get (B.kin X) o hv h hh ha))

theorem note_ret (B : Bd p w hB) (X : Ext hB s.heap) (a : Act W₀ env s₀ s m) (hself : m (Str.ofString "self") = some (.ref x)) {k : Str} {u : Tok} (hmod : m (Str.ofString "modulename") = some (.str k u))
    (i : Rd prog w s.heap x dx ms dl g xs F n) (hn : n ≤ 5000) {ai : Int} {b : Nat} (hb : ai = (b : Nat)) {p1 p2 p3 p4 p5 p6 p7 p8 : Pos} {k5 k7 : Nat} {rest : List Stmt} {QF : Flow → Shared → Prop}
    (h : ∀ s' t, Kb [g] s s' → Rd prog w s'.heap x dx ms dl g xs (fun y => if y = k then some b else F y) (n + 1) → QF (.ret (.int (b : Nat) t)) s')
    (hk : isV (env.kindOf (Str.ofString "self")) = true := by rfl) (hk' : isV (env.kindOf (Str.ofString "modulename")) = true := by rfl)
    (hs : swapsWith (.Constant (.int ai) k5 p5) (some (.Subscript (.Attribute (.Name (Str.ofString "self") p1) (Str.ofString "_ignore") p2) (.Name (Str.ofString "modulename") p3) p4)) p6.line env = pure false := by rfl) :
    wpAny (model prog w) A (execs (.Assign [.Subscript (.Attribute (.Name (Str.ofString "self") p1) (Str.ofString "_ignore") p2) (.Name (Str.ofString "modulename") p3) p4] (.Constant (.int ai) k5 p5) p6 :: .Return (some (.Constant (.int ai) k7 p7)) p8 :: rest) env) QF E s := by
  subst hb
  obtain ⟨mo, ho, r1, r2, r3, r4⟩ := i.own
  refine wpAny_execs_cons (wpAny_Assign_Subscript (cInt fun t₁ s₁ k₁ => ?_) hs)
  refine selfAttr B (X.trans k₁.ext) (a.kp k₁) hself (ho.kb k₁ (by simp) (by simp)) r3 (fun s₂ k₂ => ?_) hk
  refine ((a.kp k₁).kp k₂).name hk' hmod ?_
  refine ((i.ch0 k₁.ch).ch0 k₂.ch).note hn fun s₃ k₃ i₃ => ?_
  exact execs_ret (cInt fun t₄ s₄ k₄ => h s₄ t₄ ((k₁.trans k₂).any.trans (k₃.trans k₄.any)) (i₃.ch0 k₄.ch))

theorem Rd.more (i : Rd prog w s.heap x dx ms dl g xs F n) : Rd prog w s.heap x dx ms dl g xs F (n + 1) := by
  obtain ⟨ho, hs, hd, ⟨kvs, hm, hl, hF⟩, ne, sys⟩ := i
  exact ⟨ho, hs, hd, ⟨kvs, hm, by omega, hF⟩, ne, sys⟩

set_option maxHeartbeats 4000000 in
theorem call_names (B : Bd p w hB) (X : Ext hB s.heap) (r : Rm A 2) {ns : List (List Nat)} {y : List Nat} {u : Tok} {path : Value} (hx : hB.get? g = none) (i : Rd prog w s.heap x dx ms dl g (ns.map mk) F n) (hn : n ≤ 5000) (hns : ns.length ≤ 1000) (hnl : ∀ z ∈ ns, z.length ≤ 1000) (hy : y.length ≤ 1000) (hp : path = .none ∨ ∃ z t, path = .str z t)
    (h : ∀ s' t b, Kb [g] s s' → (b : Nat) = (match F (mk y) with | some b => b | none => if isIn ns y || path == .none then 1 else 0) →
      Rd prog w s'.heap x dx ms dl g (ns.map mk) (fun z => if z = mk y then some b else F z) (n + 1) → R (.ok (.ret (.int (b : Nat) t))) s') :
    codeAny (model prog w) A (.call (.ref 100) ⟨[.ref x, path, .str (mk y) u], []⟩) R s := by
  have h24 : sizeLine = 16777216 := rfl
  refine call_fn B X r 100 _ [(Str.ofString "self", .ref x), (Str.ofString "filename", path), (Str.ofString "modulename", .str (mk y) u)] (bodyC 100) (fun s₁ a => ?_) (hb := by intro x hx; simp only [List.mem_cons, List.not_mem_nil, or_false] at hx; rcases hx with rfl | rfl | rfl <;> rfl)
  have X₁ : Ext hB s₁.heap := X.trans a.base.ext
  have i₁ := i.ch0 a.base.ch
  obtain ⟨mo, ho, r1, r2, r3, r4⟩ := i₁.own
  have hself : bindAll (fun _ => none) [(Str.ofString "self", .ref x), (Str.ofString "filename", path), (Str.ofString "modulename", .str (mk y) u)] (Str.ofString "self") = some (.ref x) := by rfl
  have hfile : bindAll (fun _ => none) [(Str.ofString "self", .ref x), (Str.ofString "filename", path), (Str.ofString "modulename", .str (mk y) u)] (Str.ofString "filename") = some path := by rfl
  have hmod : bindAll (fun _ => none) [(Str.ofString "self", .ref x), (Str.ofString "filename", path), (Str.ofString "modulename", .str (mk y) u)] (Str.ofString "modulename") = some (.str (mk y) u) := by rfl
  generalize bindAll (fun _ => none) [(Str.ofString "self", .ref x), (Str.ofString "filename", path), (Str.ofString "modulename", .str (mk y) u)] = m at a hself hfile hmod
  have hsb : (ns.map mk).length < scanBound := by rw [List.length_map]; have : scanBound = 4096 := rfl; omega
  have a := a.weak (W₁ := [g]) (by simp)
  -- in the notes
  obtain ⟨kvs, hd, hl, hF⟩ := i₁.map
  refine wpAny_execs_cons (wpAny_If (wpAny_isTrue_Compare1 (a.name (by rfl) hmod (selfAttr B X₁ a hself ho r3 fun s₂ k₂ => ?_))))
  have hd₂ := dictOfC hd k₂.ch (by simp)
  refine wpAny_in_of (k := mk y) (by simp [PySem.strKind, Value.isStrOf]) i₁.sys hd₂.mapOf (wpAny_truthy_bool ?_)
  have k₃ : Kb [] s₁ { s₂ with toks := s₂.toks + 1 } := k₂.trans (toks _ _)
  generalize ({ s₂ with toks := s₂.toks + 1 } : Shared) = s₃ at k₃ ⊢
  have i₃ := i₁.ch0 k₃.ch
  have a₃ := a.kp k₃
  have X₃ := X₁.trans k₃.ext
  have ho₃ := ho.kb k₃ (by simp) (by simp)
  have hFy := hF (mk y)
  cases hv : valueAt kvs (mk y) with
  | some v =>
    rw [hv] at hFy
    obtain ⟨b, t, hFb, rfl⟩ := hFy
    simp only [Option.isSome_some, if_true]
    refine execs_ret (Subscript_ (selfAttr B X₃ a₃ hself ho₃ r3 fun s₄ k₄ => (a₃.kp k₄).name (by rfl) hmod ?_))
    have hd₄ := dictOfC hd (k₃.trans k₄).ch (by simp)
    refine subscriptTail_builtin_flat hd₄.typeIs slot_dict_getitem.lookup (wpAny_getItem_of (k := mk y) (by simp [PySem.strKind, Value.isStrOf]) hd₄.mapOf hv ⟨fun _ => by simp, ?_⟩) (by with_unfolding_all rfl)
    have k₅ := (a.base.trans (k₃.trans (k₄.trans (toks s₄ (s₄.toks + 1)))).any)
    refine h _ t b k₅ (by rw [hFb]) ?_
    have i₅ := i₁.ch0 (k₃.trans (k₄.trans (toks s₄ (s₄.toks + 1)))).ch
    have e : (fun z => if z = mk y then some b else F z) = F := by
      funext z; split
      · rename_i e; rw [e, hFb]
      · rfl
    rw [e]
    exact i₅.more
  | none =>
    rw [hv] at hFy
    have hFy : F (mk y) = none := hFy
    simp only [Option.isSome_none, Bool.false_eq_true, if_false]
    refine wpAny_execs_nil ?_
    have fin : ∀ (b : Nat) s' t, Kb [g] s s' → (b = if isIn ns y || path == .none then 1 else 0) → Rd prog w s'.heap x dx ms dl g (ns.map mk) (fun z => if z = mk y then some b else F z) (n + 1) → R (.ok (.ret (.int (b : Nat) t))) s' :=
      fun b s' t k e i => h s' t b k (by rw [hFy]; exact e) i
    -- in the set
    refine wpAny_execs_cons (wpAny_If (wpAny_isTrue_Compare1 (a₃.name (by rfl) hmod (selfAttr B X₃ a₃ hself ho₃ r1 fun s₄ k₄ => ?_))))
    refine sset_in ((i₃.ch0 k₄.ch).set) hsb fun s₅ k₅ => wpAny_truthy_bool ?_
    have k₃₅ := k₄.trans k₅
    have a₅ := a₃.kp k₃₅
    have X₅ := X₃.trans k₃₅.ext
    have i₅ := i₃.ch0 k₃₅.ch
    have hmem : decide (mk y ∈ ns.map mk) = ns.contains y := by rw [Bool.eq_iff_iff, decide_eq_true_eq, mem_mk, List.contains_iff_mem]
    rw [hmem]
    cases hc : ns.contains y with
    | true =>
      simp only [if_true]
      exact note_ret B X₅ a₅ hself hmod i₅ hn (by rfl) fun s₆ t₆ k₆ i₆ => fin 1 s₆ t₆ (a₅.base.trans k₆) (by simp only [isIn, hc, Bool.true_or, if_true]) i₆
    | false =>
      simp only [Bool.false_eq_true, if_false]
      refine wpAny_execs_nil (wpAny_execs_cons (wpAny_For ?_))
      refine selfAttr B X₅ a₅ hself (ho₃.kb k₃₅ (by simp) (by simp)) r1 fun s₆ k₆ => ?_
      have a₆ := a₅.kp k₆
      have i₆ := i₅.ch0 k₆.ch
      have X₆ := X₅.trans k₆.ext
      refine for_set (fun as i m' s' => Ch [] s₆ s' ∧ (∀ z : Str, z ≠ Str.ofString "mod" → m' z = m z) ∧ ∀ j < i, ∀ z, as[j]? = some (mk z) → starts y (z ++ [46]) = false)
        (src_set (by exact r.h) i₆.set (by rw [List.length_map]; exact hns)) (by rfl) a₆ ?_ ?_ ?_ ?_
      · exact fun as s' _ k => ⟨k.ch, fun _ _ => rfl, fun j hj => by omega⟩
      · rintro as I i m' s' s'' hI ⟨c, hm, hj⟩ c'
        refine ⟨?_, hm, hj⟩
        obtain ⟨h1, tk1, d1, e1, q1⟩ := c
        obtain ⟨h2, tk2, d2, e2, q2⟩ := c'
        subst e1
        refine ⟨h2, tk2, d2, e2, fun b o hb hv e => q2 b o ?_ hv (q1 b o hb hv e)⟩
        rw [List.mem_singleton]; rintro rfl; rw [hI] at e; cases e
      · rintro as i k u' m' s' has hk ⟨c, hm, hj⟩ a'
        obtain ⟨z, hz, rfl⟩ := List.mem_map.mp ((has k).mp (List.mem_of_getElem? hk))
        have hzl := hnl z hz
        have X' : Ext hB s'.heap := X.kb a'.base (by simpa using Or.inr hx)
        refine wpAny_execs_cons (wpAny_If (wpAny_isTrue_value (Call_method1 (by rfl) (by rfl) (by rfl) (a'.name (by rfl) (upd_ne (str_ne (by decide)) ((hm _ (str_ne (by decide))).trans hmod)) ?_))))
        refine SB.startswith (wpAny_BinOp (a'.name (by rfl) upd_eq (cStr fun t₇ s₇ k₇ => ?_)))
        rw [show Str.ofString "." = mk [46] from by decide +kernel]
        refine addStr (by simp; omega) fun t₈ s₈ k₈ => ⟨_, _, rfl, wpAny_truthy_bool ?_⟩
        have k₇₈ := k₇.trans k₈
        have i₈ := i₆.ch0 (c.trans k₇₈.ch)
        have hse : Txt.startswith (mk y) (mk (z ++ [46])) = starts y (z ++ [46]) := rfl
        rw [hse]
        cases hst : starts y (z ++ [46]) with
        | true =>
          simp only [if_true]
          exact note_ret B (X'.trans k₇₈.ext) (a'.kp k₇₈) (upd_ne (str_ne (by decide)) ((hm _ (str_ne (by decide))).trans hself)) (upd_ne (str_ne (by decide)) ((hm _ (str_ne (by decide))).trans hmod)) i₈ hn (by rfl) fun s₉ t₉ k₉ i₉ =>
            fin 1 s₉ t₉ ((a'.kp k₇₈).base.trans k₉) (by
              have : isIn ns y = true := by
                unfold isIn; rw [Bool.or_eq_true]; exact .inr (List.any_eq_true.mpr ⟨z, hz, hst⟩)
              simp only [this, Bool.true_or, if_true]) i₉
        | false =>
          simp only [Bool.false_eq_true, if_false]
          refine wpAny_execs_nil (wpAny_execs_nil ⟨_, a'.kp k₇₈, ⟨c.trans k₇₈.ch, fun q hq => upd_ne hq (hm q hq), fun j hj' z' hz' => ?_⟩, k₇₈.ch⟩)
          by_cases hji : j < i
          · exact hj j hji z' hz'
          · have : j = i := by omega
            subst this
            rw [hk] at hz'
            rw [← mk_inj (Option.some.inj hz')]; exact hst
      · rintro as m' s' has ⟨c, hm, hj⟩ a'
        have X' : Ext hB s'.heap := X.kb a'.base (by simpa using Or.inr hx)
        have i' := i₆.ch0 c
        have hself' := (hm _ (str_ne (by decide))).trans hself
        have hmod' := (hm _ (str_ne (by decide))).trans hmod
        have hfile' := (hm _ (str_ne (by decide))).trans hfile
        have hnot : isIn ns y = false := by
          unfold isIn
          rw [hc, Bool.false_or, List.any_eq_false]
          intro z hz q
          obtain ⟨j, hj1, hj2⟩ := List.getElem_of_mem ((has (mk z)).mpr (mem_mk.mpr hz))
          have := hj j hj1 z (by rw [List.getElem?_eq_getElem hj1, hj2])
          rw [this] at q; cases q
        refine wpAny_execs_cons (wpAny_If (wpAny_isTrue_Compare1 (a'.name (by rfl) hfile' (cNone (is_none (wpAny_truthy_bool ?_))))))
        cases hpn : (path == .none) with
        | true =>
          simp only [if_true]
          exact note_ret B X' a' hself' hmod' i' hn (by rfl) fun s₉ t₉ k₉ i₉ => fin 1 s₉ t₉ (a'.base.trans k₉) (by simp only [hnot, hpn, Bool.or_true, if_true]) i₉
        | false =>
          simp only [Bool.false_eq_true, if_false]
          refine wpAny_execs_nil (wpAny_execs_cons (wpAny_For ?_))
          obtain ⟨mo', ho', q1, q2, q3, q4⟩ := i'.own
          refine selfAttr B X' a' hself' ho' q2 fun s₁₀ k₁₀ => ?_
          have i₁₀ := i'.ch0 k₁₀.ch
          have a₁₀ := a'.kp k₁₀
          refine for_go (W := []) (as := []) (Rep := fun a v => v = a) (fun I i m'' s'' => Ch [I] s₁₀ s'' ∧ m'' = m') (src_list (by exact r.h) i₁₀.dirs.isList (by simp)) (by rfl) a₁₀ ?_ ?_ ?_ (by simp) ?_
          · exact fun I s' hI k => ⟨k.ch.any, rfl⟩
          · rintro I i m'' s₁ s₂ ⟨c1, h1⟩ c2
            exact ⟨c1.trans c2, h1⟩
          · intro I i b v m'' s₁ hI hI' hb
            simp at hb
          · rintro I m'' s₁₁ hI ⟨c11, rfl⟩ a₁₁
            have X₁₁ : Ext hB s₁₁.heap := X.kb a₁₁.base (by simpa using Or.inr hx)
            have i₁₁ : Rd prog w s₁₁.heap x dx ms dl g (ns.map mk) F n := by
              refine i₁₀.ch0 ?_
              obtain ⟨h1, tk1, d1, e1, q1⟩ := c11
              refine ⟨h1, tk1, d1, e1, fun b o hb hv e => q1 b o ?_ hv e⟩
              rw [List.mem_singleton]; rintro rfl; rw [hI] at e; cases e
            exact note_ret B X₁₁ a₁₁ hself' hmod' i₁₁ hn (by rfl) fun s₉ t₉ k₉ i₉ => fin 0 s₉ t₉ (a₁₁.base.trans k₉) (by simp only [hnot, hpn, Bool.or_false, Bool.false_eq_true, if_false]) i₉
end
end Mine

-- part D8
namespace Mine
open PySem PySem.W PyProof.Rows
open Sem (wp)
open PySem.SeqAt
open Builtin Builtin.Str

theorem Rm.under {A : Around} {n : Nat} {c : Code} (r : Rm A (n + 2)) (h1 : c.weight ≤ 2) (h2 : c.cUnits ≤ 16) : Rm (A.under c) n := by
  obtain ⟨d, u, h⟩ := r
  refine ⟨?_, ?_, h⟩
  · show A.depth + c.weight + n < _; omega
  · show A.units + c.cUnits + 8 * n < _; omega

section
variable {p prog : Program} {w : World} {hB : Heap} {A : Around} {E : Value → Shared → Prop} {s s' s₀ : Shared} {x dx ms dl g : Addr} {xs : List Str} {F : Str → Option Nat} {n : Nat} {R : Result → Shared → Prop}
variable {env : Env} {W₀ : List Addr} {m : Str → Option Value}

theorem init_binds (P : Params) (a b : Value) (S : Setting) : peek (KF P) S (bindArgs (fdC 93) ⟨[a, b], []⟩) = some [(Str.ofString "self", a), (Str.ofString "modules", b), (Str.ofString "dirs", .none)] := by rfl
theorem init_binds0 (P : Params) (a : Value) (S : Setting) : peek (KF P) S (bindArgs (fdC 93) ⟨[a], []⟩) = some [(Str.ofString "self", a), (Str.ofString "modules", .none), (Str.ofString "dirs", .none)] := by rfl

def startF : Str → Option Nat := fun k => if k = Str.ofString "<string>" then some 1 else none

/-- what `_Ignore.__init__` is handed -/
def Mods (s : Shared) (v : Value) (ns : List (List Nat)) : Prop := (v = .none ∧ ns = []) ∨ ∃ l vs, v = .ref l ∧ s.heap.PlainList l vs.toArray ∧ Strs vs ns
theorem Strs.map {vs : List Value} {ns : List (List Nat)} (h : Strs vs ns) : Paired (fun v k => ∃ u, v = .str k u) vs (ns.map mk) := by
  induction h with
  | nil => exact .nil
  | cons hr _ ih => obtain ⟨t, rfl⟩ := hr; exact .cons ⟨t, rfl⟩ ih

theorem dict1 {ke ve : Expr} {pos : Pos} {Q : Value → Shared → Prop}
    (h : wpAny (model prog w) A (eval ke env) (fun kv s₁ => wpAny (model prog w) A (eval ve env) (fun vv s₂ => ∃ k u, kv = .str k u ∧ Kb [] { s with heap := s.heap.push { cls := .type "dict", data := .dict #[] } } s₂ ∧
      ∀ s', Kb [] s s' → s.heap.get? s.heap.objs.size = none → s'.heap.DictOf (PySem.strKind prog w) s.heap.objs.size [(k, vv)] → Q (.ref s.heap.objs.size) s') E s₁) E { s with heap := s.heap.push { cls := .type "dict", data := .dict #[] } }) :
    wpAny (model prog w) A (eval (.Dict [some ke] [ve] pos) env) Q E s := by
  refine wpAny_Dict_pairs (knd := PySem.strKind prog w) (pairs := [(eval ke env, do let x ← eval ve env; standAt pos; pure x)]) (by rfl) (by simp) (by simp) (evalPairs_cons (wpAny_mono h (fun kv s₁ h₁ => ?_) fun _ _ e => e))
  refine wpAny_bind (wpAny_mono h₁ (fun vv s₂ h₂ => wpAny_bind (wpAny_standAt (wpAny_pure (evalPairs_nil ?_)))) fun _ _ e => e)
  obtain ⟨k, u, rfl, kb, hq⟩ := h₂
  have hnew : ({ s with heap := s.heap.push { cls := .type "dict", data := .dict #[] } } : Shared).heap.DictOf (PySem.strKind prog w) s.heap.objs.size [] := Heap.DictOf.new _
  refine ⟨[(k, vv)], ⟨by simp [PySem.strKind, Value.isStrOf], rfl, trivial⟩, dictOfC hnew kb.ch (by simp), fun h' hd' hsb => ?_⟩
  have kp : Kb [] s { s with heap := s.heap.push { cls := .type "dict", data := .dict #[] } } := Kb.push s _ _
  refine hq _ ?_ (fresh_size _) hd'
  obtain ⟨h2, tk2, d2, e2, q2⟩ := kp.trans kb
  subst e2
  exact ⟨h', _, _, rfl, fun b o _ e => hsb.extBut b o (Nat.ne_of_lt (Heap.lt_size e)) (q2 b o (by simp) e)⟩

def Sz (h : Heap) (dx : Addr) (k : Nat) : Prop := ∀ o es n, h.get? dx = some o → o.data = .dict es n → es.size ≤ k
theorem Sz.ch {W : List Addr} {k : Nat} (z : Sz s.heap dx k) (o : Own s.heap x dx m) (c : Ch W s s') (h : dx ∉ W) : Sz s'.heap dx k := by
  obtain ⟨_, ob, es, n, ho, hc, hd, _⟩ := o
  intro o' es' n' h1 h2
  have : (Value.type "dict" == Value.type "frame") = false := by decide +kernel
  rw [c.get h ho (by simp [isVar, hc, hd, this])] at h1
  cases h1
  exact z _ _ _ ho h2

set_option maxHeartbeats 4000000 in
theorem call_init (B : Bd p w hB) (X : Ext hB s.heap) (r : Rm A 2) {args : Args} {v : Value} {ns : List (List Nat)} (hargs : args = ⟨[.ref x, v], []⟩ ∨ (args = ⟨[.ref x], []⟩ ∧ v = .none)) (hns : ns.length ≤ 1000) (hv : Mods s v ns) (hx : hB.get? dx = none) (o : Own s.heap x dx (fun _ => none)) (hsz : Sz s.heap dx 0)
    (h : ∀ s' ms dl g, Kb [dx] s s' → s.heap.get? g = none → Rd prog w s'.heap x dx ms dl g (ns.map mk) startF 1 → R (.ok (.ret .none)) s') :
    codeAny (model prog w) A (.call (.ref 93) args) R s := by
  have h24 : sizeLine = 16777216 := rfl
  obtain ⟨fo, hfo, hfd⟩ := fd_at (P := w.params) (a := 93) (by rfl)
  rw [show fdOf w.params 93 = fdC 93 by rfl] at hfd
  have hbind : ∀ (Q : List (Str × Value) → Shared → Prop) (E : Value → Shared → Prop), Q [(Str.ofString "self", .ref x), (Str.ofString "modules", v), (Str.ofString "dirs", .none)] s → wpAny (model prog w) A.in1 (bindArgs (fdC 93) args) Q E s := by
    intro Q E q
    rcases hargs with rfl | ⟨rfl, rfl⟩
    · exact kp_binds (B.kin X) (init_binds w.params _ _) _ _ _ _ q
    · exact kp_binds (B.kin X) (init_binds0 w.params _) _ _ _ _ q
  refine call_def (body := bodyC 93) r.room (B.at_ X hfo) hfd (B.nolimit X) (codeRec_of (fun a o e => B.at_ X e) (by rfl)) (by rfl) hbind (by rfl) (by intro x hx; simp only [List.mem_cons, List.not_mem_nil, or_false] at hx; rcases hx with rfl | rfl | rfl <;> rfl) fun s₁ a => ?_
  have X₁ : Ext hB s₁.heap := X.trans a.base.ext
  have hself : bindAll (fun _ => none) [(Str.ofString "self", .ref x), (Str.ofString "modules", v), (Str.ofString "dirs", .none)] (Str.ofString "self") = some (.ref x) := by rfl
  have hmods : bindAll (fun _ => none) [(Str.ofString "self", .ref x), (Str.ofString "modules", v), (Str.ofString "dirs", .none)] (Str.ofString "modules") = some v := by rfl
  have hdirs : bindAll (fun _ => none) [(Str.ofString "self", .ref x), (Str.ofString "modules", v), (Str.ofString "dirs", .none)] (Str.ofString "dirs") = some .none := by rfl
  generalize bindAll (fun _ => none) [(Str.ofString "self", .ref x), (Str.ofString "modules", v), (Str.ofString "dirs", .none)] = m at a hself hmods hdirs
  have kb0 := a.base
  have a := a.weak (W₁ := [dx]) (by simp)
  obtain ⟨hxh, hdxo⟩ := id o
  have hdxx : x ≠ dx := by
    rintro rfl
    obtain ⟨ob, es, n, ho, hc, hd, _⟩ := hdxo
    rw [hxh] at ho; cases ho; cases hd
  have hdv : ∀ {s₂ : Shared} {m₂}, Own s₂.heap x dx m₂ → ∀ b ∈ [dx], ∃ o, s₂.heap.get? b = some o ∧ isVar o = false := by
    rintro s₂ m₂ ⟨_, ob, es, n, ho, hc, hd, _⟩ b hb
    rw [List.mem_singleton] at hb; subst hb
    have : (Value.type "dict" == Value.type "frame") = false := by decide +kernel
    exact ⟨ob, ho, by simp [isVar, hc, hd, this]⟩
  have o₁ := o.ch kb0.ch (by simp) (by simp)
  have z₁ := hsz.ch o kb0.ch (by simp)
  -- self._mods
  refine wpAny_execs_cons (plainObj_wpAny_Assign_Attribute (wpAny_mono (?_ : wpAny _ _ _ (fun vv s₂ => ∃ S, vv = .ref S ∧ Kb [] s₁ s₂ ∧ s₁.heap.get? S = none ∧ SSet prog w s₂.heap S (ns.map mk)) _ _) (fun vv s₂ h₂ => ?_) fun _ _ e => e))
  · refine wpAny_IfExp (wpAny_isTrue_Not (wpAny_isTrue_value (a.name (by rfl) hmods ?_)))
    have empty : ns = [] → ∀ s₂, Kb [] s₁ s₂ → wpAny (model prog w) (A.deeper (callEnvC (fdC 93) s.heap.objs.size 93)) (call (.type "set") []) (fun vv s₂ => ∃ S, vv = .ref S ∧ Kb [] s₁ s₂ ∧ s₁.heap.get? S = none ∧ SSet prog w s₂.heap S (ns.map mk)) (fun _ _ => False) s₂ := by
      rintro rfl s₂ k₂
      exact call_set_none fun S s₃ k₃ hS hSS => ⟨S, rfl, k₂.trans k₃, k₂.nope0 hS, hSS⟩
    rcases hv with ⟨rfl, hns0⟩ | ⟨l, vs, rfl, hpl, hS⟩
    · refine truthy_none ?_
      simp only [Bool.not_false, if_true]
      exact Call_val (B.built X₁ (v := .type "set") (by rfl) (by rfl) (by decide +kernel) ⟨fun a => by simp, wpAny_items_nil (empty hns0 _ (Kb.refl _ _))⟩)
    · have hlen : vs.length = ns.length := Paired.length hS
      refine wpAny_truthy_list (plK0 hpl kb0).isList (by simp; omega) ?_
      have k₂ : Kb [] s₁ { s₁ with toks := s₁.toks + 1 + 1 } := toks _ _
      generalize ({ s₁ with toks := s₁.toks + 1 + 1 } : Shared) = s₂ at k₂ ⊢
      have X₂ := X₁.trans k₂.ext
      cases vs with
      | nil =>
        have hns0 : ns = [] := List.length_eq_zero_iff.mp hlen.symm
        simp only [List.isEmpty_toArray, List.isEmpty_nil, Bool.not_true, Bool.not_false, if_true]
        exact Call_val (B.built X₂ (v := .type "set") (by rfl) (by rfl) (by decide +kernel) ⟨fun a => by simp, wpAny_items_nil (empty hns0 _ k₂)⟩)
      | cons v0 vs =>
        simp only [List.isEmpty_toArray, List.isEmpty_cons, Bool.not_true, Bool.not_false, Bool.false_eq_true, if_false]
        refine Call_val (B.built X₂ (v := .type "set") (by rfl) (by rfl) (by decide +kernel) ⟨fun a => by simp, wpAny_items_cons ((a.kp k₂).name (by rfl) hmods (wpAny_items_nil ?_))⟩)
        refine call_set_strs (by exact r.h) (plK0 hpl (kb0.trans k₂)) hS.map (by rw [List.length_map]; have : scanBound = 4096 := rfl; omega) fun S s₃ k₃ hSn hSS => ⟨S, rfl, k₂.trans k₃, k₂.nope0 hSn, hSS⟩
  obtain ⟨S, rfl, k₂, hSn, hSS⟩ := h₂
  have a₂ := a.kp k₂
  have X₂ := X₁.trans k₂.ext
  have o₂ := o₁.kb k₂ (by simp) (by simp)
  have z₂ := z₁.ch o₁ k₂.ch (by simp)
  refine a₂.name (by rfl) hself (Own.set (B.kin X₂) o₂ (fun o es n h1 h2 => Nat.le_trans (z₂ o es n h1 h2) (by omega)) fun s₃ k₃ o₃ hz₃ => ?_)
  have a₃ := a₂.kb k₃ (hdv o₂) (by simp)
  have X₃ : Ext hB s₃.heap := X₂.kb k₃ (by simpa using Or.inr hx)
  have z₃ : Sz s₃.heap dx 1 := by
    intro o' es' n' h1 h2
    obtain ⟨_, ob, es, n, ho, hc, hd, _⟩ := id o₂
    exact Nat.le_trans (hz₃ _ _ _ _ _ _ ho hd h1 h2) (Nat.succ_le_succ (z₂ _ _ _ ho hd))
  have hSdx : S ∉ [dx] := by
    rw [List.mem_singleton]; rintro rfl
    obtain ⟨_, ob, es, n, ho, _⟩ := o₁
    rw [ho] at hSn; cases hSn
  have hSS₃ := hSS.kb k₃ hSdx
  -- self._dirs
  refine wpAny_execs_cons (plainObj_wpAny_Assign_Attribute (wpAny_IfExp (wpAny_isTrue_Not (wpAny_isTrue_value (a₃.name (by rfl) hdirs (truthy_none ?_))))))
  simp only [Bool.not_false, if_true]
  refine listMade (wpAny_items_nil ⟨by simp, fun dl s₄ k₄ hdl hpl₄ => ?_⟩)
  have a₄ := a₃.kp k₄
  have X₄ := X₃.trans k₄.ext
  have o₄ := o₃.kb k₄ (by simp) (by simp)
  have z₄ := z₃.ch o₃ k₄.ch (by simp)
  refine a₄.name (by rfl) hself (Own.set (B.kin X₄) o₄ (fun o es n h1 h2 => Nat.le_trans (z₄ o es n h1 h2) (by omega)) fun s₅ k₅ o₅ hz₅ => ?_)
  have a₅ := a₄.kb k₅ (hdv o₄) (by simp)
  have X₅ : Ext hB s₅.heap := X₄.kb k₅ (by simpa using Or.inr hx)
  have z₅ : Sz s₅.heap dx 2 := by
    intro o' es' n' h1 h2
    obtain ⟨_, ob, es, n, ho, hc, hd, _⟩ := id o₄
    exact Nat.le_trans (hz₅ _ _ _ _ _ _ ho hd h1 h2) (Nat.succ_le_succ (z₄ _ _ _ ho hd))
  have hdldx : dl ∉ [dx] := by
    rw [List.mem_singleton]; rintro rfl
    obtain ⟨_, ob, es, n, ho, _⟩ := o₃
    rw [ho] at hdl; cases hdl
  have hpl₅ := plK hpl₄ k₅ hdldx
  have hSS₅ := (hSS₃.kb k₄ (by simp)).kb k₅ hSdx
  -- self._ignore
  refine wpAny_execs_cons (plainObj_wpAny_Assign_Attribute (dict1 (cStr fun t₆ s₆ k₆ => cInt fun t₇ s₇ k₇ => ⟨_, _, rfl, k₆.trans k₇, fun s₈ k₈ hgn hd8 => ?_⟩)))
  have hg93 : s₅.heap.objs.size ≠ 1 := by
    have this : (93 : Nat) < s₅.heap.objs.size := Heap.lt_size (B.at_ X₅ hfo)
    exact fun e => by rw [e] at this; exact absurd this (by decide)
  generalize s₅.heap.objs.size = g at hgn hg93 hd8 ⊢
  have a₈ := a₅.kp k₈
  have X₈ := X₅.trans k₈.ext
  have o₈ := o₅.kb k₈ (by simp) (by simp)
  have z₈ := z₅.ch o₅ k₈.ch (by simp)
  refine a₈.name (by rfl) hself (Own.set (B.kin X₈) o₈ (fun o es n h1 h2 => Nat.le_trans (z₈ o es n h1 h2) (by omega)) fun s₉ k₉ o₉ hz₉ => ?_)
  have a₉ := a₈.kb k₉ (hdv o₈) (by simp)
  have ne : ∀ {b ob}, s₅.heap.get? b = some ob → g ≠ b := by
    rintro b ob e rfl; rw [hgn] at e; cases e
  have hgdx : g ≠ dx := by obtain ⟨_, ob, es, n, ho, _⟩ := o₅; exact ne ho
  have hgdx' : g ∉ [dx] := by simpa using hgdx
  refine wpAny_execs_nil (h s₉ S dl g (a₉.base) ?_ ⟨⟨_, o₉, ?_, ?_, ?_, ?_⟩, (hSS₅.kb k₈ (by simp)).kb k₉ hSdx, plK (plK0 hpl₅ k₈) k₉ hdldx, ⟨_, dictOfC hd8 k₉.ch hgdx', by simp, fun k => ?_⟩, ⟨?_, hgdx, ?_, ?_⟩, ?_⟩)
  ·    exact (kb0.any (W := [dx]) |>.trans (k₂.any.trans (k₃.trans (k₄.any.trans k₅)))).nope hgdx' hgn
  · exact upd_ne (str_ne (by decide)) (upd_ne (str_ne (by decide)) upd_eq)
  · exact upd_ne (str_ne (by decide)) upd_eq
  · exact upd_eq
  · exact upd_ne (str_ne (by decide)) (upd_ne (str_ne (by decide)) (upd_ne (str_ne (by decide)) rfl))
  · have e1 : valueAt [(Str.ofString "<string>", Value.int 1 t₇)] k = if k = Str.ofString "<string>" then some (.int 1 t₇) else none := by
      have := stored_at (kvs := []) (k := Str.ofString "<string>") (v := .int 1 t₇) k
      exact this
    rw [e1]
    unfold startF
    by_cases e : k = Str.ofString "<string>"
    · simp only [if_pos e]; exact ⟨1, t₇, rfl, rfl⟩
    · simp only [if_neg e]
  · exact ne o₅.at_
  · obtain ⟨ob, es, ep, t, ho, _⟩ := hSS₅; exact ne ho
  · obtain ⟨n, ho⟩ := hpl₅; exact ne ho
  · have : g ≠ sysModules := hg93
    simpa using this
end
end Mine

-- part D9
namespace Mine
open PySem PySem.W PyProof.Rows
open Sem (wp)
open PySem.SeqAt
open Builtin Builtin.Str

section
variable {p prog : Program} {w : World} {hB : Heap} {A : Around} {E : Value → Shared → Prop} {s s' s₀ : Shared} {x dx ms dl g : Addr} {xs : List Str} {F : Str → Option Nat} {n : Nat} {R : Result → Shared → Prop}

theorem tc_weight (vals : List Value) : (Code.builtin "type.__call__" { pos := Value.ref 103 :: vals }).weight ≤ 2 := by
  first | (refine Nat.le_trans (m := 0) (Nat.le_of_eq (by rfl)) (by decide)) | (refine Nat.le_trans (m := 1) (Nat.le_of_eq (by rfl)) (by decide)) | (refine Nat.le_trans (m := 2) (Nat.le_of_eq (by rfl)) (by decide))
theorem tc_units (vals : List Value) : (Code.builtin "type.__call__" { pos := Value.ref 103 :: vals }).cUnits ≤ 16 := by
  first | (refine Nat.le_trans (m := 1) (Nat.le_of_eq (by rfl)) (by decide)) | (refine Nat.le_trans (m := 4) (Nat.le_of_eq (by rfl)) (by decide)) | (refine Nat.le_trans (m := 7) (Nat.le_of_eq (by rfl)) (by decide))
theorem fresh_of (X : Ext hB s.heap) (tb : Tb s.heap) {b : Addr} (e : s.heap.get? b = none) : hB.get? b = none := by
  cases q : hB.get? b with
  | none => rfl
  | some o =>
    by_cases h : b = 126
    · subst h; obtain ⟨ps, h1, _⟩ := tb; rw [e] at h1; cases h1
    · rw [X b o h q] at e; cases e

theorem call_Ignore (B : Bd p w hB) (X : Ext hB s.heap) (tb : Tb s.heap) (r : Rm A 4) {vals : List Value} {v : Value} {ns : List (List Nat)} (hvals : vals = [v] ∨ (vals = [] ∧ v = .none)) (hns : ns.length ≤ 1000) (hv : Mods s v ns) {Q : Value → Shared → Prop}
    (h : ∀ s' x dx ms dl g, Kb [] s s' → s.heap.get? g = none → hB.get? g = none → Rd prog w s'.heap x dx ms dl g (ns.map mk) startF 1 → Q (.ref x) s') :
    wpAny (model prog w) A (call (.ref 103) vals) Q E s := by
  refine wpAny_call ?_
  obtain ⟨hh, gg, dd, t, os⟩ := s
  have K := B.kin X
  refine make_core (init := .ref 93) (makes_of K (by rfl)) (looks_findIn K (by rfl)) (fun self => bind_fn K self (by rfl)) (.inl rfl) ?_
  have k1 : Kb [] (⟨hh, gg, dd, t, os⟩ : Shared) ⟨(hh.push emptyDict).push (instObj 103 hh.objs.size), gg, dd, t, os⟩ := ⟨_, t, dd, rfl, fun b o _ e => Heap.get?_push_of_some _ (Heap.get?_push_of_some _ e)⟩
  have hdxn : (⟨hh, gg, dd, t, os⟩ : Shared).heap.get? hh.objs.size = none := fresh_size _
  have hdx := fresh_of X tb hdxn
  have hsz1 : (hh.push emptyDict).objs.size = hh.objs.size + 1 := Heap.size_push ..
  have hgx : ((hh.push emptyDict).push (instObj 103 hh.objs.size)).get? (hh.objs.size + 1) = some (instObj 103 hh.objs.size) := by
    have := Heap.get?_push_size (hh.push emptyDict) (o := instObj 103 hh.objs.size) rfl
    rwa [hsz1] at this
  have hgd : ((hh.push emptyDict).push (instObj 103 hh.objs.size)).get? hh.objs.size = some emptyDict := Heap.get?_push_of_some _ (Heap.get?_push_size _ rfl)
  have hown : Own (⟨(hh.push emptyDict).push (instObj 103 hh.objs.size), gg, dd, t, os⟩ : Shared).heap (hh.objs.size + 1) hh.objs.size (fun _ => none) :=
    ⟨hgx, emptyDict, #[], 0, hgd, rfl, rfl, fun e he => by simp at he, fun y => rfl, by simp⟩
  refine call_init (v := v) B (X.trans k1.ext) (r.under (tc_weight vals) (tc_units vals)) ?_ hns ?_ hdx hown ?_ fun s' ms dl g k hg i => ⟨rfl, ?_⟩
  · rcases hvals with rfl | ⟨rfl, rfl⟩
    · exact .inl rfl
    · exact .inr ⟨rfl, rfl⟩
  · rcases hv with h | ⟨l, vs, h1, h2, h3⟩
    · exact .inl h
    · exact .inr ⟨l, vs, h1, plK0 h2 k1, h3⟩
  · intro o es n h1 h2
    have h1 : ((hh.push emptyDict).push (instObj 103 hh.objs.size)).get? hh.objs.size = some o := h1
    rw [hgd] at h1; cases h1; cases h2; simp
  · have hg0 := k1.nope0 hg
    refine h s' _ _ ms dl g ?_ hg0 (fresh_of X tb hg0) i
    obtain ⟨h2, tk2, d2, e2, q2⟩ := k
    subst e2
    refine ⟨h2, tk2, d2, rfl, fun b o _ e => q2 b o ?_ (k1.get0 e)⟩
    rw [List.mem_singleton]; rintro rfl
    rw [hdxn] at e; cases e

theorem is_int {M : Model} {Q : Value → Shared → Prop} (h : Q (.bool true) s) : wpAny M A (compareOp .Is (.type "int") (.type "int")) Q E s := by
  show wpAny M A (do return .bool (← isSame (.type "int") (.type "int"))) Q E s
  refine wpAny_bind (wpAny_of_eq (a := true) (by kernel_rfl) (wpAny_pure h))

set_option maxHeartbeats 4000000 in
theorem call_asked (B : Bd p w hB) (X : Ext hB s.heap) (r : Rm A 3) {ns : List (List Nat)} {y : List Nat} {u : Tok} {path : Value} (hx : hB.get? g = none) (i : Rd prog w s.heap x dx ms dl g (ns.map mk) F n) (hn : n ≤ 5000) (hns : ns.length ≤ 1000) (hnl : ∀ z ∈ ns, z.length ≤ 1000) (hy : y.length ≤ 1000) (hp : path = .none ∨ ∃ z t, path = .str z t)
    (h : ∀ s' t b, Kb [g] s s' → (b : Nat) = (match F (mk y) with | some b => b | none => if isIn ns y || path == .none then 1 else 0) →
      Rd prog w s'.heap x dx ms dl g (ns.map mk) (fun z => if z = mk y then some b else F z) (n + 1) → R (.ok (.ret (.int (b : Nat) t))) s') :
    codeAny (model prog w) A (.call (.ref 162) ⟨[.ref x, path, .str (mk y) u], []⟩) R s := by
  refine call_fn B X r 162 _ [(Str.ofString "reader", .ref x), (Str.ofString "path", path), (Str.ofString "word", .str (mk y) u)] (bodyC 162) (fun s₁ a => ?_) (hb := by intro x hx; simp only [List.mem_cons, List.not_mem_nil, or_false] at hx; rcases hx with rfl | rfl | rfl <;> rfl)
  have X₁ : Ext hB s₁.heap := X.trans a.base.ext
  have i₁ := i.ch0 a.base.ch
  obtain ⟨mo, ho, r1, r2, r3, r4⟩ := i₁.own
  obtain ⟨fo, hfo, hfd⟩ := fd_at (P := w.params) (a := 100) (by rfl)
  refine wpAny_execs_cons (wpAny_Assign_Name (Call_method_own (a := 100) (ob := fo) (fd := fdOf w.params 100) (a.name (by rfl) (by rfl) fun pl => Own.method (B.kin X₁) ho r4 ⟨_, rfl, ?_⟩) (by rfl) (by rfl) (by rfl)))
  refine wpAny_items_cons (a.name (by rfl) (by rfl) (wpAny_items_cons (a.name (by rfl) (by rfl) (wpAny_items_nil ⟨⟨B.at_ X₁ hfo, hfd⟩, ?_⟩))))
  refine wpAny_call (call_names B X₁ (r.deeper _) hx i₁ hn hns hnl hy hp fun s₂ t₂ b k₂ hb i₂ => ?_)
  obtain ⟨og, hog, hvg⟩ := i₁.gObj
  have a₂ := (a.weak (W₁ := [g]) (by simp)).kb k₂ (by intro b hb; rw [List.mem_singleton] at hb; subst hb; exact ⟨og, hog, hvg⟩) (by simp)
  refine a₂.store (by rfl) fun s₃ a₃ c₃ => ?_
  have X₃ : Ext hB s₃.heap := X.kb a₃.base (by simpa using Or.inr hx)
  refine execs_ret (wpAny_IfExp (wpAny_isTrue_Compare1 ?_))
  refine Call_val (B.built X₃ (v := .type "type") (by rfl) (by rfl) (by decide +kernel) ⟨fun a => by simp, wpAny_items_cons (a₃.name (by rfl) upd_eq (wpAny_items_nil ?_))⟩)
  refine call_type_of (typeIs_int _ _ _) (by decide) ?_
  refine B.built X₃ (v := .type "int") (by rfl) (by rfl) (by decide +kernel) (is_int (wpAny_truthy_bool ?_))
  simp only [if_true]
  exact a₃.name (by rfl) upd_eq (h s₃ t₂ b a₃.base hb (i₂.ch0 c₃))
end
end Mine

-- part E1
namespace Mine
open PySem PySem.W PyProof.Rows
open Sem (wp)
open PySem.SeqAt
open Builtin Builtin.Str

section
variable {prog : Program} {w : World} {A : Around} {E : Value → Shared → Prop} {s s₀ : Shared} {env : Env} {W₀ : List Addr} {m : Str → Option Value}

/-- `l[-1] = v` -/
theorem setLast {l : Addr} {items : List Value} {x v : Value} {t : Tok} {Q : Unit → Shared → Prop} (hl : s.heap.PlainList l (items ++ [x]).toArray)
    (hQ : ∀ s', Kb [l] s s' → s'.heap.PlainList l (items ++ [v]).toArray → Q () s') : wpAny (model prog w) A (setItem (.ref l) (.int (-1) t) v) Q E s := by
  obtain ⟨n, ho⟩ := hl
  have hl' : s.heap.IsList l (items ++ [x]).toArray := ⟨_, ho, rfl, n, rfl⟩
  unfold setItem
  try with_reducible refine wpAny_holding ?_
  first | refine wpAny_bind (wpAny_pure ?_) | skip
  refine wpAny_bind (wpAny_sequenceKey hl'.typeIs (by decide) ?_)
  refine wpAny_bind (wpAny_callSpecial?_slot (name := Str.ofString "__setitem__") hl'.typeIs slot_list_setitem
    (wpAny_call_entry slot_list_setitem hl'.typeIs entry_list_setitem ?_ (args_list_setitem _ _ _)))
  show wpAny _ _ (Builtin.List.listSubscript? (.int (-1) t) >>= _) _ _ s
  refine wpAny_bind (wpAny_listSubscript_int (fitsIndex_neg (by decide) (by decide)) ?_)
  have hidx := seqIndex_neg (k := -1) (n := (items ++ [x]).toArray.size) (by decide) (by simp; omega)
  show wpAny _ _ ((Builtin.List.listItems (.ref l) >>= fun xs => pure ((seqIndex? (-1) xs.size).bind fun i => xs[i]?.map (i, ·))) >>= _) _ _ s
  refine wpAny_bind (wpAny_bind ?_)
  show wpAny _ _ (seqItems? (.ref l) >>= _) _ _ s
  refine wpAny_bind (wpAny_seqItems ho rfl (wpAny_pure (wpAny_pure ?_)))
  rw [hidx]
  have hi : ((-1 : Int) + ((items ++ [x]).toArray.size : Int)).toNat = items.length := by simp; omega
  rw [hi]
  have hx : (items ++ [x]).toArray[items.length]? = some x := by simp
  simp only [Option.bind_some, hx, Option.map_some]
  show wpAny _ _ (setSeqItemAt l items.length v >>= _) _ _ s
  refine wpAny_bind (wpAny_setSeqItemAt ho rfl ?_)
  have hset : (items ++ [x]).toArray.setIfInBounds items.length v = (items ++ [v]).toArray := by simp
  have hg : (s.heap.update l (Obj.mapSeq (·.setIfInBounds items.length v))).PlainList l (items ++ [v]).toArray := by
    obtain ⟨n', hd'⟩ := Obj.data_mapSeq (o := { cls := .type "list", dict := none, data := .seq (items ++ [x]).toArray n, slots := #[] }) rfl (·.setIfInBounds items.length v)
    refine ⟨n', ?_⟩
    rw [Heap.get?_update_self _ ho (Obj.isFreed_of_seq hd')]
    rw [← hset]
    congr 1
    have e1 : (Obj.mapSeq (·.setIfInBounds items.length v) { cls := .type "list", dict := none, data := .seq (items ++ [x]).toArray n, slots := #[] } : Obj) = { cls := .type "list", dict := none, data := (Obj.mapSeq (·.setIfInBounds items.length v) { cls := .type "list", dict := none, data := .seq (items ++ [x]).toArray n, slots := #[] } : Obj).data, slots := #[] } := rfl
    rw [e1, hd']
  have fin := hQ { s with heap := s.heap.update l (Obj.mapSeq (·.setIfInBounds items.length v)) } ⟨_, _, _, rfl, fun b o hb e => (Heap.get?_update_other _ _ (by rintro rfl; exact hb (by simp))).trans e⟩ hg
  first
    | exact wpAny_bind (wpAny_pure (wpAny_pure ⟨.none, rfl, wpAny_pure fin⟩))
    | exact wpAny_pure ⟨.none, rfl, wpAny_pure fin⟩

theorem callAppend {l : Addr} {items : List Value} {v : Value} {Q : Value → Shared → Prop} (hl : s.heap.PlainList l items.toArray) (hsz : items.length ≤ sizeLine)
    (hQ : ∀ s', Kb [l] s s' → s'.heap.PlainList l (items ++ [v]).toArray → Q .none s') : wpAny (model prog w) A (call (.builtin "list.append") [.ref l, v]) Q E s := by
  obtain ⟨n, ho⟩ := hl
  refine call_meets F.slot_list_append ⟨_, ho, rfl⟩ F.entry_list_append (F.args_list_append_2 _ _) (list_append l items.toArray n v (by simpa using hsz)) ⟨ho, ?_⟩
  refine hQ _ ⟨_, _, _, rfl, fun b o hb e => (Heap.get?_update_other _ _ (by rintro rfl; exact hb (by simp))).trans e⟩ ⟨n + 1, ?_⟩
  show (s.heap.update l _).get? l = _
  rw [Heap.get?_update_self _ ho (by rw [Obj.mapSeq_push_plain]; rfl), Obj.mapSeq_push_plain]
  simp

/-- statement `xs.append(e)` -/
theorem appendStmt {an : Str} {e : Expr} {np ap cp pos : Pos} {l : Addr} {xs : List Value} {Q : Flow → Shared → Prop} {W : List Addr} (a : Act W₀ env s₀ s m) (hk : isV (env.kindOf an) = true) (hm : m an = some (.ref l))
    (hl : s.heap.PlainList l xs.toArray) (hsz : xs.length ≤ sizeLine) (hlW : l ∉ W)
    (h : wpAny (model prog w) A (eval e env) (fun v s₁ => Kb W s s₁ ∧ ∀ s', Kb [l] s₁ s' → s'.heap.PlainList l (xs ++ [v]).toArray → Q .next s') E s)
    (hbase : attributeBase (.Name an np) (Str.ofString "append") env (eval (.Name an np) env) = eval (.Name an np) env) (he : starEach [e] env = [(false, eval e env)]) (hline : (ap.endLine == cp.line) = true)
    (hd : (an == ("__debug__" : Str)) = false := by decide +kernel) (hi : interactive env = false := by rfl) (hs : swapsWith (.Call (.Attribute (.Name an np) (Str.ofString "append") ap) [e] [] cp) none pos.line env = pure false := by rfl) :
    wpAny (model prog w) A (exec (.Expr (.Call (.Attribute (.Name an np) (Str.ofString "append") ap) [e] [] cp) pos) env) Q E s := by
  refine wpAny_Expr ?_ hi hs
  refine Call_method1 hbase he hline (a.name hk hm ?_ hd)
  obtain ⟨n, ho⟩ := id hl
  refine ⟨"list", "list.append", F.plainAttrs_list, F.slot_list_append, F.type_list_append, ⟨_, ho, rfl⟩, (fun b e => by cases e; exact ⟨_, ho, rfl⟩), callWith_val (by rfl) (fun a => by simp) ?_⟩
  refine Calls.spliced_cons (wpAny_mono h (fun v s₁ h₁ => Calls.spliced_nil ?_) fun _ _ x => x)
  exact callAppend (plK hl h₁.1 hlW) hsz fun s' k hl' => h₁.2 s' k hl'

/-- `e[:k]`, whatever `e` -/
theorem Slice_go {value : Expr} {lower upper : Option Expr} {p pos : Pos} {Q : Value → Shared → Prop}
    (h : wpAny (model prog w) A (eval value env) (fun o s₁ => wpAny (model prog w) A (evalPart lower env) (fun vl s₂ => wpAny (model prog w) A (evalPart upper env) (fun vu s₃ =>
      ∃ l items lo hi, o = .ref l ∧ s₃.heap.IsList l items ∧ items.size ≤ sizeLine ∧ PySem.IsPart vl lo ∧ PySem.IsPart vu hi ∧
        ∀ D s', Kb [] s₃ s' → s₃.heap.get? D = none → s'.heap.PlainList D (slicePick items lo hi none) → Q (.ref D) s') E s₂) E s₁) E s) :
    wpAny (model prog w) A (eval (.Subscript value (.Slice lower upper none p) pos) env) Q E s := by
  rw [eval_Subscript]
  refine wpAny_bind (wpAny_mono h (fun o s₁ h₁ => wpAny_bind (wpAny_holding (wpAny_Slice (wpAny_mono h₁ (fun vl s₂ h₂ => wpAny_mono h₂ (fun vu s₃ h₃ => ?_) fun _ _ e => e) fun _ _ e => e)))) fun _ _ e => e)
  obtain ⟨l, items, lo, hi, rfl, hl, hsz, pl, pu, hQ⟩ := h₃
  rw [evalPart_none]
  refine wpAny_pure ?_
  refine wpAny_bind (wpAny_standAt ?_)
  have hT : Shared.TypeIs { s₃ with heap := s₃.heap.push { cls := .type "slice", data := .fields #[vl, vu, .none] } } (.ref l) "list" := (hl.push _).typeIs
  refine wpAny_bind ?_
  rw [getitemInPython_of_ne hT.not_modules]
  refine wpAny_bind (wpAny_specialOf hT list_getitem_lookup ?_)
  have fin : wpAny (model prog w) A (operate [.ref s₃.heap.objs.size, .ref l] (getItem (.ref l) (.ref s₃.heap.objs.size))) (fun r s₃ => wpAny (model prog w) A (letTemporaryGo value (.ref l) r >>= fun _ => pure r) Q E s₃) E { s₃ with heap := s₃.heap.push { cls := .type "slice", data := .fields #[vl, vu, .none] } } := by
    refine wpAny_operating (wpAny_getItem_list_slice (hl.push _) (Heap.IsSliceOf.new ..) pl pu .none (by simp) ?_ hsz)
    refine wpAny_bind (wpAny_letTemporaryGo (wpAny_pure ?_))
    have k1 : Kb [] s₃ { s₃ with heap := s₃.heap.push { cls := .type "slice", data := .fields #[vl, vu, .none] } } := Kb.push s₃ _ _
    exact hQ _ _ (k1.trans (Kb.push _ _ _)) (k1.nope0 (fresh_size _)) ⟨0, Heap.get?_push_size _ rfl⟩
  first
    | exact wpAny_pure (wpAny_bind fin)
    | exact wpAny_bind (wpAny_pure (wpAny_bind fin))
    | exact wpAny_bind fin
end
end Mine

-- part E2
namespace Mine
open PySem PySem.W PyProof.Rows
open Sem (wp)
open PySem.SeqAt
open Builtin Builtin.Str

def code (x : Int) : Nat := (x.fmod 884736).toNat
def kd (x : Int) : Nat := code x % 16
def fr (x : Int) : Nat := (code x / 16 + 42) % 55296
def signs16 (c : Nat) : List (List Nat) := [[], [c], [], [], [98], [46], [97], [], [97], [98], [46], [c], [97], [46], [c], [46, 97]]
def signOf (k c : Nat) : List Nat := ((signs16 c)[k]?).getD []
def k1 (k : Nat) : Nat := if k = 15 then 0 else k
def toks7 : List Tk := [.star, .any, .lit 97, .lit 46, .set [33, 97], .set [46, 98], .set [33, 46]]
def its7 : List Item := [none, some (true, []), some (false, [97]), some (false, [46]), some (true, [97]), some (false, [46, 98]), some (true, [46])]
def litTk (c : Nat) : Tk := if c = 42 ∨ c = 63 ∨ c = 91 then .set [c] else .lit c
def c1 (k c : Nat) : Nat := if k = 12 then 97 else if k = 13 then 46 else c
def toksOf (k c : Nat) : List Tk := if k1 k < 7 then (toks7[k1 k]?).toList else if 11 < k1 k then [litTk (c1 k c)] else []
def itsOf (k c : Nat) : List Item := if k1 k < 7 then (its7[k1 k]?).toList else if 11 < k1 k then [some (false, [c1 k c])] else []
structure DS where
  ts : List Tk
  its : List Item
  init : List (List Nat)
  last : List Nat
def dnew (d : DS) (k : Nat) : List (List Nat) × List Nat := if k = 7 then (d.init ++ [d.last], []) else (d.init, d.last)
def dstep (d : DS) (x : Int) : DS := ⟨d.ts ++ toksOf (kd x) (fr x), d.its ++ itsOf (kd x) (fr x), (dnew d (kd x)).1, (dnew d (kd x)).2 ++ signOf (kd x) (fr x)⟩
def drawnOf (xs : List Int) : DS := ((if xs.isEmpty then [13] else xs).take 10).foldl dstep ⟨[], [], [], []⟩

theorem kd_lt (x : Int) : kd x < 16 := Nat.mod_lt _ (by decide)
theorem fr_lt (x : Int) : fr x < 55296 := Nat.mod_lt _ (by decide)
theorem signOf_at {k c : Nat} (hk : k < 16) : (signs16 c)[k]? = some (signOf k c) := by
  unfold signOf
  have : k < (signs16 c).length := hk
  rw [List.getElem?_eq_getElem this]; rfl
theorem signOf_le (k c : Nat) : (signOf k c).length ≤ 2 := by
  unfold signOf
  by_cases hk : k < 16
  · have h : ∀ k < 16, (((signs16 c)[k]?).getD []).length ≤ 2 := by
      intro k hk
      have : k = 0 ∨ k = 1 ∨ k = 2 ∨ k = 3 ∨ k = 4 ∨ k = 5 ∨ k = 6 ∨ k = 7 ∨ k = 8 ∨ k = 9 ∨ k = 10 ∨ k = 11 ∨ k = 12 ∨ k = 13 ∨ k = 14 ∨ k = 15 := by omega
      rcases this with rfl | rfl | rfl | rfl | rfl | rfl | rfl | rfl | rfl | rfl | rfl | rfl | rfl | rfl | rfl | rfl <;> simp [signs16]
    exact h k hk
  · rw [List.getElem?_eq_none (by simp [signs16]; omega)]; simp

structure DJ (lt ln : Addr) (d : DS) (I : Addr) (m : Str → Option Value) (s : Shared) : Prop where
  pat : ∃ t, m (Str.ofString "pattern") = some (.str (mk (rend d.ts)) t)
  told : m (Str.ofString "told") = some (.ref lt)
  names : m (Str.ofString "names") = some (.ref ln)
  lt : ∃ vt, s.heap.PlainList lt vt.toArray ∧ Paired (fun v it => IsIt s.heap it v ∧ v ≠ .ref I) vt d.its
  ln : ∃ vn, s.heap.PlainList ln vn.toArray ∧ Strs vn (d.init ++ [d.last])

theorem imK {W : List Addr} {s s' : Shared} (k : Kb W s s') (hW : ∀ b ∈ W, ∃ o, s.heap.get? b = some o ∧ isTup o = false) : Im s.heap s'.heap := fun b o e t =>
  k.get (fun q => by obtain ⟨o', e', t'⟩ := hW b q; rw [e] at e'; cases e'; rw [t] at t'; cases t') e
theorem tup_nv {o : Obj} (t : isTup o = true) : isVar o = false := by
  obtain ⟨c, d, dt, sl⟩ := o
  simp only [isTup, Bool.and_eq_true, beq_iff_eq] at t
  obtain ⟨rfl, t⟩ := t
  cases dt <;> simp at t
  have : (Value.type "tuple" == Value.type "frame") = false := by decide +kernel
  simp [isVar, this]
theorem imC {W : List Addr} {s s' : Shared} (k : Ch W s s') (hW : ∀ b ∈ W, ∃ o, s.heap.get? b = some o ∧ isTup o = false) : Im s.heap s'.heap := fun b o e t =>
  k.get (fun q => by obtain ⟨o', e', t'⟩ := hW b q; rw [e] at e'; cases e'; rw [t] at t'; cases t') e (tup_nv t)
theorem pl_nt {h : Heap} {l : Addr} {xs : Array Value} (x : h.PlainList l xs) : ∃ o, h.get? l = some o ∧ isTup o = false := isTup_pl x

theorem DJ.upd {lt ln : Addr} {d : DS} {I : Addr} {m : Str → Option Value} {s : Shared} {x : String} {v : Value} (j : DJ lt ln d I m s) (h : x ∉ ["pattern", "told", "names"]) : DJ lt ln d I (upd m (Str.ofString x) v) s := by
  simp only [List.mem_cons, List.not_mem_nil, or_false, not_or] at h
  obtain ⟨h1, h2, h3⟩ := h
  obtain ⟨t, ht⟩ := j.pat
  exact ⟨⟨t, upd_ne (str_ne (Ne.symm h1)) ht⟩, upd_ne (str_ne (Ne.symm h2)) j.told, upd_ne (str_ne (Ne.symm h3)) j.names, j.lt, j.ln⟩
theorem DJ.ch {lt ln : Addr} {d : DS} {I : Addr} {m : Str → Option Value} {s s' : Shared} (j : DJ lt ln d I m s) (c : Ch [] s s') : DJ lt ln d I m s' := by
  obtain ⟨vt, h1, h2⟩ := j.lt
  obtain ⟨vn, h3, h4⟩ := j.ln
  exact ⟨j.pat, j.told, j.names, ⟨vt, plC h1 c (by simp), h2.mono fun v it h => ⟨h.1.im (imC c (by simp)), h.2⟩⟩, ⟨vn, plC h3 c (by simp), h4⟩⟩
theorem DJ.chI {lt ln : Addr} {d : DS} {I : Addr} {m : Str → Option Value} {s s' : Shared} (j : DJ lt ln d I m s) (c : Ch [I] s s') (h1 : lt ≠ I) (h2 : ln ≠ I) : DJ lt ln d I m s' := by
  obtain ⟨vt, p1, p2⟩ := j.lt
  obtain ⟨vn, p3, p4⟩ := j.ln
  refine ⟨j.pat, j.told, j.names, ⟨vt, plC p1 c (by simpa using h1), p2.mono fun v it h => ⟨?_, h.2⟩⟩, ⟨vn, plC p3 c (by simpa using h2), p4⟩⟩
  obtain ⟨hi, hn⟩ := h
  cases it with
  | none => exact hi
  | some p =>
    obtain ⟨a, t, rfl, e⟩ := hi
    exact ⟨a, t, rfl, c.get (by simp; rintro rfl; exact hn rfl) e rfl⟩

noncomputable def dBody : List Stmt := match (bodyC 138).drop 1 with | Stmt.For _ _ b _ _ :: _ => b | _ => []
end Mine

-- part E3
namespace Mine
open PySem PySem.W PyProof.Rows
open Sem (wp)
open PySem.SeqAt
open Builtin Builtin.Str

inductive SI (prog : Program) (w : World) (A : Around) (env : Env) (s : Shared) : List Expr → List (List Nat) → Prop
  | nil : SI prog w A env s [] []
  | cons {e : Expr} {es : List Expr} {x : List Nat} {xs : List (List Nat)} (h : ∀ (s' : Shared) (Q : Value → Shared → Prop) (E : Value → Shared → Prop), Kb [] s s' → (∀ t s'', Kb [] s' s'' → Q (.str (mk x) t) s'') → wpAny (model prog w) A (eval e env) Q E s')
      (he : starEach (e :: es) env = (false, eval e env) :: starEach es env) (r : SI prog w A env s es xs) : SI prog w A env s (e :: es) (x :: xs)

section
variable {p prog : Program} {w : World} {hB : Heap} {A : Around} {E : Value → Shared → Prop} {s s' s₀ : Shared} {env : Env} {W₀ : List Addr} {m : Str → Option Value}

theorem si_items {pos : Pos} {es : List Expr} {xs : List (List Nat)} (i : SI prog w A env s es xs) : ∀ (s' : Shared) (Q : List Value → Shared → Prop), Kb [] s s' → (∀ vs s'', Kb [] s' s'' → Strs vs xs → Q vs s'') → wpAny (model prog w) A (spliced (backTo pos (starEach es env))) Q E s' := by
  induction i with
  | nil => exact fun s' Q k h => wpAny_items_nil (h [] s' (Kb.refl _ _) .nil)
  | cons hv he r ih =>
    intro s' Q k h
    refine wpAny_items_cons (hv s' _ _ k fun t s₁ k₁ => ih s₁ _ (k.trans k₁) fun vs s₂ k₂ hS => h _ s₂ (k₁.trans k₂) (.cons ⟨t, rfl⟩ hS)) he
theorem si_const {y : Str} {x : List Nat} {k : Nat} {pos : Pos} {es : List Expr} {xs : List (List Nat)} (hy : y = mk x) (he : starEach (.Constant (.str y) k pos :: es) env = (false, eval (.Constant (.str y) k pos) env) :: starEach es env) (r : SI prog w A env s es xs) :
    SI prog w A env s (.Constant (.str y) k pos :: es) (x :: xs) :=
  .cons (fun s' Q E kb h => cStr fun t s'' k'' => by rw [hy]; exact h t s'' k'') he r
theorem si_name {n : Str} {x : List Nat} {t : Tok} {pos : Pos} {es : List Expr} {xs : List (List Nat)} (a : Act W₀ env s₀ s m) (hk : isV (env.kindOf n) = true) (hm : m n = some (.str (mk x) t)) (he : starEach (.Name n pos :: es) env = (false, eval (.Name n pos) env) :: starEach es env) (r : SI prog w A env s es xs)
    (hd : (n == ("__debug__" : Str)) = false := by decide +kernel) :
    SI prog w A env s (.Name n pos :: es) (x :: xs) :=
  .cons (fun s' Q E kb h => (a.kp kb).name hk hm (h t s' (Kb.refl _ _)) hd) he r

/-- an item of a list of strs just written -/
theorem si_pick {es : List Expr} {xs : List (List Nat)} {lp pos : Pos} {slice : Expr} {k : Nat} {x : List Nat} {Q : Value → Shared → Prop} (i : SI prog w A env s es xs) (hx : xs[k]? = some x) (hl : xs.length ≤ 100)
    (hs : ∀ (s' : Shared) (Q : Value → Shared → Prop), Kb [] s s' → (∀ t, Q (.int (k : Nat) t) s') → wpAny (model prog w) A (eval slice env) Q E s')
    (h : ∀ t s', Kb [] s s' → Q (.str (mk x) t) s')
    (hsub : ∀ l u, subscripted slice false (.ref l) (.int (k : Nat) u) = operate [.ref l, .int (k : Nat) u] (getItem (.ref l) (.int (k : Nat) u)) := by intro _ _; with_unfolding_all rfl) :
    wpAny (model prog w) A (eval (.Subscript (.List es lp) slice pos) env) Q E s := by
  have h24 : sizeLine = 16777216 := rfl
  refine Subscript_ (listMade (si_items i s _ (Kb.refl _ _) fun vs s₁ k₁ hS => ⟨by have := Paired.length hS; omega, fun l s₂ k₂ hl' hpl => ?_⟩))
  refine hs s₂ _ (k₁.trans k₂) fun t => ?_
  have hk : k < xs.length := (List.getElem?_eq_some_iff.mp hx).1
  have hlen : vs.length = xs.length := Paired.length hS
  obtain ⟨x', h1, u, h2⟩ := Mine.Paired.get hS k vs[k] (List.getElem?_eq_getElem (by omega))
  rw [hx] at h1; cases h1
  refine item_listR hpl.isList (by omega) (by omega) (x := .str (mk x) u) ?_ (h u s₂ (k₁.trans k₂)) (hsub l t)
  simp only [Int.toNat_natCast]
  rw [List.getElem?_toArray, List.getElem?_eq_getElem (by omega), h2]

theorem act_many2 : ∀ (nps : List (Str × Pos)) (vs : List Value) (m : Str → Option Value) (s : Shared) (Q : Unit → Shared → Prop), nps.length = vs.length → Act W₀ env s₀ s m → (∀ x ∈ nps, isV (env.kindOf x.1) = true) →
    (∀ s', Act W₀ env s₀ s' (bindAll m ((nps.map (·.1)).zip vs)) → Ch [] s s' → Q () s') → wpAny (model prog w) A (assignInOrder (nps.map fun n => assign (.Name n.1 n.2) env) vs) Q E s
  | [], [], m, s, Q, _, a, _, h => wpAny_assignInOrder_none (h s a (Ch.refl _ _))
  | n :: ns, v :: vs, m, s, Q, hl, a, hk, h => by
    refine wpAny_assignInOrder_more (assign_Name (a.store (hk n List.mem_cons_self) fun s₁ a₁ c₁ => ?_))
    exact act_many2 ns vs _ _ _ (by simpa using hl) a₁ (fun x hx => hk x (List.mem_cons_of_mem _ hx)) fun s₂ a₂ c₂ => h s₂ a₂ (c₁.trans c₂)
  | [], _ :: _, _, _, _, hl, _, _, _ => by simp at hl
  | _ :: _, [], _, _, _, hl, _, _, _ => by simp at hl
theorem unpackTo {elts : List Expr} {k : Nat} {tpos : Pos} {t : Addr} {items : Array Value} (nps : List (Str × Pos)) {Q : Unit → Shared → Prop} (hh : A.handled = none) (ht : s.heap.get? t = some { cls := .type "tuple", data := .seq items }) (hn : items.size = nps.length) (a : Act W₀ env s₀ s m)
    (h : ∀ s', Act W₀ env s₀ s' (bindAll m ((nps.map (·.1)).zip items.toList)) → Ch [] s s' → Q () s')
    (hk : ∀ x ∈ nps, isV (env.kindOf x.1) = true) (hT : assignEach elts env = nps.map fun n => (false, assign (.Name n.1 n.2) env)) :
    wpAny (model prog w) A (assign (.Tuple elts k tpos) env (.ref t)) Q E s := by
  rw [PyProof.Rows.assign_Tuple]
  refine wpAny_bind (wpAny_standAt ?_)
  rw [hT]
  refine wpAny_unpack_tuple hh ⟨_, ht, rfl, _, rfl⟩ (by simp [hn]) ?_ fun h' he => ?_
  · rw [List.findIdx?_eq_none_iff]; intro x hx; obtain ⟨y, _, rfl⟩ := List.mem_map.mp hx; rfl
  · have k : Kb [] s { s with heap := h' } := ⟨h', s.toks, _, rfl, fun b o _ e => he b o (Nat.ne_of_lt (Heap.lt_size e)) e⟩
    have := act_many2 (E := E) (prog := prog) (w := w) (A := A) nps items.toList m { s with heap := h' } Q (by simp [hn]) (a.kp k) hk fun s₂ a₂ c₂ => h s₂ a₂ (k.ch.trans c₂)
    simpa [List.map_map, Function.comp_def] using this
theorem tupStore2 {elts : List Expr} {k : Nat} {tpos : Pos} {value : Expr} {pos : Pos} (nps : List (Str × Pos)) {Q : Flow → Shared → Prop} (hh : A.handled = none)
    (h : wpAny (model prog w) A (eval value env) (fun v s₁ => ∃ t items m₁, v = .ref t ∧ s₁.heap.get? t = some { cls := .type "tuple", data := .seq items } ∧ items.size = nps.length ∧ Act W₀ env s₀ s₁ m₁ ∧
      ∀ s', Act W₀ env s₀ s' (bindAll m₁ ((nps.map (·.1)).zip items.toList)) → Ch [] s₁ s' → Q .next s') E s)
    (hk : ∀ x ∈ nps, isV (env.kindOf x.1) = true) (hT : assignEach elts env = nps.map fun n => (false, assign (.Name n.1 n.2) env))
    (hs : swapsWithSole [.Tuple elts k tpos] value pos.line env = pure false := by rfl)
    (hw : swappedStores [.Tuple elts k tpos] value env = pure none := by rfl) :
    wpAny (model prog w) A (exec (.Assign [.Tuple elts k tpos] value pos) env) Q E s := by
  refine Assign_Tuple (wpAny_mono h (fun v s₁ h₁ => ?_) fun _ _ x => x) hs hw
  obtain ⟨t, items, m₁, rfl, ho, hn, a, hq⟩ := h₁
  exact unpackTo nps hh ho hn a hq hk hT

theorem code_eq (x : Int) : x.fmod 884736 = (code x : Int) := by
  unfold code
  rw [Int.toNat_of_nonneg]
  rw [Int.fmod_eq_emod_of_nonneg _ (by decide)]
  exact Int.emod_nonneg _ (by decide)

set_option maxHeartbeats 4000000 in
/-- the first three statements -/
theorem drawn_A (B : Bd p w hB) {L : Addr} {x : Int} {tx : Tok} {lt ln I : Addr} {d : DS} (X₀ : Ext hB s₀.heap) (a : Act [] (callEnvC (fdC 138) L 138) s₀ s m) (hx : m (Str.ofString "x") = some (.int x tx)) (j : DJ lt ln d I m s) (r : Rm A 1) {Q : Flow → Shared → Prop} {E : Value → Shared → Prop}
    (h : ∀ s' m', Act [] (callEnvC (fdC 138) L 138) s₀ s' m' → DJ lt ln d I m' s' → Ch [] s s' → (∃ t, m' (Str.ofString "kind") = some (.int (kd x : Nat) t)) → (∃ t, m' (Str.ofString "sign") = some (.str (mk (signOf (kd x) (fr x))) t)) → wpAny (model prog w) A (execs (dBody.drop 3) (callEnvC (fdC 138) L 138)) Q E s') :
    wpAny (model prog w) A (execs dBody (callEnvC (fdC 138) L 138)) Q E s := by
  have X : Ext hB s.heap := X₀.trans a.base.ext
  refine wpAny_execs_cons (tupStore2 (W₀ := []) (s₀ := s₀) [(Str.ofString "rest", _), (Str.ofString "kind", _)] r.h ?_ (by intro x hx; simp only [List.mem_cons, List.not_mem_nil, or_false] at hx; rcases hx with rfl | rfl <;> rfl) (by rfl))
  refine Call_val (B.built X (v := .builtin "divmod") (by rfl) (by rfl) (by decide +kernel) ⟨fun a => by simp, ?_⟩)
  refine wpAny_items_cons (wpAny_BinOp (a.name (by rfl) hx (cInt fun t₁ s₁ k₁ => ?_)))
  refine PyProof.Rows.mod_int (by decide) ?_
  have k₂ : Kb [] s { s₁ with toks := s₁.toks + 1 } := k₁.trans (toks _ _)
  generalize s₁.toks = tm at k₂
  generalize ({ s₁ with toks := tm + 1 } : Shared) = s₂ at k₂ ⊢
  rw [code_eq]
  have hcl : code x < 884736 := by
    have h1 := code_eq x
    have h2 : x.fmod 884736 < 884736 := Int.fmod_lt_of_pos _ (by decide)
    omega
  refine wpAny_items_cons (cInt fun t₃ s₃ k₃ => wpAny_items_nil ?_)
  refine divmod_int (by decide) ?_ (hp := Or.inl (PyProof.noPylong_small (by omega)))
  have hd1 : ((code x : Nat) : Int).fdiv 16 = ((code x / 16 : Nat) : Int) := by
    rw [Int.fdiv_eq_ediv_of_nonneg _ (by decide)]; omega
  have hd2 : ((code x : Nat) : Int).fmod 16 = ((kd x : Nat) : Int) := by
    rw [Int.fmod_eq_emod_of_nonneg _ (by decide)]; unfold kd; omega
  rw [hd1, hd2]
  have k₄ : Kb [] s { s₃ with toks := s₃.toks + 1 + 1, heap := s₃.heap.push { cls := .type "tuple", data := .seq #[.int ((code x / 16 : Nat) : Int) s₃.toks, .int ((kd x : Nat) : Int) (s₃.toks + 1)] } } := (k₂.trans k₃).trans (Kb.push _ _ _)
  refine ⟨_, _, _, rfl, Heap.get?_push_size _ rfl, rfl, a.kp k₄, fun s₅ a₅ c₅ => ?_⟩
  have j₅ := ((j.ch (k₄.ch.trans c₅)).upd (x := "rest") (v := .int ((code x / 16 : Nat) : Int) s₃.toks) (by decide)).upd (x := "kind") (v := .int ((kd x : Nat) : Int) (s₃.toks + 1)) (by decide)
  change Act [] _ s₀ s₅ (upd (upd m (Str.ofString "rest") (.int ((code x / 16 : Nat) : Int) s₃.toks)) (Str.ofString "kind") (.int ((kd x : Nat) : Int) (s₃.toks + 1))) at a₅
  have c₅' := k₄.ch.trans c₅
  clear c₅ k₄
  generalize s₃.toks = t3 at a₅ j₅
  -- free
  have X₅ : Ext hB s₅.heap := X₀.trans a₅.base.ext
  refine wpAny_execs_cons (wpAny_Assign_Name (Call_val (B.built X₅ (v := .builtin "chr") (by rfl) (by rfl) (by decide +kernel) ⟨fun a => by simp, ?_⟩)))
  refine wpAny_items_cons (wpAny_BinOp (wpAny_BinOp (a₅.name (by rfl) (upd_ne (str_ne (by decide)) upd_eq) (cInt fun t₆ s₆ k₆ => addNat (b := 42) fun t₇ s₇ k₇ => cInt fun t₈ s₈ k₈ => ?_))))
  refine PyProof.Rows.mod_int (by decide) ?_
  have hfr : ((code x / 16 + 42 : Nat) : Int).fmod 55296 = ((fr x : Nat) : Int) := by
    rw [Int.fmod_eq_emod_of_nonneg _ (by decide)]; unfold fr; omega
  rw [hfr]
  have hfl := fr_lt x
  refine wpAny_items_nil (P.chr_of_int ?_ ?_)
  · simp; omega
  have k₉ : Kb [] s₅ { s₈ with toks := s₈.toks + 1 + 1 } := k₆.trans (k₇.trans (k₈.trans (toks _ _)))
  rw [show (⟨#[((fr x : Nat) : Int).toNat]⟩ : Str) = mk [fr x] by simp [mk]]
  refine (a₅.kp k₉).store (by rfl) fun s₁₀ a₁₀ c₁₀ => ?_
  have j₁₀ := (j₅.ch (k₉.ch.trans c₁₀)).upd (x := "free") (v := .str (mk [fr x]) (s₈.toks + 1)) (by decide)
  -- sign
  have hfree : upd (upd (upd m (Str.ofString "rest") (.int ((code x / 16 : Nat) : Int) t3)) (Str.ofString "kind") (.int ((kd x : Nat) : Int) (t3 + 1))) (Str.ofString "free") (.str (mk [fr x]) (s₈.toks + 1)) (Str.ofString "free") = some (.str (mk [fr x]) (s₈.toks + 1)) := upd_eq
  have hkind : upd (upd (upd m (Str.ofString "rest") (.int ((code x / 16 : Nat) : Int) t3)) (Str.ofString "kind") (.int ((kd x : Nat) : Int) (t3 + 1))) (Str.ofString "free") (.str (mk [fr x]) (s₈.toks + 1)) (Str.ofString "kind") = some (.int ((kd x : Nat) : Int) (t3 + 1)) := upd_ne (str_ne (by decide)) upd_eq
  generalize upd (upd (upd m (Str.ofString "rest") (.int ((code x / 16 : Nat) : Int) t3)) (Str.ofString "kind") (.int ((kd x : Nat) : Int) (t3 + 1))) (Str.ofString "free") (.str (mk [fr x]) (s₈.toks + 1)) = m1 at a₁₀ j₁₀ hfree hkind
  have c₁₀' := c₅'.trans (k₉.ch.trans c₁₀)
  refine wpAny_execs_cons (wpAny_Assign_Name (si_pick (k := kd x) (x := signOf (kd x) (fr x)) (xs := signs16 (fr x)) ?_ (signOf_at (kd_lt x)) (by simp [signs16]) (fun s' Q kb hq => (a₁₀.kp kb).name (by rfl) hkind (hq _)) fun t₁₁ s₁₁ k₁₁ => ?_))
  · have e0 : (Str.ofString "" : Str) = mk [] := by decide +kernel
    have ea : (Str.ofString "a" : Str) = mk [97] := by decide +kernel
    have eb : (Str.ofString "b" : Str) = mk [98] := by decide +kernel
    have ed : (Str.ofString "." : Str) = mk [46] := by decide +kernel
    have eda : (Str.ofString ".a" : Str) = mk [46, 97] := by decide +kernel
    exact si_const e0 (by rfl) (si_name a₁₀ (by rfl) hfree (by rfl) (si_const e0 (by rfl) (si_const e0 (by rfl) (si_const eb (by rfl) (si_const ed (by rfl) (si_const ea (by rfl) (si_const e0 (by rfl) (si_const ea (by rfl) (si_const eb (by rfl) (si_const ed (by rfl) (si_name a₁₀ (by rfl) hfree (by rfl)
      (si_const ea (by rfl) (si_const ed (by rfl) (si_name a₁₀ (by rfl) hfree (by rfl) (si_const eda (by rfl) .nil)))))))))))))))
  refine (a₁₀.kp k₁₁).store (by rfl) fun s₁₂ a₁₂ c₁₂ => ?_
  exact h s₁₂ _ a₁₂ ((j₁₀.ch (k₁₁.ch.trans c₁₂)).upd (by decide)) (c₁₀'.trans (k₁₁.ch.trans c₁₂)) ⟨_, upd_ne (str_ne (by decide)) hkind⟩ ⟨_, upd_eq⟩
end
end Mine

-- part E4
namespace Mine
open PySem PySem.W PyProof.Rows
open Sem (wp)
open PySem.SeqAt
open Builtin Builtin.Str

section
variable {p prog : Program} {w : World} {hB : Heap} {A : Around} {E : Value → Shared → Prop} {s s' s₀ : Shared} {m : Str → Option Value} {lt ln I : Addr} {d : DS}

theorem DJ.setLn (j : DJ lt ln d I m s) (k : Kb [ln] s s') (hne : lt ≠ ln) {vn : List Value} {i' : List (List Nat)} {l' : List Nat} (h1 : s'.heap.PlainList ln vn.toArray) (h2 : Strs vn (i' ++ [l'])) : DJ lt ln ⟨d.ts, d.its, i', l'⟩ I m s' := by
  obtain ⟨vt, p1, p2⟩ := j.lt
  obtain ⟨vn0, p3, _⟩ := j.ln
  exact ⟨j.pat, j.told, j.names, ⟨vt, plK p1 k (by simpa using hne), p2.mono fun v it h => ⟨h.1.im (imK k (by intro b hb; rw [List.mem_singleton] at hb; subst hb; exact pl_nt p3)), h.2⟩⟩, ⟨vn, h1, h2⟩⟩

theorem snocStrs {vs : List Value} {xs : List (List Nat)} {y : List Nat} (h : Strs vs (xs ++ [y])) : ∃ vs0 t, vs = vs0 ++ [.str (mk y) t] ∧ Strs vs0 xs := by
  induction xs generalizing vs with
  | nil =>
    cases h with
    | cons hr hn => cases hn; obtain ⟨t, rfl⟩ := hr; exact ⟨[], t, rfl, .nil⟩
  | cons x xs ih =>
    cases h with
    | cons hr hn =>
      obtain ⟨vs0, t, rfl, h0⟩ := ih hn
      exact ⟨_ :: vs0, t, rfl, .cons hr h0⟩

set_option maxHeartbeats 4000000 in
theorem drawn_B (B : Bd p w hB) {L : Addr} {k c : Nat} (a : Act [] (callEnvC (fdC 138) L 138) s₀ s m) (j : DJ lt ln d I m s) (hln : s₀.heap.get? ln = none) (hne : lt ≠ ln) (hb : d.init.length ≤ 100 ∧ d.last.length ≤ 100) (r : Rm A 1)
    (hk : ∃ t, m (Str.ofString "kind") = some (.int (k : Nat) t)) (hs : ∃ t, m (Str.ofString "sign") = some (.str (mk (signOf k c)) t)) {Q : Flow → Shared → Prop}
    (h : ∀ s', Act [] (callEnvC (fdC 138) L 138) s₀ s' m → DJ lt ln ⟨d.ts, d.its, (dnew d k).1, (dnew d k).2 ++ signOf k c⟩ I m s' → Kb [ln] s s' → wpAny (model prog w) A (execs (dBody.drop 5) (callEnvC (fdC 138) L 138)) Q E s') :
    wpAny (model prog w) A (execs (dBody.drop 3) (callEnvC (fdC 138) L 138)) Q E s := by
  have h24 : sizeLine = 16777216 := rfl
  obtain ⟨tk, hk⟩ := hk
  obtain ⟨ts, hs⟩ := hs
  have hsl := signOf_le k c
  -- the second statement from a state where the list ends in `last`
  have tail : ∀ s₁ (i' : List (List Nat)) (l' : List Nat), Kb [ln] s s₁ → Act [] (callEnvC (fdC 138) L 138) s₀ s₁ m → DJ lt ln ⟨d.ts, d.its, i', l'⟩ I m s₁ → l'.length ≤ 100 → (i', l') = dnew d k →
      wpAny (model prog w) A (execs (dBody.drop 4) (callEnvC (fdC 138) L 138)) Q E s₁ := by
    intro s₁ i' l' k₁ a₁ j₁ hl' he
    obtain ⟨vn, p3, p4⟩ := j₁.ln
    obtain ⟨vs0, t0, rfl, h0⟩ := snocStrs p4
    refine wpAny_execs_cons (wpAny_Assign_Subscript (wpAny_BinOp ?_))
    refine Subscript_ (a₁.name (by rfl) j₁.names (wpAny_UnaryOp (cInt fun t₂ s₂ k₂ => P.neg_int ?_)))
    have k₃ : Kb [] s₁ { s₂ with toks := s₂.toks + 1 } := k₂.trans (toks _ _)
    generalize s₂.toks = t2 at k₃
    generalize ({ s₂ with toks := t2 + 1 } : Shared) = s₃ at k₃ ⊢
    refine itemNeg (x := .str (mk l') t0) (plK0 p3 k₃) (by simp) ?_
    refine (a₁.kp k₃).name (by rfl) hs (addStr (by omega) fun t₄ s₄ k₄ => ?_)
    have k₁₄ := k₃.trans k₄
    refine (a₁.kp k₁₄).name (by rfl) j₁.names (wpAny_UnaryOp (cInt fun t₅ s₅ k₅ => P.neg_int ?_))
    have k₆ : Kb [] s₁ { s₅ with toks := s₅.toks + 1 } := (k₁₄.trans k₅).trans (toks _ _)
    generalize s₅.toks = t5 at k₆
    generalize ({ s₅ with toks := t5 + 1 } : Shared) = s₆ at k₆ ⊢
    refine setLast (plK0 p3 k₆) fun s₇ k₇ hpl₇ => ?_
    have hd : (i', l') = dnew d k := he
    have e1 : i' = (dnew d k).1 := congrArg Prod.fst he
    have e2 : l' = (dnew d k).2 := congrArg Prod.snd he
    refine h s₇ ((a₁.kp k₆).kl (plK0 p3 k₆) hln k₇) ?_ (k₁.trans (k₆.any.trans k₇))
    rw [← e1, ← e2]
    exact (j₁.ch k₆.ch).setLn k₇ hne hpl₇ (pApp h0 (.cons ⟨t₄, rfl⟩ .nil))
  refine wpAny_execs_cons (wpAny_If (wpAny_isTrue_Compare1 (a.name (by rfl) hk (cInt fun t₁ s₁ k₁ => eqNat (b := 7) (wpAny_truthy_bool ?_)))))
  have a₁ := a.kp k₁
  have j₁ := j.ch k₁.ch
  cases e7 : (k == 7) with
  | true =>
    have e7' : k = 7 := by simpa using e7
    simp only [if_true]
    obtain ⟨vn, p3, p4⟩ := j₁.ln
    have hlen := Paired.length p4
    simp at hlen
    refine wpAny_execs_cons (appendStmt (W := []) a₁ (by rfl) j₁.names p3 (by omega) (by simp) (cStr fun t₂ s₂ k₂ => ⟨k₂, fun s₃ k₃ hpl₃ => ?_⟩) (by rfl) (by rfl) (by rfl))
    rw [show Str.ofString "" = mk [] from by decide +kernel] at hpl₃
    refine wpAny_execs_nil (tail s₃ (d.init ++ [d.last]) [] (k₁.any.trans (k₂.any.trans k₃)) ((a₁.kp k₂).kl (plK0 p3 k₂) hln k₃) ((j₁.ch k₂.ch).setLn k₃ hne hpl₃ (pApp p4 (.cons ⟨t₂, rfl⟩ .nil))) (by simp) (by unfold dnew; rw [if_pos e7']))
  | false =>
    have e7' : k ≠ 7 := by simpa using e7
    simp only [Bool.false_eq_true, if_false]
    exact wpAny_execs_nil (tail s₁ d.init d.last k₁.any a₁ j₁ hb.2 (by unfold dnew; rw [if_neg e7']))
end
end Mine

-- part E5
namespace Mine
open PySem PySem.W PyProof.Rows
open Sem (wp)
open PySem.SeqAt
open Builtin Builtin.Str

inductive SJ (prog : Program) (w : World) (A : Around) (env : Env) (s : Shared) (I : Addr) : List Expr → List Item → Prop
  | nil : SJ prog w A env s I [] []
  | cons {e : Expr} {es : List Expr} {x : Item} {xs : List Item} (h : ∀ (s' : Shared) (Q : Value → Shared → Prop) (E : Value → Shared → Prop), Kb [] s s' → (∀ v s'', Kb [] s' s'' → IsIt s''.heap x v → v ≠ .ref I → Q v s'') → wpAny (model prog w) A (eval e env) Q E s')
      (he : starEach (e :: es) env = (false, eval e env) :: starEach es env) (r : SJ prog w A env s I es xs) : SJ prog w A env s I (e :: es) (x :: xs)

section
variable {p prog : Program} {w : World} {hB : Heap} {A : Around} {E : Value → Shared → Prop} {s s' s₀ : Shared} {m : Str → Option Value} {lt ln I : Addr} {d : DS} {env : Env}

theorem sj_items {pos : Pos} {es : List Expr} {xs : List Item} (i : SJ prog w A env s I es xs) : ∀ (s' : Shared) (Q : List Value → Shared → Prop), Kb [] s s' → (∀ vs s'', Kb [] s' s'' → Paired (fun v it => IsIt s''.heap it v ∧ v ≠ .ref I) vs xs → Q vs s'') → wpAny (model prog w) A (spliced (backTo pos (starEach es env))) Q E s' := by
  induction i with
  | nil => exact fun s' Q k h => wpAny_items_nil (h [] s' (Kb.refl _ _) .nil)
  | cons hv he r ih =>
    intro s' Q k h
    refine wpAny_items_cons (hv s' _ _ k fun v s₁ k₁ hit hne => ih s₁ _ (k.trans k₁) fun vs s₂ k₂ hS => h _ s₂ (k₁.trans k₂) (.cons ⟨hit.im (imK k₂ (by simp)), hne⟩ hS)) he
theorem sj_none {k : Nat} {pos : Pos} {es : List Expr} {xs : List Item} (he : starEach (.Constant .none k pos :: es) env = (false, eval (.Constant .none k pos) env) :: starEach es env) (r : SJ prog w A env s I es xs) :
    SJ prog w A env s I (.Constant .none k pos :: es) (none :: xs) :=
  .cons (fun s' Q E kb h => cNone (h _ s' (Kb.refl _ _) rfl (fun e => nomatch e))) he r
theorem tup2 {b : Bool} {y : Str} {x : List Nat} {k k2 kt : Nat} {p1 p2 pt : Pos} {Q : Value → Shared → Prop} (hI : ∃ o, s.heap.get? I = some o) (hy : y = mk x)
    (h : ∀ v s'', Kb [] s s'' → IsIt s''.heap (some (b, x)) v → v ≠ .ref I → Q v s'') (he : starEach [.Constant (.bool b) k p1, .Constant (.str y) k2 p2] env = (false, eval (.Constant (.bool b) k p1) env) :: starEach [.Constant (.str y) k2 p2] env) (he2 : starEach [.Constant (.str y) k2 p2] env = (false, eval (.Constant (.str y) k2 p2) env) :: starEach [] env) :
    wpAny (model prog w) A (eval (.Tuple [.Constant (.bool b) k p1, .Constant (.str y) k2 p2] kt pt) env) Q E s := by
  refine tupleMade (wpAny_items_cons (cBool (wpAny_items_cons (cStr fun t s₁ k₁ => wpAny_items_nil ⟨by show 2 ≤ sizeLine; decide, fun a s₂ k₂ ha hoa => ?_⟩) he2)) he)
  refine h _ s₂ (k₁.trans k₂) ⟨a, t, rfl, by rw [hoa, hy]⟩ ?_
  rintro e
  cases e
  obtain ⟨o, ho⟩ := hI
  rw [k₁.get0 ho] at ha; cases ha
theorem sj_tup {b : Bool} {y : Str} {x : List Nat} {k k2 kt : Nat} {p1 p2 pt : Pos} {es : List Expr} {xs : List Item} (hI : ∃ o, s.heap.get? I = some o) (hy : y = mk x)
    (h1 : starEach [.Constant (.bool b) k p1, .Constant (.str y) k2 p2] env = (false, eval (.Constant (.bool b) k p1) env) :: starEach [.Constant (.str y) k2 p2] env) (h2 : starEach [.Constant (.str y) k2 p2] env = (false, eval (.Constant (.str y) k2 p2) env) :: starEach [] env)
    (he : starEach (.Tuple [.Constant (.bool b) k p1, .Constant (.str y) k2 p2] kt pt :: es) env = (false, eval (.Tuple [.Constant (.bool b) k p1, .Constant (.str y) k2 p2] kt pt) env) :: starEach es env) (r : SJ prog w A env s I es xs) :
    SJ prog w A env s I (.Tuple [.Constant (.bool b) k p1, .Constant (.str y) k2 p2] kt pt :: es) (some (b, x) :: xs) :=
  .cons (fun s' Q E kb h => tup2 (by obtain ⟨o, ho⟩ := hI; exact ⟨o, kb.get0 ho⟩) hy h h1 h2) he r

theorem sj_pick {es : List Expr} {xs : List Item} {lp pos : Pos} {slice : Expr} {k : Nat} {x : Item} {Q : Value → Shared → Prop} (i : SJ prog w A env s I es xs) (hx : xs[k]? = some x) (hl : xs.length ≤ 100)
    (hs : ∀ (s' : Shared) (Q : Value → Shared → Prop), Kb [] s s' → (∀ t, Q (.int (k : Nat) t) s') → wpAny (model prog w) A (eval slice env) Q E s')
    (h : ∀ v s', Kb [] s s' → IsIt s'.heap x v → v ≠ .ref I → Q v s')
    (hsub : ∀ l u, subscripted slice false (.ref l) (.int (k : Nat) u) = operate [.ref l, .int (k : Nat) u] (getItem (.ref l) (.int (k : Nat) u)) := by intro _ _; with_unfolding_all rfl) :
    wpAny (model prog w) A (eval (.Subscript (.List es lp) slice pos) env) Q E s := by
  have h24 : sizeLine = 16777216 := rfl
  refine Subscript_ (listMade (sj_items i s _ (Kb.refl _ _) fun vs s₁ k₁ hS => ⟨by have := Paired.length hS; omega, fun l s₂ k₂ hl' hpl => ?_⟩))
  refine hs s₂ _ (k₁.trans k₂) fun t => ?_
  have hk : k < xs.length := (List.getElem?_eq_some_iff.mp hx).1
  have hlen : vs.length = xs.length := Paired.length hS
  obtain ⟨x', h1, h2, h3⟩ := Mine.Paired.get hS k vs[k] (List.getElem?_eq_getElem (by omega))
  rw [hx] at h1; cases h1
  refine item_listR hpl.isList (by omega) (by omega) (x := vs[k]) ?_ (h _ s₂ (k₁.trans k₂) (h2.im (imK k₂ (by simp))) h3) (hsub l t)
  simp only [Int.toNat_natCast]
  rw [List.getElem?_toArray, List.getElem?_eq_getElem (by omega)]

theorem inSigns (c : Nat) : (!(occurrences (mk [42, 63, 91]) (mk [c]) 0 (mk [42, 63, 91]).length 1).isEmpty) = (decide (c = 42 ∨ c = 63 ∨ c = 91)) := by
  rw [show mk [c] = ⟨#[c]⟩ from rfl, StrLaws.found_one, mk_toList]
  simp

theorem DJ.setLt (j : DJ lt ln d I m s) (k : Kb [lt] s s') (hne : lt ≠ ln) {vt : List Value} {its : List Item} {ts : List Tk} {m' : Str → Option Value} (hp : ∃ t, m' (Str.ofString "pattern") = some (.str (Mine.mk (rend ts)) t)) (h2 : m' (Str.ofString "told") = some (.ref lt)) (h3 : m' (Str.ofString "names") = some (.ref ln))
    (h4 : s'.heap.PlainList lt vt.toArray) (h5 : Paired (fun v it => IsIt s'.heap it v ∧ v ≠ .ref I) vt its) : DJ lt ln ⟨ts, its, d.init, d.last⟩ I m' s' := by
  obtain ⟨vn, p3, p4⟩ := j.ln
  exact ⟨hp, h2, h3, ⟨vt, h4, h5⟩, ⟨vn, plK p3 k (by simpa using Ne.symm hne), p4⟩⟩

theorem pats7 {k : Nat} (hk : k < 7) : ∃ tk it x, toks7[k]? = some tk ∧ its7[k]? = some it ∧ ([[42], [63], [97], [46], [91, 33, 97, 93], [91, 46, 98, 93], [91, 33, 46, 93]] : List (List Nat))[k]? = some x ∧ rend1 tk = x := by
  have : k = 0 ∨ k = 1 ∨ k = 2 ∨ k = 3 ∨ k = 4 ∨ k = 5 ∨ k = 6 := by omega
  rcases this with rfl | rfl | rfl | rfl | rfl | rfl | rfl <;> exact ⟨_, _, _, rfl, rfl, rfl, rfl⟩

end
end Mine

-- part E6
namespace Mine
open PySem PySem.W PyProof.Rows
open Sem (wp)
open PySem.SeqAt
open Builtin Builtin.Str

noncomputable def dB7 : List Stmt := match dBody.drop 6 with | Stmt.If _ b _ _ :: _ => b | _ => []
noncomputable def dB11 : List Stmt := match dBody.drop 6 with | Stmt.If _ _ [Stmt.If _ b _ _] _ :: _ => b | _ => []
section
variable {p prog : Program} {w : World} {hB : Heap} {A : Around} {E : Value → Shared → Prop} {s s' s₀ : Shared} {m : Str → Option Value} {lt ln I : Addr} {d : DS} {env : Env}

set_option maxHeartbeats 400000 in
theorem drawn_C7 {L : Addr} {kk : Nat} {tkk : Tk} {it : Item} {px : List Nat} (a : Act [] (callEnvC (fdC 138) L 138) s₀ s m) (j : DJ lt ln d I m s) (hlt : s₀.heap.get? lt = none) (hne : lt ≠ ln) (hI : ∃ o, s.heap.get? I = some o) (hIv : ∀ o, s.heap.get? I = some o → isVar o = false) (hb : (rend d.ts).length ≤ 100 ∧ d.its.length ≤ 100)
    (hk : ∃ t, m (Str.ofString "kind") = some (.int (kk : Nat) t)) (hpx : px.length ≤ 4) (e2 : its7[kk]? = some it) (e3 : ([[42], [63], [97], [46], [91, 33, 97, 93], [91, 46, 98, 93], [91, 33, 46, 93]] : List (List Nat))[kk]? = some px) (e4 : rend1 tkk = px) :
    wpAny (model prog w) A (execs dB7 (callEnvC (fdC 138) L 138)) (fun f s'' => f = .next ∧ ∃ m'', Act [] (callEnvC (fdC 138) L 138) s₀ s'' m'' ∧ DJ lt ln ⟨d.ts ++ [tkk], d.its ++ [it], d.init, d.last⟩ I m'' s'' ∧ Ch [lt] s s'') (fun _ _ => False) s := by
  have h24 : sizeLine = 16777216 := rfl
  obtain ⟨tk1, hk1⟩ := hk
  obtain ⟨tp, hp⟩ := j.pat
  refine wpAny_execs_cons (wpAny_Assign_Name (wpAny_BinOp (a.name (by rfl) hp (si_pick (k := kk) (x := px) ?_ e3 (by simp) (fun s' Q kb hq => (a.kp kb).name (by rfl) hk1 (hq _)) fun t₃ s₃ k₃ => ?_))))
  · exact si_const (by decide +kernel) (by rfl) (si_const (by decide +kernel) (by rfl) (si_const (by decide +kernel) (by rfl) (si_const (by decide +kernel) (by rfl) (si_const (by decide +kernel) (by rfl) (si_const (by decide +kernel) (by rfl) (si_const (by decide +kernel) (by rfl) .nil))))))
  refine addStr (by omega) fun t₄ s₄ k₄ => ?_
  have k₂₄ := k₃.trans k₄
  refine (a.kp k₂₄).store (by rfl) fun s₅ a₅ c₅ => ?_
  have c₂₅ := k₂₄.ch.trans c₅
  have j₅ := j.ch c₂₅
  have hI₅ : ∃ o, s₅.heap.get? I = some o := by obtain ⟨o, ho⟩ := hI; exact ⟨o, c₂₅.get0 ho (hIv o ho)⟩
  obtain ⟨vt, p1, p2⟩ := j₅.lt
  have hlen : vt.length = d.its.length := Paired.length p2
  have hk5 := upd_ne (v := .str (mk (rend d.ts ++ px)) t₄) (x := Str.ofString "pattern") (str_ne (a := "kind") (b := "pattern") (by decide)) hk1
  have htold5 := upd_ne (v := .str (mk (rend d.ts ++ px)) t₄) (x := Str.ofString "pattern") (str_ne (a := "told") (b := "pattern") (by decide)) j₅.told
  have hnam5 := upd_ne (v := .str (mk (rend d.ts ++ px)) t₄) (x := Str.ofString "pattern") (str_ne (a := "names") (b := "pattern") (by decide)) j₅.names
  have hpat5 := upd_eq (m := m) (v := .str (mk (rend d.ts ++ px)) t₄) (x := Str.ofString "pattern")
  generalize upd m (Str.ofString "pattern") (.str (mk (rend d.ts ++ px)) t₄) = m5 at a₅ hk5 htold5 hnam5 hpat5
  refine wpAny_execs_cons (appendStmt (W := []) a₅ (by rfl) htold5 p1 (by omega) (by simp) ?_ (by rfl) (by rfl) (by rfl))
  refine sj_pick (I := I) (k := kk) (x := it) (xs := ?xs) ?A ?A2 ?A3 ?B ?C ?D
  case xs => exact [none, some (true, []), some (false, [97]), some (false, [46]), some (true, [97]), some (false, [46, 98]), some (true, [46])]
  case A2 => exact e2
  case A3 => simp
  case B => exact fun s' Q kb hq => (a₅.kp kb).name (by rfl) hk5 (hq _)
  case D => intro _ _; with_unfolding_all rfl
  case A => exact sj_none (by rfl) (sj_tup hI₅ (by decide +kernel) (by rfl) (by rfl) (by rfl) (sj_tup hI₅ (by decide +kernel) (by rfl) (by rfl) (by rfl) (sj_tup hI₅ (by decide +kernel) (by rfl) (by rfl) (by rfl) (sj_tup hI₅ (by decide +kernel) (by rfl) (by rfl) (by rfl) (sj_tup hI₅ (by decide +kernel) (by rfl) (by rfl) (by rfl) (sj_tup hI₅ (by decide +kernel) (by rfl) (by rfl) (by rfl) .nil))))))
  intro v s₆ k₆ hit hvI
  refine ⟨k₆, fun s₇ k₇ hpl₇ => ?_⟩
  have p1' := plK0 p1 k₆
  have im7 := imK k₇ (by intro b hb; rw [List.mem_singleton] at hb; subst hb; exact pl_nt p1')
  refine wpAny_execs_nil ⟨rfl, m5, (a₅.kp k₆).kl p1' hlt k₇, ?_, c₂₅.any.trans (k₆.ch.any.trans k₇.ch)⟩
  refine (j₅.ch k₆.ch).setLt k₇ hne ⟨t₄, ?_⟩ htold5 hnam5 hpl₇ ?_
  · rw [hpat5, rend_app, ← e4]; simp [rend]
  · exact pApp (p2.mono fun v it h => ⟨(h.1.im (imK k₆ (by simp))).im im7, h.2⟩) (.cons ⟨hit.im im7, hvI⟩ .nil)

set_option maxHeartbeats 1000000 in
theorem drawn_C11 {L : Addr} {c : Nat} (a : Act [] (callEnvC (fdC 138) L 138) s₀ s m) (j : DJ lt ln d I m s) (hlt : s₀.heap.get? lt = none) (hne : lt ≠ ln) (hI : ∃ o, s.heap.get? I = some o) (hIv : ∀ o, s.heap.get? I = some o → isVar o = false) (hb : (rend d.ts).length ≤ 100 ∧ d.its.length ≤ 100)
    (hs : ∃ t, m (Str.ofString "sign") = some (.str (mk [c]) t)) :
    wpAny (model prog w) A (execs dB11 (callEnvC (fdC 138) L 138)) (fun f s'' => f = .next ∧ ∃ m'', Act [] (callEnvC (fdC 138) L 138) s₀ s'' m'' ∧ DJ lt ln ⟨d.ts ++ [litTk c], d.its ++ [some (false, [c])], d.init, d.last⟩ I m'' s'' ∧ Ch [lt] s s'') (fun _ _ => False) s := by
  have h24 : sizeLine = 16777216 := rfl
  obtain ⟨tsg, hs⟩ := hs
  obtain ⟨tp, hp⟩ := j.pat
  have hrl : (rend1 (litTk c)).length ≤ 3 := by unfold litTk; split <;> simp [rend1]
  -- the text of the token
  refine wpAny_execs_cons (wpAny_Assign_Name (wpAny_BinOp (a.name (by rfl) hp (wpAny_mono (?_ : wpAny _ _ _ (fun v s₁ => ∃ t, v = .str (mk (rend1 (litTk c))) t ∧ Kb [] s s₁) _ _) (fun v s₁ h₁ => ?_) fun _ _ e => e))))
  · refine wpAny_IfExp (wpAny_isTrue_Compare1 (a.name (by rfl) hs (cStr fun t₁ s₁ k₁ => ?_)))
    rw [show Str.ofString "*?[" = mk [42, 63, 91] from by decide +kernel]
    refine P.in_str (wpAny_truthy_bool ?_)
    rw [inSigns]
    by_cases hc : c = 42 ∨ c = 63 ∨ c = 91
    · rw [show decide (c = 42 ∨ c = 63 ∨ c = 91) = true from by simpa using hc]
      simp only [if_true]
      have el : rend1 (litTk c) = [91] ++ [c] ++ [93] := by unfold litTk; rw [if_pos hc]; rfl
      refine wpAny_BinOp (wpAny_BinOp (cStr fun t₂ s₂ k₂ => (a.kp (k₁.trans k₂)).name (by rfl) hs (addStrE [91] (by simp; omega) fun t₃ s₃ k₃ => cStr fun t₄ s₄ k₄ => ?_)))
      rw [show Str.ofString "]" = mk [93] from by decide +kernel]
      refine addStr (by simp; omega) fun t₅ s₅ k₅ => ⟨t₅, by rw [el], k₁.trans (k₂.trans (k₃.trans (k₄.trans k₅)))⟩
    · rw [show decide (c = 42 ∨ c = 63 ∨ c = 91) = false from by simpa using hc]
      simp only [Bool.false_eq_true, if_false]
      have el : rend1 (litTk c) = [c] := by unfold litTk; rw [if_neg hc]; rfl
      exact (a.kp k₁).name (by rfl) hs ⟨tsg, by rw [el], k₁⟩
  obtain ⟨t₂, rfl, k₂⟩ := h₁
  refine addStr (by omega) fun t₄ s₄ k₄ => ?_
  have k₂₄ := k₂.trans k₄
  refine (a.kp k₂₄).store (by rfl) fun s₅ a₅ c₅ => ?_
  have c₂₅ := k₂₄.ch.trans c₅
  have j₅ := j.ch c₂₅
  have hI₅ : ∃ o, s₅.heap.get? I = some o := by obtain ⟨o, ho⟩ := hI; exact ⟨o, c₂₅.get0 ho (hIv o ho)⟩
  obtain ⟨vt, p1, p2⟩ := j₅.lt
  have hlen : vt.length = d.its.length := Paired.length p2
  have hs5 := upd_ne (v := .str (mk (rend d.ts ++ rend1 (litTk c))) t₄) (x := Str.ofString "pattern") (str_ne (a := "sign") (b := "pattern") (by decide)) hs
  have htold5 := upd_ne (v := .str (mk (rend d.ts ++ rend1 (litTk c))) t₄) (x := Str.ofString "pattern") (str_ne (a := "told") (b := "pattern") (by decide)) j₅.told
  have hnam5 := upd_ne (v := .str (mk (rend d.ts ++ rend1 (litTk c))) t₄) (x := Str.ofString "pattern") (str_ne (a := "names") (b := "pattern") (by decide)) j₅.names
  have hpat5 := upd_eq (m := m) (v := .str (mk (rend d.ts ++ rend1 (litTk c))) t₄) (x := Str.ofString "pattern")
  generalize upd m (Str.ofString "pattern") (.str (mk (rend d.ts ++ rend1 (litTk c))) t₄) = m5 at a₅ hs5 htold5 hnam5 hpat5
  refine wpAny_execs_cons (appendStmt (W := []) a₅ (by rfl) htold5 p1 (by omega) (by simp) ?_ (by rfl) (by rfl) (by rfl))
  refine tupleMade (wpAny_items_cons (cBool (wpAny_items_cons (a₅.name (by rfl) hs5 (wpAny_items_nil ⟨by show 2 ≤ sizeLine; decide, fun at_ s₆ k₆ ha hoa => ?_⟩)))))
  refine ⟨k₆, fun s₇ k₇ hpl₇ => ?_⟩
  have p1' := plK0 p1 k₆
  have im7 := imK k₇ (by intro b hb; rw [List.mem_singleton] at hb; subst hb; exact pl_nt p1')
  have hit : IsIt s₆.heap (some (false, [c])) (.ref at_) := ⟨at_, tsg, rfl, hoa⟩
  have hvI : Value.ref at_ ≠ .ref I := by
    intro e; cases e
    obtain ⟨o, ho⟩ := hI₅
    rw [ho] at ha; cases ha
  refine wpAny_execs_nil ⟨rfl, m5, (a₅.kp k₆).kl p1' hlt k₇, ?_, c₂₅.any.trans (k₆.ch.any.trans k₇.ch)⟩
  refine (j₅.ch k₆.ch).setLt k₇ hne ⟨t₄, ?_⟩ htold5 hnam5 hpl₇ ?_
  · rw [hpat5, rend_app]; simp [rend]
  · exact pApp (p2.mono fun v it h => ⟨(h.1.im (imK k₆ (by simp))).im im7, h.2⟩) (.cons ⟨hit.im im7, hvI⟩ .nil)
end
end Mine

-- part E7
namespace Mine
open PySem PySem.W PyProof.Rows
open Sem (wp)
open PySem.SeqAt
open Builtin Builtin.Str

section
variable {p prog : Program} {w : World} {hB : Heap} {A : Around} {E : Value → Shared → Prop} {s s' s₀ : Shared} {m : Str → Option Value} {lt ln I : Addr} {d : DS} {env : Env}

theorem gtNat {Q : Value → Shared → Prop} {a b : Nat} {t u : Tok} (h : Q (.bool (decide (b < a))) s) : wpAny (model prog w) A (compareOp .Gt (.int (a : Int) t) (.int (b : Int) u)) Q E s :=
  P.gt_int (by rw [show decide ((a : Int) > (b : Int)) = decide (b < a) from by simp]; exact h)
theorem sign_lit {k c : Nat} (h : 11 < k) (h2 : k < 15) : signOf k c = [c1 k c] := by
  have : k = 12 ∨ k = 13 ∨ k = 14 := by omega
  rcases this with rfl | rfl | rfl <;> rfl

set_option maxHeartbeats 1000000 in
theorem drawn_C (B : Bd p w hB) {L : Addr} {k c : Nat} (hk16 : k < 16) (a : Act [] (callEnvC (fdC 138) L 138) s₀ s m) (j : DJ lt ln d I m s) (hlt : s₀.heap.get? lt = none) (hne : lt ≠ ln) (hI : ∃ o, s.heap.get? I = some o) (hIv : ∀ o, s.heap.get? I = some o → isVar o = false) (hb : (rend d.ts).length ≤ 100 ∧ d.its.length ≤ 100)
    (hk : ∃ t, m (Str.ofString "kind") = some (.int (k : Nat) t)) (hs : ∃ t, m (Str.ofString "sign") = some (.str (mk (signOf k c)) t)) :
    wpAny (model prog w) A (execs (dBody.drop 5) (callEnvC (fdC 138) L 138)) (fun f s'' => f = .next ∧ ∃ m'', Act [] (callEnvC (fdC 138) L 138) s₀ s'' m'' ∧ DJ lt ln ⟨d.ts ++ toksOf k c, d.its ++ itsOf k c, d.init, d.last⟩ I m'' s'' ∧ Ch [lt] s s'') (fun _ _ => False) s := by
  obtain ⟨tk, hk⟩ := hk
  obtain ⟨tsg, hs⟩ := hs
  have tail : ∀ s₁ m₁, Act [] (callEnvC (fdC 138) L 138) s₀ s₁ m₁ → DJ lt ln d I m₁ s₁ → Ch [] s s₁ → (∃ t, m₁ (Str.ofString "kind") = some (.int (k1 k : Nat) t)) → m₁ (Str.ofString "sign") = some (.str (mk (signOf k c)) tsg) →
      wpAny (model prog w) A (execs (dBody.drop 6) (callEnvC (fdC 138) L 138)) (fun f s'' => f = .next ∧ ∃ m'', Act [] (callEnvC (fdC 138) L 138) s₀ s'' m'' ∧ DJ lt ln ⟨d.ts ++ toksOf k c, d.its ++ itsOf k c, d.init, d.last⟩ I m'' s'' ∧ Ch [lt] s s'') (fun _ _ => False) s₁ := by
    rintro s₁ m₁ a₁ j₁ c₁ ⟨tk1, hk1⟩ hs1
    have hkk : k1 k < 15 := by unfold k1; split <;> omega
    have hk1s : 11 < k1 k → k1 k = k := by unfold k1; split <;> omega
    have et : toksOf k c = if k1 k < 7 then (toks7[k1 k]?).toList else if 11 < k1 k then [litTk (c1 k c)] else [] := rfl
    have ei : itsOf k c = if k1 k < 7 then (its7[k1 k]?).toList else if 11 < k1 k then [some (false, [c1 k c])] else [] := rfl
    rw [et, ei]
    generalize k1 k = kk at hk1 hkk hk1s
    refine wpAny_execs_cons (wpAny_If (wpAny_isTrue_Compare1 (a₁.name (by rfl) hk1 (cInt fun t₂ s₂ k₂ => ltNat (b := 7) (wpAny_truthy_bool ?_)))))
    have a₂ := a₁.kp k₂
    have j₂ := j₁.ch k₂.ch
    have c₂ := c₁.trans k₂.ch
    have hI₂ : ∃ o, s₂.heap.get? I = some o := by obtain ⟨o, ho⟩ := hI; exact ⟨o, c₂.get0 ho (hIv o ho)⟩
    have hIv₂ : ∀ o, s₂.heap.get? I = some o → isVar o = false := by
      intro o e; obtain ⟨o', ho'⟩ := hI
      rw [c₂.get0 ho' (hIv _ ho')] at e; cases e; exact hIv _ ho'
    by_cases h7 : kk < 7
    · rw [show decide (kk < 7) = true from by simpa using h7]
      simp only [if_true, if_pos h7]
      obtain ⟨tkk, it, px, e1, e2, e3, e4⟩ := pats7 h7
      have hpx : px.length ≤ 4 := by
        have h : ∀ l ∈ ([[42], [63], [97], [46], [91, 33, 97, 93], [91, 46, 98, 93], [91, 33, 46, 93]] : List (List Nat)), l.length ≤ 4 := by decide
        exact h px (List.mem_of_getElem? e3)
      rw [e1, e2]
      refine wpAny_mono (drawn_C7 a₂ j₂ hlt hne hI₂ hIv₂ hb ⟨_, hk1⟩ hpx e2 e3 e4) (fun f s₃ h₃ => ?_) fun _ _ e => e
      obtain ⟨rfl, m3, a3, j3, c3⟩ := h₃
      exact wpAny_execs_nil ⟨rfl, m3, a3, j3, c₂.any.trans c3⟩
    · rw [show decide (kk < 7) = false from by simpa using h7]
      simp only [Bool.false_eq_true, if_false, if_neg h7]
      refine wpAny_execs_cons (wpAny_If (wpAny_isTrue_Compare1 (a₂.name (by rfl) hk1 (cInt fun t₃ s₃ k₃ => gtNat (b := 11) (wpAny_truthy_bool ?_)))))
      have c₃ := c₂.trans k₃.ch
      have hI₃ : ∃ o, s₃.heap.get? I = some o := by obtain ⟨o, ho⟩ := hI; exact ⟨o, c₃.get0 ho (hIv o ho)⟩
      have hIv₃ : ∀ o, s₃.heap.get? I = some o → isVar o = false := by
        intro o e; obtain ⟨o', ho'⟩ := hI
        rw [c₃.get0 ho' (hIv _ ho')] at e; cases e; exact hIv _ ho'
      by_cases h11 : 11 < kk
      · rw [show decide (11 < kk) = true from by simpa using h11]
        simp only [if_true, if_pos h11]
        have hkk' := hk1s h11
        subst hkk'
        rw [sign_lit h11 hkk] at hs1
        refine wpAny_mono (drawn_C11 (a₂.kp k₃) (j₂.ch k₃.ch) hlt hne hI₃ hIv₃ hb ⟨_, hs1⟩) (fun f s₄ h₄ => ?_) fun _ _ e => e
        obtain ⟨rfl, m3, a3, j3, c3⟩ := h₄
        exact wpAny_execs_nil (wpAny_execs_nil ⟨rfl, m3, a3, j3, c₃.any.trans c3⟩)
      · rw [show decide (11 < kk) = false from by simpa using h11]
        simp only [Bool.false_eq_true, if_false, if_neg h11, List.append_nil]
        exact wpAny_execs_nil (wpAny_execs_nil (wpAny_execs_nil ⟨rfl, _, a₂.kp k₃, j₂.ch k₃.ch, c₃.any⟩))
  refine wpAny_execs_cons (wpAny_If (wpAny_isTrue_Compare1 (a.name (by rfl) hk (cInt fun t₁ s₁ k₁ => eqNat (b := 15) (wpAny_truthy_bool ?_)))))
  cases e15 : (k == 15) with
  | true =>
    have e : k = 15 := by simpa using e15
    simp only [if_true]
    refine wpAny_execs_cons (wpAny_Assign_Name (cInt fun t₂ s₂ k₂ => ?_))
    refine (a.kp (k₁.trans k₂)).store (by rfl) fun s₃ a₃ c₃ => wpAny_execs_nil ?_
    exact tail s₃ _ a₃ ((j.ch ((k₁.trans k₂).ch.trans c₃)).upd (by decide)) ((k₁.trans k₂).ch.trans c₃) ⟨t₂, by rw [upd_eq]; unfold k1; rw [if_pos e]; rfl⟩ (upd_ne (str_ne (by decide)) hs)
  | false =>
    have e : k ≠ 15 := by simpa using e15
    simp only [Bool.false_eq_true, if_false]
    refine wpAny_execs_nil (tail s₁ m (a.kp k₁) (j.ch k₁.ch) k₁.ch ⟨tk, by rw [hk]; unfold k1; rw [if_neg e]⟩ hs)
end
end Mine

-- part E8
namespace Mine
open PySem PySem.W PyProof.Rows
open Sem (wp)
open PySem.SeqAt
open Builtin Builtin.Str

def Sm (d : DS) (n : Nat) : Prop := (rend d.ts).length ≤ 4 * n ∧ d.its.length ≤ n ∧ d.init.length ≤ n ∧ d.last.length ≤ 2 * n
theorem toksOf_le (k c : Nat) : (rend (toksOf k c)).length ≤ 4 := by
  unfold toksOf
  split
  · rename_i h
    obtain ⟨tk, it, px, e1, e2, e3, e4⟩ := pats7 h
    rw [e1]
    have h2 : ∀ l ∈ ([[42], [63], [97], [46], [91, 33, 97, 93], [91, 46, 98, 93], [91, 33, 46, 93]] : List (List Nat)), l.length ≤ 4 := by decide
    have := h2 px (List.mem_of_getElem? e3)
    simp [rend, e4]; omega
  · split
    · simp only [rend, List.flatMap_cons, List.flatMap_nil, List.append_nil]; unfold litTk; split <;> simp [rend1]
    · simp [rend]
theorem itsOf_le (k c : Nat) : (itsOf k c).length ≤ 1 := by
  unfold itsOf
  split
  · cases its7[k1 k]? <;> simp
  · split <;> simp
theorem Sm.step {d : DS} {n : Nat} (h : Sm d n) (x : Int) : Sm (dstep d x) (n + 1) := by
  obtain ⟨h1, h2, h3, h4⟩ := h
  have e1 := toksOf_le (kd x) (fr x)
  have e2 := itsOf_le (kd x) (fr x)
  have e3 := signOf_le (kd x) (fr x)
  unfold dstep dnew
  refine ⟨by rw [rend_app, List.length_append]; omega, by rw [List.length_append]; omega, ?_, ?_⟩
  · show (if kd x = 7 then _ else _ : List (List Nat) × List Nat).1.length ≤ _
    split <;> simp <;> omega
  · show ((if kd x = 7 then _ else _ : List (List Nat) × List Nat).2 ++ _).length ≤ _
    split <;> simp <;> omega
theorem Sm.fold : ∀ (xs : List Int) (d : DS) (n : Nat), Sm d n → Sm (xs.foldl dstep d) (n + xs.length)
  | [], d, n, h => h
  | x :: xs, d, n, h => by
    have := Sm.fold xs _ _ (h.step x)
    rw [List.length_cons, show n + (xs.length + 1) = n + 1 + xs.length by omega]; exact this

section
variable {p prog : Program} {w : World} {hB : Heap} {A : Around} {E : Value → Shared → Prop} {s s' s₀ : Shared} {m : Str → Option Value} {lt ln I : Addr} {d : DS} {env : Env} {R : Result → Shared → Prop}

theorem drawn_turn (B : Bd p w hB) {L : Addr} {x : Int} {tx : Tok} {n : Nat} (X₀ : Ext hB s₀.heap) (a : Act [] (callEnvC (fdC 138) L 138) s₀ s m) (hx : m (Str.ofString "x") = some (.int x tx)) (j : DJ lt ln d I m s) (hlt : s₀.heap.get? lt = none) (hln : s₀.heap.get? ln = none) (hne : lt ≠ ln) (hI1 : ln ≠ I) (hI : ∃ o, s.heap.get? I = some o) (hIv : ∀ o, s.heap.get? I = some o → isVar o = false) (r : Rm A 1) (hb : Sm d n) (hn : n ≤ 10) :
    wpAny (model prog w) A (execs dBody (callEnvC (fdC 138) L 138)) (fun f s'' => f = .next ∧ ∃ m'', Act [] (callEnvC (fdC 138) L 138) s₀ s'' m'' ∧ DJ lt ln (dstep d x) I m'' s'' ∧ Ch [lt, ln] s s'') (fun _ _ => False) s := by
  obtain ⟨b1, b2, b3, b4⟩ := hb
  obtain ⟨oI, hoI⟩ := hI
  refine drawn_A B X₀ a hx j r fun s₁ m₁ a₁ j₁ c₁ hk hs => ?_
  refine drawn_B B a₁ j₁ hln hne ⟨by omega, by omega⟩ r hk hs fun s₂ a₂ j₂ k₂ => ?_
  have hI₂ : s₂.heap.get? I = some oI := k₂.get (by simpa using Ne.symm hI1) (c₁.get0 hoI (hIv _ hoI))
  refine wpAny_mono (drawn_C B (kd_lt x) a₂ j₂ hlt hne ⟨oI, hI₂⟩ (fun o e => by rw [hI₂] at e; cases e; exact hIv _ hoI) ⟨by show (rend d.ts).length ≤ _; omega, by show d.its.length ≤ _; omega⟩ hk hs) (fun f s₃ h₃ => ?_) fun _ _ e => e
  obtain ⟨rfl, m3, a3, j3, c3⟩ := h₃
  exact ⟨rfl, m3, a3, j3, (c₁.any.trans (k₂.ch.mono (by simp))).trans (c3.mono (by simp))⟩

theorem intsP : ∀ {vs : List Value} {ns : List Int}, IntsAre vs ns → Paired (fun v n => ∃ t, v = .int n t) vs ns
  | _, _, .nil => .nil
  | _, _, .cons n t h => .cons ⟨t, rfl⟩ (intsP h)

set_option maxHeartbeats 2000000 in
theorem call_drawn (B : Bd p w hB) (X : Ext hB s.heap) (r : Rm A 3) {sa : Addr} {items : Array Value} {xs : List Int} (hsa : s.heap.IsList sa items) (hi : IntsAre items.toList xs) (hsz : items.size ≤ sizeLine)
    (h : ∀ T s' t vt vn lt ln, Kb [] s s' → s'.heap.get? T = some { cls := .type "tuple", data := .seq #[.str (mk (rend (drawnOf xs).ts)) t, .ref lt, .ref ln] } → s.heap.get? lt = none → s.heap.get? ln = none →
      s'.heap.PlainList lt vt → s'.heap.PlainList ln vn → Paired (fun v it => IsIt s'.heap it v) vt.toList (drawnOf xs).its → Strs vn.toList ((drawnOf xs).init ++ [(drawnOf xs).last]) → R (.ok (.ret (.ref T))) s') :
    codeAny (model prog w) A (.call (.ref 138) ⟨[.ref sa], []⟩) R s := by
  have h24 : sizeLine = 16777216 := rfl
  refine call_fn B X r 138 _ [(Str.ofString "script", .ref sa)] (bodyC 138) (fun s₁ a => ?_) (hb := by intro x hx; simp only [List.mem_cons, List.not_mem_nil, or_false] at hx; subst hx; rfl)
  have r2 : Rm (A.deeper (callEnvC (fdC 138) s.heap.objs.size 138)) 2 := r.deeper _
  refine wpAny_execs_cons (tupStore (W₀ := []) (s₀ := s) (names := [Str.ofString "pattern", Str.ofString "told", Str.ofString "names"]) r2.h ?_ (by intro x hx; simp only [List.mem_cons, List.not_mem_nil, or_false] at hx; rcases hx with rfl | rfl | rfl <;> rfl))
  refine tupleMade (wpAny_items_cons (cStr fun t₂ s₂ k₂ => wpAny_items_cons (listMade (wpAny_items_nil ⟨by simp, fun lt s₃ k₃ hlt hplt => wpAny_items_cons (listMade (wpAny_items_cons (cStr fun t₄ s₄ k₄ => wpAny_items_nil ⟨by show 1 ≤ sizeLine; decide, fun ln s₅ k₅ hln hpln => wpAny_items_nil ⟨by show 3 ≤ sizeLine; decide, fun T s₆ k₆ hT hT' => ?_⟩⟩)))⟩))))
  have k₁₆ := k₂.trans (k₃.trans (k₄.trans (k₅.trans k₆)))
  refine ⟨T, _, _, rfl, hT', rfl, a.kp k₁₆, fun s₇ a₇ c₇ => ?_⟩
  change Act [] _ s s₇ (upd (upd (upd _ (Str.ofString "names") (.ref ln)) (Str.ofString "told") (.ref lt)) (Str.ofString "pattern") (.str (Str.ofString "") t₂)) at a₇
  rw [show Str.ofString "" = mk [] from by decide +kernel] at a₇ hpln
  have hltn : s.heap.get? lt = none := (a.base.trans k₂).nope0 hlt
  have hlnn : s.heap.get? ln = none := (a.base.trans (k₂.trans (k₃.trans k₄))).nope0 hln
  have hne : lt ≠ ln := by
    rintro rfl
    obtain ⟨n, ho⟩ := hplt
    rw [k₄.get0 ho] at hln; cases hln
  have hplt₇ : s₇.heap.PlainList lt #[] := plC (plK0 hplt (k₄.trans (k₅.trans k₆))) c₇ (by simp)
  have hpln₇ : s₇.heap.PlainList ln #[.str (mk []) t₄] := plC (plK0 hpln k₆) c₇ (by simp)
  have X₇ : Ext hB s₇.heap := X.trans a₇.base.ext
  have hsa₇ : s₇.heap.IsList sa items := by
    obtain ⟨o, ho, hc, n, hd⟩ := hsa
    refine ⟨o, c₇.get0 ((a.base.trans k₁₆).get0 ho) ?_, hc, n, hd⟩
    have : (Value.type "list" == Value.type "frame") = false := by decide +kernel
    simp [isVar, hc, hd, this]
  have hscr : upd (upd (upd (bindAll (fun _ => none) [(Str.ofString "script", .ref sa)]) (Str.ofString "names") (.ref ln)) (Str.ofString "told") (.ref lt)) (Str.ofString "pattern") (.str (mk []) t₂) (Str.ofString "script") = some (.ref sa) := upd_ne (str_ne (by decide)) (upd_ne (str_ne (by decide)) (upd_ne (str_ne (by decide)) (by rfl)))
  have hm1 : upd (upd (upd (bindAll (fun _ => none) [(Str.ofString "script", .ref sa)]) (Str.ofString "names") (.ref ln)) (Str.ofString "told") (.ref lt)) (Str.ofString "pattern") (.str (mk []) t₂) (Str.ofString "pattern") = some (.str (mk []) t₂) := upd_eq
  have hm2 : upd (upd (upd (bindAll (fun _ => none) [(Str.ofString "script", .ref sa)]) (Str.ofString "names") (.ref ln)) (Str.ofString "told") (.ref lt)) (Str.ofString "pattern") (.str (mk []) t₂) (Str.ofString "told") = some (.ref lt) := upd_ne (str_ne (by decide)) upd_eq
  have hm3 : upd (upd (upd (bindAll (fun _ => none) [(Str.ofString "script", .ref sa)]) (Str.ofString "names") (.ref ln)) (Str.ofString "told") (.ref lt)) (Str.ofString "pattern") (.str (mk []) t₂) (Str.ofString "names") = some (.ref ln) := upd_ne (str_ne (by decide)) (upd_ne (str_ne (by decide)) upd_eq)
  generalize upd (upd (upd (bindAll (fun _ => none) [(Str.ofString "script", .ref sa)]) (Str.ofString "names") (.ref ln)) (Str.ofString "told") (.ref lt)) (Str.ofString "pattern") (.str (mk []) t₂) = m7 at a₇ hscr hm1 hm2 hm3
  -- the loop
  refine wpAny_execs_cons (wpAny_For (wpAny_mono (?_ : wpAny _ _ _ (fun v s₈ => ∃ D vs, v = .ref D ∧ Kb [] s₇ s₈ ∧ s₇.heap.get? D = none ∧ s₈.heap.PlainList D vs ∧ IntsAre vs.toList ((if xs.isEmpty then [13] else xs).take 10)) _ _) (fun v s₈ h₈ => ?_) fun _ _ e => e))
  · refine Slice_go (wpAny_Or2 (a₇.name (by rfl) hscr ?_))
    have hlen : items.toList.length = xs.length := hi.length
    refine wpAny_truthy_list hsa₇ (by omega) ?_
    have k₈ : Kb [] s₇ { s₇ with toks := s₇.toks + 1 + 1 } := toks _ _
    generalize ({ s₇ with toks := s₇.toks + 1 + 1 } : Shared) = s₈ at k₈ ⊢
    cases xs with
    | cons x xs =>
      have hne : (!items.isEmpty) = true := by
        have : items.size ≠ 0 := by have := hlen; simp at this; omega
        simpa [Array.isEmpty] using this
      rw [hne]
      simp only [if_true]
      refine wpAny_evalPart_none (wpAny_evalPart_some (cInt fun t₉ s₉ k₉ => ⟨sa, items, none, some 10, rfl, ?_, hsz, .none, .int _ _, fun D s₁₀ k₁₀ hD hpl => ⟨D, _, rfl, k₈.trans (k₉.trans k₁₀), (k₈.trans k₉).nope0 hD, hpl, ?_⟩⟩))
      · obtain ⟨o, ho, r⟩ := hsa₇; exact ⟨o, (k₈.trans k₉).get0 ho, r⟩
      · have := slice_ints_uptoW hi (y := 10) (by decide)
        simpa using this
    | nil =>
      have hne : (!items.isEmpty) = false := by
        have : items.size = 0 := by have := hlen; simpa using this
        simp [Array.isEmpty, this]
      rw [hne]
      simp only [Bool.false_eq_true, if_false]
      refine listMade (wpAny_items_cons (cInt fun t₉ s₉ k₉ => wpAny_items_nil ⟨by show 1 ≤ sizeLine; decide, fun l s₁₀ k₁₀ hl hpl => ?_⟩))
      refine wpAny_evalPart_none (wpAny_evalPart_some (cInt fun t₁₁ s₁₁ k₁₁ => ⟨l, _, none, some 10, rfl, (plK0 hpl k₁₁).isList, by show 1 ≤ sizeLine; decide, .none, .int _ _, fun D s₁₂ k₁₂ hD hpl' => ⟨D, _, rfl, k₈.trans (k₉.trans (k₁₀.trans (k₁₁.trans k₁₂))), (k₈.trans (k₉.trans (k₁₀.trans k₁₁))).nope0 hD, hpl', ?_⟩⟩))
      have := slice_ints_uptoW (vs := [.int 13 t₉]) (ns := [13]) (.cons _ _ .nil) (y := 10) (by decide)
      simpa using this
  obtain ⟨D, vs, rfl, k₈, hD, hplD, hints⟩ := h₈
  generalize hxs : (if xs.isEmpty then [13] else xs).take 10 = ys at hints
  have hyl : ys.length ≤ 10 := by rw [← hxs, List.length_take]; omega
  have a₈ := a₇.kp k₈
  have hDl : D ∉ [lt, ln] := by
    obtain ⟨n1, ho1⟩ := hplt₇
    obtain ⟨n2, ho2⟩ := hpln₇
    simp only [List.mem_cons, List.not_mem_nil, or_false, not_or]
    exact ⟨(by rintro rfl; rw [ho1] at hD; cases hD), (by rintro rfl; rw [ho2] at hD; cases hD)⟩
  have hltO : ∃ o, s₈.heap.get? lt = some o := by obtain ⟨n1, ho1⟩ := hplt₇; exact ⟨_, k₈.get0 ho1⟩
  have hlnO : ∃ o, s₈.heap.get? ln = some o := by obtain ⟨n1, ho1⟩ := hpln₇; exact ⟨_, k₈.get0 ho1⟩
  refine for_go (W := [lt, ln]) (as := ys) (Rep := fun n v => ∃ a, (∃ t, a = .int n t) ∧ v = a) (fun I i m s => (lt ≠ I ∧ ln ≠ I) ∧ DJ lt ln ((ys.take i).foldl dstep ⟨[], [], [], []⟩) I m s)
    (src_pair (src_list (by exact r2.h) hplD.isList hDl) (intsP hints)) (by rfl) a₈ ?_ ?_ ?_ ?_ ?_
  · intro I s' hI k
    refine ⟨⟨(by rintro rfl; obtain ⟨o, ho⟩ := hltO; rw [ho] at hI; cases hI), (by rintro rfl; obtain ⟨o, ho⟩ := hlnO; rw [ho] at hI; cases hI)⟩, ⟨t₂, hm1⟩, hm2, hm3, ⟨[], plK0 hplt₇ (k₈.trans k), .nil⟩, ⟨[.str (mk []) t₄], plK0 hpln₇ (k₈.trans k), .cons ⟨t₄, rfl⟩ .nil⟩⟩
  · intro I i m s1 s2 j c
    exact ⟨j.1, j.2.chI c j.1.1 j.1.2⟩
  · rintro I i x v m s' hI ⟨oI, hoI, hvI⟩ hx ⟨_, ⟨tx, rfl⟩, rfl⟩ ⟨hne2, j⟩ a'
    have hil : i < ys.length := (List.getElem?_eq_some_iff.mp hx).1
    have hsm : Sm ((ys.take i).foldl dstep ⟨[], [], [], []⟩) i := by
      have := Sm.fold (ys.take i) ⟨[], [], [], []⟩ 0 ⟨by simp [rend], by simp, by simp, by simp⟩
      rwa [List.length_take, Nat.min_eq_left (Nat.le_of_lt hil), Nat.zero_add] at this
    refine wpAny_mono (drawn_turn B X a' upd_eq (j.upd (by decide)) hltn hlnn hne hne2.2 ⟨oI, hoI⟩ (fun o e => by rw [hoI] at e; cases e; exact hvI) (r2.less (by decide)) hsm (by omega)) (fun f s₉ h₉ => ?_) fun _ _ e => e
    obtain ⟨rfl, m9, a9, j9, c9⟩ := h₉
    refine ⟨m9, a9, ⟨hne2, ?_⟩, c9⟩
    rw [List.take_add_one, hx]
    simpa [List.foldl_append] using j9
  · intro b hb
    simp only [List.mem_cons, List.not_mem_nil, or_false] at hb
    rcases hb with rfl | rfl
    · exact hltO
    · exact hlnO
  · rintro I m s' hI ⟨hne2, j⟩ a'
    rw [List.take_length] at j
    obtain ⟨tp, hp⟩ := j.pat
    obtain ⟨vt, p1, p2⟩ := j.lt
    obtain ⟨vn, p3, p4⟩ := j.ln
    refine execs_ret (tupleMade (wpAny_items_cons (a'.name (by rfl) hp (wpAny_items_cons (a'.name (by rfl) j.told (wpAny_items_cons (a'.name (by rfl) j.names (wpAny_items_nil ⟨by show 3 ≤ sizeLine; decide, fun T s₉ k₉ hT hT' => ?_⟩))))))))
    have hd : ys.foldl dstep ⟨[], [], [], []⟩ = drawnOf xs := by unfold drawnOf; rw [hxs]
    rw [hd] at hT' p2 p4
    refine h T s₉ tp vt.toArray vn.toArray lt ln (a'.base.trans k₉) hT' hltn hlnn (plK0 p1 k₉) (plK0 p3 k₉) ?_ (by simpa using p4)
    simpa using p2.mono fun v it h => h.1.im (imK k₉ (by simp))
end
end Mine

-- part F1
namespace Mine
open PySem PySem.W PyProof.Rows
open Sem (wp)

theorem compTurn_in (elt t0 i0 t1 i1 : Expr) (scope : Scope) (pos : Pos) (it acc : Value) (env : Env) :
    compTurn (.ListComp elt [⟨t0, i0, [], 0⟩, ⟨t1, i1, [], 0⟩] scope pos) 1 it acc env = (standAt i1.pos >>= fun _ => pyNext it >>= fun r => match r with
      | none => pure (.done .next)
      | some v => letOwnedTupleGo t1 it v >>= fun _ => assign t1 env v >>= fun _ =>
        (eval elt env >>= fun x => call (.builtin "list.append") [acc, x] >>= fun _ => pure ()) >>= fun _ =>
          again (.compLoop (.ListComp elt [⟨t0, i0, [], 0⟩, ⟨t1, i1, [], 0⟩] scope pos) 1 it acc env)) := by rfl
theorem compTurn_out (elt t0 i0 t1 i1 : Expr) (scope : Scope) (pos : Pos) (it acc : Value) (env : Env) :
    compTurn (.ListComp elt [⟨t0, i0, [], 0⟩, ⟨t1, i1, [], 0⟩] scope pos) 0 it acc env = (standAt i0.pos >>= fun _ => pyNext it >>= fun r => match r with
      | none => pure (.done .next)
      | some v => letOwnedTupleGo t0 it v >>= fun _ => assign t0 env v >>= fun _ =>
        eval i1 env >>= fun x => standAt i1.pos >>= fun _ => foldedSetIterable i1 env x >>= fun x => holding [x] (pyIter x) >>= fun it2 =>
          runOwn (.compStart (.ListComp elt [⟨t0, i0, [], 0⟩, ⟨t1, i1, [], 0⟩] scope pos) 1 it2 acc env) env >>= fun _ =>
          again (.compLoop (.ListComp elt [⟨t0, i0, [], 0⟩, ⟨t1, i1, [], 0⟩] scope pos) 0 it acc env)) := by rfl
end Mine

-- part F2
namespace Mine
open PySem PySem.W PyProof.Rows
open Sem (wp)

section
variable {prog : Program} {w : World} {A : Around} {R : Result → Shared → Prop} {s : Shared}

/-- the inner loop of `[y for x in xs for y in f(x)]`, over a list -/
theorem inner_loop {t0 i0 i1 : Expr} {x1 : Str} {p1 pe : Pos} {scope : Scope} {pos : Pos} {I l D : Addr} {cenv : Env} {vs ys0 : List Value} {m0 : Str → Option Value} (hh : A.handled = none)
    (hk : cenv.scope.kind = .function) (hx : cenv.kindOf x1 = some .local) (hd : (x1 == ("__debug__" : Str)) = false)
    (hCD : cenv.locals ≠ D) (hCI : cenv.locals ≠ I) (hCl : cenv.locals ≠ l) (hDI : D ≠ I) (hDl : D ≠ l) (hIl : l ≠ I) (hsz : ys0.length + vs.length ≤ sizeLine)
    (hit : s.heap.IsListIter I l 0) (hl : s.heap.IsList l vs.toArray) (hD : s.heap.PlainList D ys0.toArray) (hn : s.heap.Ns cenv.locals m0)
    (hR : ∀ s' m', Kb [cenv.locals, I, D] s s' → s'.heap.PlainList D (ys0 ++ vs).toArray → s'.heap.Ns cenv.locals m' → R (.ok .next) s') :
    codeAny (model prog w) A (.compLoop (.ListComp (.Name x1 pe) [⟨t0, i0, [], 0⟩, ⟨.Name x1 p1, i1, [], 0⟩] scope pos) 1 (.ref I) (.ref D) cenv) R s := by
  have hp : (cenv.scope.kind == .class || (cenv.scope.kind == .module && cenv.locals != cenv.globals)) = false := by rw [hk]; rfl
  refine codeAny_loop rfl (fun k s' => ∃ i m', k = vs.length + 1 - i ∧ i ≤ vs.length ∧ Kb [cenv.locals, I, D] s s' ∧ s'.heap.IsListIter I l i ∧ s'.heap.IsList l vs.toArray ∧ s'.heap.PlainList D (ys0 ++ vs.take i).toArray ∧ s'.heap.Ns cenv.locals m') ?_ (vs.length + 1) ⟨0, m0, rfl, Nat.zero_le _, Kb.refl _ _, hit, hl, by simpa using hD, hn⟩
  rintro k s' ⟨i, m', rfl, hi, kb, hit', hl', hD', hn'⟩
  show wpAny _ A ((compTurn _ 1 (.ref I) (.ref D) cenv).onRaise (fun x => do noteFrame x cenv; theTreesLotGoes x)) _ _ s'
  refine wpAny_noted ?_
  rw [compTurn_in]
  refine wpAny_bind (wpAny_standAt (wpAny_bind ?_))
  by_cases hlt : i < vs.length
  · refine wpAny_pyNext_list_item hit' hl' (x := vs[i]) (by simp [hlt]) fun h₁ hit₁ hs₁ => ?_
    dsimp only
    refine wpAny_bind (wpAny_of_eq (show letOwnedTupleGo (.Name x1 p1) (.ref I) vs[i] = pure () by rfl) ?_)
    have k₁ : Kb [cenv.locals, I, D] s' { s' with heap := h₁ } := ⟨h₁, _, _, rfl, fun b o hb e => hs₁.extBut b o (by rintro rfl; exact hb (by simp)) e⟩
    have hl₁ : h₁.IsList l vs.toArray := hl'.extBut hs₁.extBut hIl
    have hD₁ : h₁.PlainList D _ := hD'.extBut hs₁.extBut hDI
    have hn₁ : h₁.Ns cenv.locals m' := hn'.sameBut hs₁ hCI
    refine wpAny_bind (wpAny_assign_Name (wpAny_storeName_local (s := { s' with heap := h₁ }) hx hn₁ (fun h₂ hn₂ hs₂ => ?_) hp))
    have k₂ : Kb [cenv.locals, I, D] s' { s' with heap := h₂, toks := s'.toks + 1 } := k₁.trans ⟨h₂, _, _, rfl, fun b o hb e => hs₂.extBut b o (by rintro rfl; exact hb (by simp)) e⟩
    have hD₂ : h₂.PlainList D (ys0 ++ vs.take i).toArray := hD₁.extBut hs₂.extBut (Ne.symm hCD)
    refine wpAny_bind (wpAny_bind (wpAny_Name (wpAny_loadName_local (env := cenv) (v := vs[i]) hk hx hn₂ (by simp) ?_) hd))
    refine wpAny_bind (wpAny_list_append_plain (hsz := by simp; omega) hD₂ fun h₃ hl₃ hs₃ => wpAny_pure (wpAny_pure ⟨rfl, vs.length + 1 - (i + 1), by omega, i + 1, _, rfl, hlt, ?_, ?_, ?_, ?_, hn₂.sameBut hs₃ hCD⟩))
    · exact kb.trans (k₂.trans ⟨h₃, _, _, rfl, fun b o hb e => hs₃.extBut b o (by rintro rfl; exact hb (by simp)) e⟩)
    · obtain ⟨o, ho, r⟩ := hit₁
      exact ⟨o, hs₃.extBut _ _ (Ne.symm hDI) (hs₂.extBut _ _ (Ne.symm hCI) ho), r⟩
    · exact (hl₁.extBut hs₂.extBut (Ne.symm hCl)).extBut hs₃.extBut (Ne.symm hDl)
    · have : (ys0 ++ vs.take (i + 1)).toArray = (ys0 ++ vs.take i).toArray.push vs[i] := by
        rw [List.take_add_one, List.getElem?_eq_getElem hlt]; simp
      rw [this]; exact hl₃
  · have hin : i = vs.length := by omega
    subst hin
    refine wpAny_pyNext_list_end hh hit' hl' (by simp) fun h₁ he₁ => ?_
    have k₁ : Kb [cenv.locals, I, D] s' { s' with heap := h₁ } := ⟨h₁, _, _, rfl, fun b o hb e => he₁ b o (by rintro rfl; exact hb (by simp)) e⟩
    rw [List.take_length] at hD'
    exact wpAny_pure (hR _ m' (kb.trans k₁) (hD'.extBut he₁ hDI) (hn'.at' fun o e => he₁ _ o hCI e))
end
end Mine

-- part F3
namespace Mine
open PySem PySem.W PyProof.Rows
open Sem (wp)

section
variable {prog : Program} {w : World} {A : Around} {R : Result → Shared → Prop} {s : Shared}
theorem start_in {elt t0 i0 t1 i1 : Expr} {scope : Scope} {pos : Pos} {it acc : Value} {env : Env}
    (h0 : codeAny (model prog w) A (.compLoop (.ListComp elt [⟨t0, i0, [], 0⟩, ⟨t1, i1, [], 0⟩] scope pos) 1 it acc env) R s)
    (h : wpAny (model prog w) A (pyIter it) (fun it' s' => codeAny (model prog w) A (.compLoop (.ListComp elt [⟨t0, i0, [], 0⟩, ⟨t1, i1, [], 0⟩] scope pos) 1 it' acc env) R s')
      (notedBy (model prog w) A env fun x s' => R (.error x) s') s) :
    codeAny (model prog w) A (.compStart (.ListComp elt [⟨t0, i0, [], 0⟩, ⟨t1, i1, [], 0⟩] scope pos) 1 it acc env) R s := by
  refine codeAny_of_tree ?_
  show wpAny _ _ ((compStart (.ListComp elt [⟨t0, i0, [], 0⟩, ⟨t1, i1, [], 0⟩] scope pos) 1 it acc env).onRaise (fun x => do noteFrame x env; standAt theWindowsPlace)) _ _ s
  refine wpAny_notedAt ?_
  unfold compStart
  show wpAny _ _ (ask >>= _) _ _ s
  refine wpAny_bind (wpAny_askSetting (wpAny_ite ?_))
  split
  · first
      | exact wpAny_bind (wpAny_pure (wpAny_pure (And.intro rfl h0)))
      | exact wpAny_pure (And.intro rfl h0)
  · first
      | exact wpAny_bind (wpAny_rule (wpAny_bind (wpAny_standAt (wpAny_bind (wpAny_mono h (fun it' s' h' => wpAny_pure (And.intro rfl h')) fun _ _ x => x)))))
      | (refine wpAny_bind (wpAny_rule ?_); show wpAny _ _ (standAt i1.pos >>= _) _ _ s; exact wpAny_bind (wpAny_standAt (wpAny_bind (wpAny_mono h (fun it' s' h' => wpAny_pure (And.intro rfl h')) fun _ _ x => x))))
end
end Mine

-- part F4
namespace Mine
open PySem PySem.W PyProof.Rows
open Sem (wp)

section
variable {prog : Program} {w : World} {A : Around} {R : Result → Shared → Prop} {s : Shared}

/-- the outer loop of `[y for x in xs for y in f(x)]` over a list, each inner iterable a list newly made -/
theorem outer_loop {x0 x1 : Str} {i0 i1 : Expr} {p0 p1 pe : Pos} {scope : Scope} {pos : Pos} {I l D : Addr} {cenv : Env} {ws : List Value} {m0 : Str → Option Value} (F : Value → List Value → Prop) (hh : A.handled = none)
    (hk : cenv.scope.kind = .function) (hx0 : cenv.kindOf x0 = some .local) (hx : cenv.kindOf x1 = some .local) (hd : (x1 == ("__debug__" : Str)) = false) (hfold : ∀ v, foldedSetIterable i1 cenv v = pure v)
    (hCD : cenv.locals ≠ D) (hCI : cenv.locals ≠ I) (hCl : cenv.locals ≠ l) (hDI : D ≠ I) (hDl : D ≠ l) (hIl : l ≠ I) (hws : ws.length ≤ 100)
    (hIo : ∃ o, s.heap.get? I = some o) (hDo : ∃ o, s.heap.get? D = some o)
    (hit : s.heap.IsListIter I l 0) (hl : s.heap.IsList l ws.toArray) (hD : s.heap.PlainList D #[]) (hn : s.heap.Ns cenv.locals m0)
    (turn : ∀ (i : Nat) (v : Value) (s₁ : Shared) (m₁ : Str → Option Value), ws[i]? = some v → s₁.heap.Ns cenv.locals m₁ → m₁ x0 = some v → Kb [cenv.locals, I, D] s s₁ →
      wpAny (model prog w) A (eval i1 cenv) (fun xv s₂ => ∃ lh vh, xv = .ref lh ∧ s₁.heap.get? lh = none ∧ s₂.heap.PlainList lh vh.toArray ∧ vh.length ≤ 1000 ∧ Kb [] s₁ s₂ ∧ F v vh) (fun _ _ => False) s₁)
    (hR : ∀ s' m' vhs, Kb [cenv.locals, I, D] s s' → Paired F ws vhs → s'.heap.PlainList D vhs.flatten.toArray → s'.heap.Ns cenv.locals m' → R (.ok .next) s') :
    codeAny (model prog w) A (.compLoop (.ListComp (.Name x1 pe) [⟨.Name x0 p0, i0, [], 0⟩, ⟨.Name x1 p1, i1, [], 0⟩] scope pos) 0 (.ref I) (.ref D) cenv) R s := by
  have h24 : sizeLine = 16777216 := rfl
  have hp : (cenv.scope.kind == .class || (cenv.scope.kind == .module && cenv.locals != cenv.globals)) = false := by rw [hk]; rfl
  refine codeAny_loop rfl (fun k s' => ∃ i m' vhs, k = ws.length + 1 - i ∧ i ≤ ws.length ∧ Kb [cenv.locals, I, D] s s' ∧ s'.heap.IsListIter I l i ∧ s'.heap.IsList l ws.toArray ∧ Paired F (ws.take i) vhs ∧ vhs.flatten.length ≤ 1000 * i ∧ s'.heap.PlainList D vhs.flatten.toArray ∧ s'.heap.Ns cenv.locals m') ?_ (ws.length + 1)
    ⟨0, m0, [], rfl, Nat.zero_le _, Kb.refl _ _, hit, hl, by simpa using Paired.nil, by simp, by simpa using hD, hn⟩
  rintro k s' ⟨i, m', vhs, rfl, hi, kb, hit', hl', hP, hsz, hD', hn'⟩
  show wpAny _ A ((compTurn _ 0 (.ref I) (.ref D) cenv).onRaise (fun x => do noteFrame x cenv; theTreesLotGoes x)) _ _ s'
  refine wpAny_noted ?_
  rw [compTurn_out]
  refine wpAny_bind (wpAny_standAt (wpAny_bind ?_))
  by_cases hlt : i < ws.length
  · refine wpAny_pyNext_list_item hit' hl' (x := ws[i]) (by simp [hlt]) fun h₁ hit₁ hs₁ => ?_
    dsimp only
    refine wpAny_bind (wpAny_of_eq (show letOwnedTupleGo (.Name x0 p0) (.ref I) ws[i] = pure () by rfl) ?_)
    have k₁ : Kb [cenv.locals, I, D] s' { s' with heap := h₁ } := ⟨h₁, _, _, rfl, fun b o hb e => hs₁.extBut b o (by rintro rfl; exact hb (by simp)) e⟩
    have hl₁ : h₁.IsList l ws.toArray := hl'.extBut hs₁.extBut hIl
    have hD₁ : h₁.PlainList D _ := hD'.extBut hs₁.extBut hDI
    have hn₁ : h₁.Ns cenv.locals m' := hn'.sameBut hs₁ hCI
    refine wpAny_bind (wpAny_assign_Name (wpAny_storeName_local (s := { s' with heap := h₁ }) hx0 hn₁ (fun h₂ hn₂ hs₂ => ?_) hp))
    have k₂ : Kb [cenv.locals, I, D] s' { s' with heap := h₂, toks := s'.toks + 1 } := k₁.trans ⟨h₂, _, _, rfl, fun b o hb e => hs₂.extBut b o (by rintro rfl; exact hb (by simp)) e⟩
    have hD₂ : h₂.PlainList D vhs.flatten.toArray := hD₁.extBut hs₂.extBut (Ne.symm hCD)
    have hl₂ : h₂.IsList l ws.toArray := hl₁.extBut hs₂.extBut (Ne.symm hCl)
    have hit₂ : h₂.IsListIter I l (i + 1) := by obtain ⟨o, ho, r⟩ := hit₁; exact ⟨o, hs₂.extBut _ _ (Ne.symm hCI) ho, r⟩
    refine wpAny_bind (wpAny_mono (turn i ws[i] _ _ (List.getElem?_eq_getElem hlt) hn₂ (by simp) (kb.trans k₂)) (fun xv s₃ h₃ => ?_) fun _ _ e => e.elim)
    obtain ⟨lh, vh, rfl, hlhn, hplh, hvl, k₃, hF⟩ := h₃
    refine wpAny_bind (wpAny_standAt ?_)
    rw [hfold]
    refine wpAny_bind (wpAny_pure (wpAny_bind (wpAny_holding (wpAny_pyIter_list hplh.isList ?_))))
    have k₄ : Kb [] s₃ { s₃ with heap := s₃.heap.push { cls := .type "list_iterator", data := .fields #[.ref lh, .int 0 0] } } := Kb.push s₃ _ _
    have hI2 : s₃.heap.get? s₃.heap.objs.size = none := fresh_size _
    have hItNew : ({ s₃ with heap := s₃.heap.push { cls := .type "list_iterator", data := .fields #[.ref lh, .int 0 0] } } : Shared).heap.IsListIter s₃.heap.objs.size lh 0 := ⟨_, Heap.get?_push_size _ rfl, rfl, rfl⟩
    generalize ({ s₃ with heap := s₃.heap.push { cls := .type "list_iterator", data := .fields #[.ref lh, .int 0 0] } } : Shared) = s₄ at k₄ hItNew ⊢
    generalize s₃.heap.objs.size = I2 at hI2 hItNew ⊢
    have kk : Kb [] { s' with heap := h₂, toks := s'.toks + 1 } s₄ := k₃.trans k₄
    have hn₄ : s₄.heap.Ns cenv.locals _ := hn₂.at' fun o e => kk.get0 e
    have hD₄ : s₄.heap.PlainList D vhs.flatten.toArray := plK0 (s := { s' with heap := h₂, toks := s'.toks + 1 }) hD₂ kk
    have hl₄ : s₄.heap.IsList l ws.toArray := by obtain ⟨o, ho, r⟩ := hl₂; exact ⟨o, kk.get0 ho, r⟩
    have hit₄ : s₄.heap.IsListIter I l (i + 1) := by obtain ⟨o, ho, r⟩ := hit₂; exact ⟨o, kk.get0 ho, r⟩
    have hlh₄ : s₄.heap.PlainList lh vh.toArray := plK0 hplh k₄
    have ne2 : ∀ {b : Addr} {o : Obj}, h₂.get? b = some o → b ≠ lh ∧ b ≠ I2 := by
      intro b o e
      refine ⟨?_, ?_⟩
      · rintro rfl; have e' : ({ s' with heap := h₂, toks := s'.toks + 1 } : Shared).heap.get? b = some o := e; rw [hlhn] at e'; cases e'
      · rintro rfl; rw [k₃.get0 e] at hI2; cases hI2
    obtain ⟨oC, _, _, hoC, _⟩ := id hn₂
    obtain ⟨nD, hoD⟩ := id hD₂
    obtain ⟨ol, hol, _⟩ := id hl₂
    obtain ⟨oI, hoI, _⟩ := id hit₂
    have hlI2 : lh ≠ I2 := by rintro rfl; obtain ⟨n, e⟩ := hplh; rw [e] at hI2; cases hI2
    have inner : ∀ {E : Value → Shared → Prop}, codeAny (model prog w) (A.mark none) (.compLoop (.ListComp (.Name x1 pe) [⟨.Name x0 p0, i0, [], 0⟩, ⟨.Name x1 p1, i1, [], 0⟩] scope pos) 1 (.ref I2) (.ref D) cenv)
        (fun r s' => match r with
          | .ok _ => wpAny (model prog w) A (again (.compLoop (.ListComp (.Name x1 pe) [⟨.Name x0 p0, i0, [], 0⟩, ⟨.Name x1 p1, i1, [], 0⟩] scope pos) 0 (.ref I) (.ref D) cenv)) (fun fin s' => match fin with
            | .done f => R (.ok f) s'
            | .again c' => c' = .compLoop (.ListComp (.Name x1 pe) [⟨.Name x0 p0, i0, [], 0⟩, ⟨.Name x1 p1, i1, [], 0⟩] scope pos) 0 (.ref I) (.ref D) cenv ∧ ∃ m, m < ws.length + 1 - i ∧ ∃ i m' vhs, m = ws.length + 1 - i ∧ i ≤ ws.length ∧ Kb [cenv.locals, I, D] s s' ∧ s'.heap.IsListIter I l i ∧ s'.heap.IsList l ws.toArray ∧ Paired F (ws.take i) vhs ∧ vhs.flatten.length ≤ 1000 * i ∧ s'.heap.PlainList D vhs.flatten.toArray ∧ s'.heap.Ns cenv.locals m') (notedBy (model prog w) A cenv fun e s' => R (.error e) s') s'
          | .error e => E e s') s₄ := by
      intro E
      refine inner_loop (A := A.mark none) (by simpa [Around.mark] using hh) hk hx hd hCD (ne2 hoC).2 (ne2 hoC).1 (ne2 hoD).2 (ne2 hoD).1 hlI2 (by omega) hItNew hlh₄.isList hD₄ hn₄ fun s₅ m₅ k₅ hD₅ hn₅ => ?_
      have kI : I ∉ [cenv.locals, I2, D] := by
        simp only [List.mem_cons, List.not_mem_nil, or_false, not_or]
        exact ⟨Ne.symm hCI, (ne2 hoI).2, Ne.symm hDI⟩
      have kl : l ∉ [cenv.locals, I2, D] := by
        simp only [List.mem_cons, List.not_mem_nil, or_false, not_or]
        exact ⟨Ne.symm hCl, (ne2 hol).2, Ne.symm hDl⟩
      refine wpAny_pure ⟨rfl, ws.length + 1 - (i + 1), by omega, i + 1, m₅, vhs ++ [vh], rfl, hlt, ?_, ?_, ?_, ?_, ?_, ?_, hn₅⟩
      · refine kb.trans (k₂.trans ?_)
        obtain ⟨h5, t5, d5, e5, q5⟩ := (kk.any (W := [cenv.locals, I2, D])).trans k₅
        subst e5
        refine ⟨h5, t5, d5, rfl, fun b o hb e => q5 b o ?_ e⟩
        simp only [List.mem_cons, List.not_mem_nil, or_false, not_or] at hb ⊢
        exact ⟨hb.1, (ne2 e).2, hb.2.2⟩
      · obtain ⟨o, ho, r⟩ := hit₄; exact ⟨o, k₅.get kI ho, r⟩
      · obtain ⟨o, ho, r⟩ := hl₄; exact ⟨o, k₅.get kl ho, r⟩
      · rw [List.take_add_one, List.getElem?_eq_getElem hlt]; exact Paired.snoc hP hF
      · rw [List.flatten_append, List.length_append, show [vh].flatten = vh by simp]; omega
      · rw [List.flatten_append]; simpa using hD₅
    refine wpAny_bind (wpAny_runOwn (start_in inner (wpAny_pyIter_listiter hItNew inner)))
  · have hin : i = ws.length := by omega
    subst hin
    refine wpAny_pyNext_list_end hh hit' hl' (by simp) fun h₁ he₁ => ?_
    have k₁ : Kb [cenv.locals, I, D] s' { s' with heap := h₁ } := ⟨h₁, _, _, rfl, fun b o hb e => he₁ b o (by rintro rfl; exact hb (by simp)) e⟩
    rw [List.take_length] at hP
    exact wpAny_pure (hR _ m' vhs (kb.trans k₁) hP (hD'.extBut he₁ hDI) (hn'.at' fun o e => he₁ _ o hCI e))
end
end Mine

-- part F5
namespace Mine
open PySem PySem.W PyProof.Rows
open Sem (wp)

section
variable {prog : Program} {w : World} {A : Around} {E : Value → Shared → Prop} {s : Shared} {env : Env}

theorem comp_run2 {x0 x1 : Str} {i0 i1 : Expr} {p0 p1 pe : Pos} {scope : Scope} {cl : List (Str × Addr)} {pos : Pos} {use : Option (Value → Sem Unit)} {Q : Value → Shared → Prop} {l : Addr} {ws : List Value}
    (F : Value → List Value → Prop) (hh : A.handled = none) (hl : s.heap.PlainList l ws.toArray) (hws : ws.length ≤ 100)
    (turn : ∀ (C : Addr) (i : Nat) (v : Value) (s₁ : Shared) (m₁ : Str → Option Value), ws[i]? = some v → s₁.heap.Ns C m₁ → m₁ x0 = some v → Kb [] s s₁ →
      wpAny (model prog w) A (eval i1 (compEnvC scope cl C env)) (fun xv s₂ => ∃ lh vh, xv = .ref lh ∧ s₁.heap.get? lh = none ∧ s₂.heap.PlainList lh vh.toArray ∧ vh.length ≤ 1000 ∧ Kb [] s₁ s₂ ∧ F v vh) (fun _ _ => False) s₁)
    (done : ∀ D s' vhs, s.heap.get? D = none → s'.heap.PlainList D vhs.flatten.toArray → Paired F ws vhs → Kb [] s s' →
      (match use with | none => Q (.ref D) s' | some u => wpAny (model prog w) A (u (.ref D)) (fun _ s'' => ∀ C, s.heap.get? C = none → D ≠ C → (∃ m, s'.heap.Ns C m) → (∃ m, s''.heap.Ns C m) ∧ ∀ h', Heap.SameBut C s''.heap h' → Q .none { s'' with heap := h' }) E s'))
    (hcell : ∀ y ∈ scope.names, y.2 ≠ .cell := by decide +kernel) (hkind : scope.kind = .function := by rfl) (hx0 : scope.names.lookup x0 = some .local := by rfl) (hx1 : scope.names.lookup x1 = some .local := by rfl)
    (hd : (x1 == ("__debug__" : Str)) = false := by decide +kernel) (hfold : ∀ C v, foldedSetIterable i1 (compEnvC scope cl C env) v = pure v := by intro _ _; rfl) :
    CompRun prog w A E env (.ListComp (.Name x1 pe) [⟨.Name x0 p0, i0, [], 0⟩, ⟨.Name x1 p1, i1, [], 0⟩] scope pos) scope cl use Q (.ref l) s := by
  unfold CompRun
  refine wpAny_pyIter_list hl.isList ?_
  have k₂ : Kb [] s { s with heap := s.heap.push { cls := .type "list_iterator", data := .fields #[.ref l, .int 0 0] } } := Kb.push s _ _
  have hI : s.heap.get? s.heap.objs.size = none := fresh_size _
  have hIt : ({ s with heap := s.heap.push { cls := .type "list_iterator", data := .fields #[.ref l, .int 0 0] } } : Shared).heap.IsListIter s.heap.objs.size l 0 := ⟨_, Heap.get?_push_size _ rfl, rfl, rfl⟩
  generalize ({ s with heap := s.heap.push { cls := .type "list_iterator", data := .fields #[.ref l, .int 0 0] } } : Shared) = s₂ at k₂ hIt ⊢
  generalize s.heap.objs.size = I at hI hIt ⊢
  refine wpAny_newObj_type (wpAny_newFunctionEnv hcell (by intro y hy; simp at hy) (fun h₁ hns₁ hsb₁ => ?_) hkind)
  dsimp only at hns₁ hsb₁ ⊢
  generalize hH2 : s₂.heap.push { cls := .type "list", dict := none, data := .seq ([] : List Value).toArray } = H2 at hns₁ hsb₁ ⊢
  have hC : H2.objs.size = s₂.heap.objs.size + 1 := by rw [← hH2, Heap.size_push]
  have hDC : s₂.heap.objs.size ≠ H2.objs.size := by rw [hC]; exact Nat.ne_of_lt (Nat.lt_succ_self _)
  have below : ∀ b, b < s₂.heap.objs.size → b ≠ H2.objs.size ∧ b ≠ s₂.heap.objs.size := fun b hb => ⟨by rw [hC]; exact Nat.ne_of_lt (Nat.lt_succ_of_lt hb), Nat.ne_of_lt hb⟩
  have old : ∀ b o, s₂.heap.get? b = some o → h₁.get? b = some o := fun b o e => hsb₁.extBut b o (below b (Heap.lt_size e)).1 (Heap.get?_push_of_some _ (hH2 ▸ Heap.get?_push_of_some _ e))
  have hacc : h₁.PlainList s₂.heap.objs.size #[] := ⟨_, hsb₁.extBut _ _ hDC (Heap.get?_push_of_some _ (hH2 ▸ Heap.get?_push_size _ rfl))⟩
  obtain ⟨oI, hoI, rI⟩ := id hIt
  have hIl : I < s₂.heap.objs.size := Heap.lt_size hoI
  have hll : l < s₂.heap.objs.size := by obtain ⟨n, e⟩ := plK0 hl k₂; exact Heap.lt_size e
  have fresh : ∀ a, s₂.heap.objs.size ≤ a → s.heap.get? a = none := fun a ha => by
    cases e : s.heap.get? a with
    | none => rfl
    | some o' => exact absurd (Heap.lt_size (k₂.get0 e)) (Nat.not_lt.mpr ha)
  have hDn := fresh _ (Nat.le_refl _)
  have hCn := fresh H2.objs.size (by rw [hC]; exact Nat.le_succ _)
  have up₁ : ∀ b o, s.heap.get? b = some o → h₁.get? b = some o := fun b o e => old b o (k₂.get0 e)
  have base : ∀ {s₃ s₄ : Shared}, s₃ = { s₂ with heap := h₁, toks := s₂.toks + ([] : List (Str × Value)).length } → Kb [H2.objs.size, I, s₂.heap.objs.size] s₃ s₄ → Kb [] s s₄ := fun hs₃ k => by
    subst hs₃
    obtain ⟨hh₂, tt₂, dd₂, rfl, kk₂⟩ := k₂
    obtain ⟨hh, tt, dd, rfl, kk⟩ := k
    refine ⟨hh, tt, dd, rfl, fun b o hb e => kk b o ?_ (up₁ b o e)⟩
    simp only [List.mem_cons, not_or]
    refine ⟨fun q => ?_, fun q => ?_, fun q => ?_, hb⟩ <;> subst q
    · rw [hCn] at e; cases e
    · rw [hI] at e; cases e
    · rw [hDn] at e; cases e
  have lneI : l ≠ I := by rintro rfl; obtain ⟨n, e⟩ := hl; rw [e] at hI; cases hI
  have loop : ∀ s₃ : Shared, s₃ = { s₂ with heap := h₁, toks := s₂.toks + ([] : List (Str × Value)).length } →
      codeAny (model prog w) A (.compLoop (.ListComp (.Name x1 pe) [⟨.Name x0 p0, i0, [], 0⟩, ⟨.Name x1 p1, i1, [], 0⟩] scope pos) 0 (.ref I) (.ref s₂.heap.objs.size) (compEnvC scope cl H2.objs.size env))
        (compPost (model prog w) A E use Q (.ref s₂.heap.objs.size) H2.objs.size) s₃ := by
    intro s₃ hs₃
    refine outer_loop (cenv := compEnvC scope cl H2.objs.size env) F hh hkind (lookup_relabel_local hx0) (lookup_relabel_local hx1) hd (hfold _) (Ne.symm hDC) (Ne.symm (below _ hIl).1) (Ne.symm (below _ hll).1) (Ne.symm (below _ hIl).2) (Ne.symm (below _ hll).2) lneI hws
      (by subst hs₃; exact ⟨oI, old _ _ hoI⟩) (by subst hs₃; obtain ⟨n, e⟩ := hacc; exact ⟨_, e⟩) (by subst hs₃; exact ⟨oI, old _ _ hoI, rI⟩) (by subst hs₃; obtain ⟨n, e⟩ := hl; exact ⟨_, up₁ _ _ e, rfl, n, rfl⟩) (by subst hs₃; exact hacc) (by subst hs₃; exact hns₁)
      (fun i v s₁ m₁ hv hn hm hk => turn _ i v s₁ m₁ hv hn hm (base hs₃ hk)) fun s' m' vhs hk hP hpl hn => ?_
    have hdn := done _ s' vhs hDn hpl hP (base hs₃ hk)
    cases use with
    | none =>
      refine ⟨m', hn, fun h' hs' => ?_⟩
      refine done _ { s' with heap := h' } vhs hDn (hpl.extBut hs'.extBut hDC) hP ?_
      obtain ⟨hh, tt, dd, rfl, kk⟩ := base hs₃ hk
      exact ⟨h', tt, dd, rfl, fun b o hb e => hs'.extBut b o (by rintro rfl; rw [hCn] at e; cases e) (kk b o hb e)⟩
    | some u =>
      refine wpAny_mono hdn (fun _ s'' hq => ?_) fun _ _ e => e
      obtain ⟨⟨m'', hn''⟩, hq'⟩ := hq _ hCn hDC ⟨m', hn⟩
      exact ⟨m'', hn'', hq'⟩
  exact codeAny_compStart_list (loop _ rfl) (wpAny_pyIter_listiter ⟨oI, old _ _ hoI, rI⟩ (loop _ rfl))
end
end Mine

-- part G1
namespace Mine
open PySem PySem.W PyProof.Rows
open Builtin Builtin.Str

def item1 : Tk → Item
  | .star => none
  | .any => some (true, [])
  | .lit c => some (false, [c])
  | .set (33 :: r) => some (true, r)
  | .set st => some (false, st)

theorem okLit (c : Nat) : okTk (litTk c) = true := by
  unfold litTk
  split
  · rename_i h
    rcases h with rfl | rfl | rfl <;> decide
  · rename_i h
    simp only [not_or] at h
    simp [okTk, h]
theorem item_lit (c : Nat) : item1 (litTk c) = some (false, [c]) := by
  unfold litTk
  split
  · rename_i h
    rcases h with rfl | rfl | rfl <;> rfl
  · rfl
theorem toksOf_ok (k c : Nat) : (toksOf k c).all okTk = true := by
  unfold toksOf
  split
  · rename_i h
    have : ∀ i < 7, ((toks7[i]?).toList).all okTk = true := by decide
    exact this _ h
  · split
    · simp [okLit]
    · rfl
theorem itsOf_eq (k c : Nat) : itsOf k c = (toksOf k c).map item1 := by
  unfold itsOf toksOf
  split
  · rename_i h
    have : ∀ i < 7, (its7[i]?).toList = ((toks7[i]?).toList).map item1 := by decide
    exact this _ h
  · split
    · simp [item_lit]
    · rfl
theorem fold_ok : ∀ (xs : List Int) (d : DS), d.ts.all okTk = true → d.its = d.ts.map item1 → (xs.foldl dstep d).ts.all okTk = true ∧ (xs.foldl dstep d).its = (xs.foldl dstep d).ts.map item1
  | [], d, h1, h2 => ⟨h1, h2⟩
  | x :: xs, d, h1, h2 => fold_ok xs (dstep d x) (by show (d.ts ++ _).all okTk = true; rw [List.all_append, h1, toksOf_ok]; rfl) (by show d.its ++ _ = (d.ts ++ _).map item1; rw [h2, List.map_append, itsOf_eq])
theorem drawn_ok (xs : List Int) : (drawnOf xs).ts.all okTk = true := (fold_ok _ _ rfl rfl).1
theorem drawn_its (xs : List Int) : (drawnOf xs).its = (drawnOf xs).ts.map item1 := (fold_ok _ _ rfl rfl).2

def part1 : Tk → Part
  | .star => none
  | .any => some [46]
  | .set st => some (91 :: (shown st ++ [93]))
  | .lit c => some (esc c)

theorem special_facts : special.all (fun c => !alnum [c]) = true := by decide +kernel
theorem signs_special : signs1.all (special.contains ·) = true := by decide +kernel
theorem inStr1 (c : Nat) (l : List Nat) : inStr [c] l = decide (c ∈ l) := by
  unfold inStr
  rw [show mk [c] = ⟨#[c]⟩ from rfl, StrLaws.found_one, mk_toList]
theorem cut_one (c : Nat) : cut [c] none (some 2) = [c] := rfl
theorem cut_two (c d : Nat) : cut [c, d] (some 1) none = [d] := rfl
theorem read_lit (c : Nat) : readS (esc c) = (false, [c]) := by
  unfold esc
  split
  · rename_i h
    have ha : alnum [c] = false := by
      have := List.all_eq_true.mp special_facts c (by simpa using h)
      simpa using this
    unfold readS
    rw [cut_two, ha]
    simp
  · rename_i h
    have hn : ∀ d ∈ special, c ≠ d := by
      rintro d hd rfl
      exact h (by simpa using hd)
    have h46 : c ≠ 46 := hn 46 (by decide)
    have h92 : c ≠ 92 := hn 92 (by decide)
    have h91 : c ≠ 91 := hn 91 (by decide)
    have hin : inStr [c] signs1 = false := by
      rw [inStr1, decide_eq_false_iff_not]
      intro hm
      have := List.all_eq_true.mp signs_special c hm
      exact h this
    unfold readS
    rw [cut_one, hin]
    simp [h46, h92, h91]
theorem read_set : stuffs.all (fun st => decide (readP (part1 (.set st)) = item1 (.set st))) = true := by decide +kernel
theorem read_part {tk : Tk} (h : okTk tk = true) : readP (part1 tk) = item1 tk := by
  cases tk with
  | star => rfl
  | any => rfl
  | lit c => show some (readS (esc c)) = _; rw [read_lit]; rfl
  | set st =>
    have h1 : stuffs.contains st = true := h
    have := List.all_eq_true.mp read_set st (by simpa using h1)
    simpa using this
end Mine

-- part G2
namespace Mine
open PySem PySem.W PyProof.Rows
open Builtin Builtin.Str

/-- where a row may end: the places after it, told by membership -/
def S : List Item → List Nat → Nat → Prop
  | its, x, p => p ∈ its.foldl (stepP x) [0]

theorem range_filter_first (n q : Nat) (ps : List Nat) : ∀ p, p ∈ (List.range (n + 1)).filter (geFirst (q :: ps)) ↔ p ≤ n ∧ q ≤ p := by
  intro p
  rw [List.mem_filter, List.mem_range]
  simp [geFirst]; omega

def Asc (ps : List Nat) : Prop := ps.Pairwise (· < ·)
theorem asc_step {x : List Nat} {ps : List Nat} (h : Asc ps) (it : Item) : Asc (stepP x ps it) := by
  cases it with
  | none => exact List.Pairwise.filter _ List.pairwise_lt_range
  | some p =>
    obtain ⟨b, cs⟩ := p
    exact (List.Pairwise.filter _ h).map _ (fun a b hab => Nat.succ_lt_succ hab)
theorem asc_fold {x : List Nat} : ∀ (its : List Item) (ps : List Nat), Asc ps → Asc (its.foldl (stepP x) ps)
  | [], ps, h => h
  | it :: its, ps, h => asc_fold its _ (asc_step h it)

theorem mem_none {x ps : List Nat} (h : Asc ps) (p : Nat) : p ∈ stepP x ps none ↔ p ≤ x.length ∧ ∃ q ∈ ps, q ≤ p := by
  unfold stepP
  cases ps with
  | nil => simp [geFirst]
  | cons q ps =>
    rw [range_filter_first]
    constructor
    · rintro ⟨h1, h2⟩; exact ⟨h1, q, by simp, h2⟩
    · rintro ⟨h1, r, hr, h2⟩
      refine ⟨h1, ?_⟩
      rcases List.mem_cons.mp hr with rfl | hr
      · exact h2
      · have := (List.pairwise_cons.mp h).1 r hr; omega
theorem mem_some {x ps : List Nat} {b : Bool} {cs : List Nat} (p : Nat) : p ∈ stepP x ps (some (b, cs)) ↔ ∃ q ∈ ps, okP x cs b q = true ∧ p = q + 1 := by
  unfold stepP
  rw [List.mem_map]
  constructor
  · rintro ⟨q, hq, rfl⟩; rw [List.mem_filter] at hq; exact ⟨q, hq.1, hq.2, rfl⟩
  · rintro ⟨q, hq, h1, rfl⟩; exact ⟨q, List.mem_filter.mpr ⟨hq, h1⟩, rfl⟩

/-- two ascending lists with the same members are one -/
theorem asc_ext : ∀ {a b : List Nat}, Asc a → Asc b → (∀ p, p ∈ a ↔ p ∈ b) → a = b
  | [], [], _, _, _ => rfl
  | [], y :: b, _, _, h => by have := (h y).mpr (by simp); simp at this
  | x :: a, [], _, _, h => by have := (h x).mp (by simp); simp at this
  | x :: a, y :: b, ha, hb, h => by
    have ha' := List.pairwise_cons.mp ha
    have hb' := List.pairwise_cons.mp hb
    have e : x = y := by
      have h1 := (h x).mp (by simp)
      have h2 := (h y).mpr (by simp)
      rcases List.mem_cons.mp h1 with e | h1
      · exact e
      · rcases List.mem_cons.mp h2 with e | h2
        · exact e.symm
        · have := hb'.1 x h1; have := ha'.1 y h2; omega
    subst e
    rw [asc_ext ha'.2 hb'.2 fun p => ?_]
    have := h p
    simp only [List.mem_cons] at this
    constructor
    · intro hp
      rcases this.mp (.inr hp) with rfl | h'
      · exact absurd (ha'.1 p hp) (Nat.lt_irrefl _)
      · exact h'
    · intro hp
      rcases this.mpr (.inr hp) with rfl | h'
      · exact absurd (hb'.1 p hp) (Nat.lt_irrefl _)
      · exact h'

theorem none_idem {x ps : List Nat} (h : Asc ps) : stepP x (stepP x ps none) none = stepP x ps none := by
  refine asc_ext (asc_step (asc_step h none) none) (asc_step h none) fun p => ?_
  rw [mem_none (asc_step h none), mem_none h]
  constructor
  · rintro ⟨h1, q, hq, h2⟩
    rw [mem_none h] at hq
    obtain ⟨_, r, hr, h3⟩ := hq
    exact ⟨h1, r, hr, by omega⟩
  · rintro ⟨h1, q, hq, h2⟩
    exact ⟨h1, p, (mem_none h p).mpr ⟨h1, q, hq, h2⟩, Nat.le_refl _⟩

theorem snocInd {α : Type} {P : List α → Prop} (h0 : P []) (hs : ∀ ts t, P ts → P (ts ++ [t])) (ts : List α) : P ts := by
  have h : ∀ l : List α, P l.reverse := by
    intro l
    induction l with
    | nil => exact h0
    | cons a l ih => rw [List.reverse_cons]; exact hs _ _ ih
  have := h ts.reverse
  rwa [List.reverse_reverse] at this

/-- runs of stars collapse in `parts`, to no effect -/
theorem parts_takes (x : List Nat) : ∀ (ts : List Tk), ts.all okTk = true → ((parts ts).map readP).foldl (stepP x) [0] = (ts.map item1).foldl (stepP x) [0] := by
  intro ts
  induction ts using snocInd with
  | h0 => intro _; rfl
  | hs ts t ih =>
    intro hok
    rw [List.all_append, Bool.and_eq_true] at hok
    have ih := ih hok.1
    have ht : okTk t = true := by simpa using hok.2
    rw [parts_snoc, List.map_append, List.foldl_append, ← ih]
    have plain : ∀ q : Part, ((parts ts ++ [q]).map readP).foldl (stepP x) [0] = stepP x (((parts ts).map readP).foldl (stepP x) [0]) (readP q) := fun q => by
      rw [List.map_append, List.foldl_append]; rfl
    have one : ([t].map item1).foldl (stepP x) (((parts ts).map readP).foldl (stepP x) [0]) = stepP x (((parts ts).map readP).foldl (stepP x) [0]) (item1 t) := rfl
    rw [one]
    cases t with
    | star =>
      unfold pstep
      dsimp only
      split
      · rename_i hl
        have hl : (parts ts).getLast? = some none := by simpa using hl
        obtain ⟨l, hl'⟩ : ∃ l, parts ts = l ++ [none] := by
          rw [List.getLast?_eq_some_iff] at hl; exact hl
        rw [hl', List.map_append, List.foldl_append]
        show stepP x _ none = stepP x (stepP x _ none) none
        exact (none_idem (asc_fold _ _ (by simp [Asc]))).symm
      · exact plain none
    | any => exact plain _
    | set st => rw [← read_part (tk := .set st) ht]; exact plain _
    | lit c => rw [← read_part (tk := .lit c) ht]; exact plain _
end Mine

-- part G3
namespace Mine
open PySem PySem.W PyProof.Rows
open Builtin Builtin.Str

/-- the places up to `k` are the places of the head of `k` signs -/
theorem places_take (x : List Nat) (k : Nat) (hk : k ≤ x.length) : ∀ (its : List Item) (p : Nat), p ≤ k → (p ∈ its.foldl (stepP x) [0] ↔ p ∈ its.foldl (stepP (x.take k)) [0]) := by
  intro its
  induction its using snocInd with
  | h0 => intro p _; exact Iff.rfl
  | hs its it ih =>
    intro p hp
    rw [List.foldl_append, List.foldl_append]
    show p ∈ stepP x _ it ↔ p ∈ stepP (x.take k) _ it
    have a1 : Asc (its.foldl (stepP x) [0]) := asc_fold _ _ (by simp [Asc])
    have a2 : Asc (its.foldl (stepP (x.take k)) [0]) := asc_fold _ _ (by simp [Asc])
    have hlen : (x.take k).length = k := by rw [List.length_take]; omega
    cases it with
    | none =>
      rw [mem_none a1, mem_none a2, hlen]
      constructor
      · rintro ⟨_, q, hq, hqp⟩; exact ⟨hp, q, (ih q (by omega)).mp hq, hqp⟩
      · rintro ⟨_, q, hq, hqp⟩; exact ⟨by omega, q, (ih q (by omega)).mpr hq, hqp⟩
    | some bc =>
      obtain ⟨b, cs⟩ := bc
      rw [mem_some, mem_some]
      have hok : ∀ q, q < k → okP (x.take k) cs b q = okP x cs b q := by
        intro q hq
        unfold okP
        rw [List.getElem?_take_of_lt hq]
      constructor
      · rintro ⟨q, hq, h1, rfl⟩
        exact ⟨q, (ih q (by omega)).mp hq, by rw [hok q (by omega)]; exact h1, rfl⟩
      · rintro ⟨q, hq, h1, rfl⟩
        exact ⟨q, (ih q (by omega)).mpr hq, by rw [← hok q (by omega)]; exact h1, rfl⟩

theorem takes_mem (its : List Item) (x : List Nat) : takes its x = true ↔ x.length ∈ its.foldl (stepP x) [0] := by
  unfold takes
  rw [List.any_eq_true]
  exact ⟨fun ⟨p, h, e⟩ => by rw [beq_iff_eq] at e; rw [← e]; exact h, fun h => ⟨_, h, by simp⟩⟩
theorem takes_head (its : List Item) (x : List Nat) (k : Nat) (hk : k ≤ x.length) : takes its (x.take k) = true ↔ k ∈ its.foldl (stepP x) [0] := by
  rw [takes_mem, List.length_take, Nat.min_eq_left hk]
  exact (places_take x k hk its k (Nat.le_refl _)).symm

/-- a row, a dot and a star behind it -/
theorem takes_below (its : List Item) (x : List Nat) : takes (its ++ [some (false, [46]), none]) x = true ↔ ∃ k, x[k]? = some 46 ∧ takes its (x.take k) = true := by
  have a1 : Asc (its.foldl (stepP x) [0]) := asc_fold _ _ (by simp [Asc])
  rw [takes_mem, List.foldl_append]
  show x.length ∈ stepP x (stepP x _ (some (false, [46]))) none ↔ _
  rw [mem_none (asc_step a1 _)]
  constructor
  · rintro ⟨_, q, hq, _⟩
    rw [mem_some] at hq
    obtain ⟨k, hk, hok, rfl⟩ := hq
    unfold okP at hok
    cases hx : x[k]? with
    | none => rw [hx] at hok; cases hok
    | some c =>
      rw [hx] at hok
      have hc : c = 46 := by simpa using hok
      have hkl := (List.getElem?_eq_some_iff.mp hx).1
      exact ⟨k, by rw [hc] at hx; exact hx, (takes_head its x k (Nat.le_of_lt hkl)).mpr hk⟩
  · rintro ⟨k, hx, ht⟩
    have hkl := (List.getElem?_eq_some_iff.mp hx).1
    refine ⟨Nat.le_refl _, k + 1, (mem_some _).mpr ⟨k, (takes_head its x k (Nat.le_of_lt hkl)).mp ht, ?_, rfl⟩, hkl⟩
    unfold okP; rw [hx]; rfl
end Mine

-- part G4
namespace Mine
open PySem PySem.W PyProof.Rows
open Builtin Builtin.Str

theorem starts_iff (y m : List Nat) : starts y m = true ↔ m.length ≤ y.length ∧ y.take m.length = m := by
  unfold starts Txt.startswith
  rw [Bool.and_eq_true, StrLaws.subAt_eq, decide_eq_true_eq, mk_length, mk_length, mk_toList, mk_toList, beq_iff_eq, List.drop_zero, Nat.zero_add]
theorem starts_dot (y m : List Nat) : starts y (m ++ [46]) = true ↔ ∃ k, y[k]? = some 46 ∧ y.take k = m := by
  rw [starts_iff]
  constructor
  · rintro ⟨h1, h2⟩
    rw [List.length_append] at h1 h2
    have h3 : y.take (m.length + 1) = m ++ [46] := h2
    refine ⟨m.length, ?_, ?_⟩
    · have : (y.take (m.length + 1))[m.length]? = some 46 := by rw [h3]; simp
      rwa [List.getElem?_take_of_lt (Nat.lt_succ_self _)] at this
    · have : (y.take (m.length + 1)).take m.length = m := by rw [h3]; simp
      rwa [List.take_take, Nat.min_eq_left (Nat.le_succ _)] at this
  · rintro ⟨k, hk, rfl⟩
    have hkl := (List.getElem?_eq_some_iff.mp hk).1
    have e : (y.take k).length = k := by rw [List.length_take]; omega
    rw [List.length_append, e]
    refine ⟨hkl, ?_⟩
    show y.take (k + 1) = _
    rw [List.take_add_one, hk]; rfl
theorem mem_heads (y h : List Nat) : h ∈ heads y ↔ h = y ∨ ∃ k, y[k]? = some 46 ∧ y.take k = h := by
  unfold heads
  rw [List.mem_append, List.mem_map, List.mem_singleton]
  constructor
  · rintro (⟨k, hk, rfl⟩ | rfl)
    · rw [List.mem_filter] at hk
      exact .inr ⟨k, by simpa using hk.2, rfl⟩
    · exact .inl rfl
  · rintro (rfl | ⟨k, hk, rfl⟩)
    · exact .inr rfl
    · refine .inl ⟨k, List.mem_filter.mpr ⟨?_, by simpa using hk⟩, rfl⟩
      rw [List.mem_range]; exact (List.getElem?_eq_some_iff.mp hk).1
theorem isIn_heads (ns : List (List Nat)) (y : List Nat) : isIn ns y = true ↔ ∃ h ∈ heads y, h ∈ ns := by
  unfold isIn
  rw [Bool.or_eq_true, List.contains_iff_mem, List.any_eq_true]
  constructor
  · rintro (h | ⟨m, hm, h⟩)
    · exact ⟨y, (mem_heads _ _).mpr (.inl rfl), h⟩
    · obtain ⟨k, hk, e⟩ := (starts_dot _ _).mp h
      exact ⟨m, (mem_heads _ _).mpr (.inr ⟨k, hk, e⟩), hm⟩
  · rintro ⟨h, hh, hn⟩
    rcases (mem_heads _ _).mp hh with rfl | ⟨k, hk, rfl⟩
    · exact .inl hn
    · exact .inr ⟨_, hn, (starts_dot _ _).mpr ⟨k, hk, rfl⟩⟩
end Mine

-- part G5
namespace Mine
open PySem PySem.W PyProof.Rows
open Builtin Builtin.Str

theorem heads_trans {l w h : List Nat} (h1 : w ∈ heads l) (h2 : h ∈ heads w) : h ∈ heads l := by
  rcases (mem_heads _ _).mp h1 with rfl | ⟨k, hk, rfl⟩
  · exact h2
  · rcases (mem_heads _ _).mp h2 with rfl | ⟨j, hj, rfl⟩
    · exact h1
    · have hjl := (List.getElem?_eq_some_iff.mp hj).1
      rw [List.length_take] at hjl
      have hjk : j < k := by omega
      rw [List.getElem?_take_of_lt hjk] at hj
      refine (mem_heads _ _).mpr (.inr ⟨j, hj, ?_⟩)
      rw [List.take_take, Nat.min_eq_left (Nat.le_of_lt hjk)]
def knownOf (listed : List (List Nat)) : List (List Nat) := listed.flatMap heads
theorem known_closed {listed : List (List Nat)} {w h : List Nat} (h1 : w ∈ knownOf listed) (h2 : h ∈ heads w) : h ∈ knownOf listed := by
  obtain ⟨l, hl, hw⟩ := List.mem_flatMap.mp h1
  exact List.mem_flatMap.mpr ⟨l, hl, heads_trans hw h2⟩
def askedOf (listed : List (List Nat)) : List (List Nat) := knownOf listed ++ (knownOf listed).map (· ++ [46, 98])
def takenOf (its : List Item) (listed : List (List Nat)) : List (List Nat) := (knownOf listed).filter (takes its)

theorem law_check (its : List Item) (listed : List (List Nat)) {y : List Nat} (hy : y ∈ askedOf listed) :
    isIn (takenOf its listed) y = ((takenOf its listed).contains y || takes (its ++ [some (false, [46]), none]) y) := by
  rw [Bool.eq_iff_iff, isIn_heads, Bool.or_eq_true, List.contains_iff_mem, takes_below]
  constructor
  · rintro ⟨h, hh, ht⟩
    rcases (mem_heads _ _).mp hh with rfl | ⟨k, hk, rfl⟩
    · exact .inl ht
    · exact .inr ⟨k, hk, (List.mem_filter.mp ht).2⟩
  · rintro (h | ⟨k, hk, ht⟩)
    · exact ⟨y, (mem_heads _ _).mpr (.inl rfl), h⟩
    · refine ⟨y.take k, (mem_heads _ _).mpr (.inr ⟨k, hk, rfl⟩), List.mem_filter.mpr ⟨?_, ht⟩⟩
      rcases List.mem_append.mp hy with hy | hy
      · exact known_closed hy ((mem_heads _ _).mpr (.inr ⟨k, hk, rfl⟩))
      · obtain ⟨w, hw, rfl⟩ := List.mem_map.mp hy
        have hkl := (List.getElem?_eq_some_iff.mp hk).1
        rw [List.length_append] at hkl
        by_cases hkw : k < w.length
        · rw [List.getElem?_append_left hkw] at hk
          rw [List.take_append_of_le_length (Nat.le_of_lt hkw)]
          exact known_closed hw ((mem_heads _ _).mpr (.inr ⟨k, hk, rfl⟩))
        · have hk2 : k = w.length ∨ k = w.length + 1 := by simp at hkl; omega
          rcases hk2 with rfl | rfl
          · rw [List.take_append_of_le_length (Nat.le_refl _), List.take_length]; exact hw
          · rw [List.getElem?_append_right (by omega)] at hk
            simp at hk
end Mine

-- part F6
namespace Mine
open PySem PySem.W PyProof.Rows
open Sem (wp)

/-! ## what is known of the names of `law` -/
def isSeq (o : Obj) : Bool := match o.data with | .seq .. => true | _ => false
def Nice (W : List Addr) (h : Heap) : Prop := ∀ b ∈ W, ∃ o, h.get? b = some o ∧ isSeq o = false
theorem isTup_seq {o : Obj} (h : isSeq o = false) : isTup o = false := by
  unfold isSeq at h; unfold isTup; cases hd : o.data <;> simp_all
theorem Nice.tup {W : List Addr} {h : Heap} (n : Nice W h) : ∀ b ∈ W, ∃ o, h.get? b = some o ∧ isTup o = false := fun b hb => by
  obtain ⟨o, ho, hs⟩ := n b hb; exact ⟨o, ho, isTup_seq hs⟩
theorem Nice.nil (h : Heap) : Nice [] h := fun b hb => by simp at hb
theorem Nice.pl {W : List Addr} {h : Heap} (n : Nice W h) {l : Addr} {xs : Array Value} (x : h.PlainList l xs) : l ∉ W := fun q => by
  obtain ⟨o, ho, hs⟩ := n l q; obtain ⟨k, e⟩ := x; rw [e] at ho; cases ho; cases hs
theorem Nice.ns {h : Heap} {C : Addr} (x : ∃ m, h.Ns C m) : Nice [C] h := fun b hb => by
  rw [List.mem_singleton] at hb; subst hb
  obtain ⟨m, o, es, ep, ho, hd, _⟩ := x; exact ⟨o, ho, by simp [isSeq, hd]⟩
theorem Nice.tb {h : Heap} (x : Tb h) : Nice [126] h := fun b hb => by
  rw [List.mem_singleton] at hb; subst hb
  obtain ⟨ps, ho, _⟩ := x; exact ⟨_, ho, rfl⟩

inductive Fact where
  | words (xs : List (List Nat)) | row (is : List Item) | nums (ns : List Nat) | txt (x : List Nat) | val (v : Value)
def Fact.ok (h : Heap) : Fact → Value → Prop
  | .words xs, v => ∃ l vs, v = .ref l ∧ h.PlainList l vs.toArray ∧ Strs vs xs
  | .row is, v => ∃ l vs, v = .ref l ∧ h.PlainList l vs.toArray ∧ Paired (fun v it => IsIt h it v) vs is
  | .nums ns, v => ∃ l vs, v = .ref l ∧ h.PlainList l vs.toArray ∧ Nats vs ns
  | .txt x, v => ∃ t, v = .str (mk x) t
  | .val u, v => v = u
def Facts : List (String × Fact) → (Str → Option Value) → Heap → Prop
  | [], _, _ => True
  | (x, f) :: r, m, h => (∃ v, m (Str.ofString x) = some v ∧ f.ok h v) ∧ Facts r m h

section
variable {s s' : Shared} {W : List Addr} {m : Str → Option Value}
theorem Fact.ch {f : Fact} {v : Value} (x : f.ok s.heap v) (c : Ch W s s') (n : Nice W s.heap) : f.ok s'.heap v := by
  cases f with
  | words xs => obtain ⟨l, vs, e, h1, h2⟩ := x; exact ⟨l, vs, e, plC h1 c (n.pl h1), h2⟩
  | row is => obtain ⟨l, vs, e, h1, h2⟩ := x; exact ⟨l, vs, e, plC h1 c (n.pl h1), h2.mono fun _ _ h => h.im (imC c n.tup)⟩
  | nums ns => obtain ⟨l, vs, e, h1, h2⟩ := x; exact ⟨l, vs, e, plC h1 c (n.pl h1), h2⟩
  | txt x' => exact x
  | val u => exact x
theorem Facts.ch : ∀ {fs : List (String × Fact)}, Facts fs m s.heap → Ch W s s' → Nice W s.heap → Facts fs m s'.heap
  | [], _, _, _ => trivial
  | (x, f) :: r, ⟨⟨v, h1, h2⟩, h3⟩, c, n => ⟨⟨v, h1, Fact.ch h2 c n⟩, Facts.ch h3 c n⟩
theorem Facts.nil (m : Str → Option Value) (h : Heap) : Facts [] m h := trivial
theorem Facts.ch0 {fs : List (String × Fact)} (F : Facts fs m s.heap) (c : Ch [] s s') : Facts fs m s'.heap := F.ch c (Nice.nil _)
theorem Facts.kb {fs : List (String × Fact)} (F : Facts fs m s.heap) (c : Kb W s s') (n : Nice W s.heap) : Facts fs m s'.heap := F.ch c.ch n
theorem Facts.skip {x : Str} {v : Value} {h : Heap} : ∀ {fs : List (String × Fact)}, Facts fs m h → (∀ y ∈ fs.map Prod.fst, Str.ofString y ≠ x) → Facts fs (upd m x v) h
  | [], _, _ => trivial
  | (y, f) :: r, ⟨⟨u, h1, h2⟩, h3⟩, n => ⟨⟨u, upd_ne (n y (by simp)) h1, h2⟩, Facts.skip h3 fun z hz => n z (List.mem_cons_of_mem _ hz)⟩
theorem Facts.put {x : String} {v : Value} {f : Fact} {h : Heap} {fs : List (String × Fact)} (F : Facts fs m h) (hv : f.ok h v) (n : x ∉ fs.map Prod.fst) : Facts ((x, f) :: fs) (upd m (Str.ofString x) v) h :=
  ⟨⟨v, upd_eq, hv⟩, F.skip fun y hy => str_ne (fun e => n (e ▸ hy))⟩
end

section
variable {prog : Program} {w : World} {A : Around} {M : Model} {E : Value → Shared → Prop} {s s' s₀ : Shared} {env : Env} {m : Str → Option Value} {W₀ : List Addr}

theorem use_store {y : Str} {py : Pos} {D : Addr} {Q : Value → Shared → Prop} (a0 : Act W₀ env s₀ s m) (a : Act W₀ env s₀ s' m) (hk : env.kindOf y = some .local)
    (h : ∀ C s'', s.heap.get? C = none → D ≠ C → Nice [C] s'.heap → Act W₀ env s₀ s'' (upd m y (.ref D)) → Ch [C] s' s'' → Q .none s'') :
    wpAny M A (assign (.Name y py) env (.ref D)) (fun _ s'' => ∀ C, s.heap.get? C = none → D ≠ C → (∃ m, s'.heap.Ns C m) → (∃ m, s''.heap.Ns C m) ∧ ∀ h', Heap.SameBut C s''.heap h' → Q .none { s'' with heap := h' }) E s' := by
  refine assign_Name ?_
  rw [storeName_local hk (by rw [a.kind]; rfl)]
  obtain ⟨o, es, ep, ho, hc, hdt, hs, hf⟩ := a.ns
  obtain ⟨o0, _, _, ho0, _⟩ := a0.ns
  refine nsSet_frame ho hc hdt hs fun h' o' es' ep' ho' hc' hd' hs' hf' hsb => ?_
  intro C hC hDC hnC
  have hCl : env.locals ≠ C := by rintro rfl; rw [hC] at ho0; cases ho0
  refine ⟨?_, fun h2 hs2 => ?_⟩
  · obtain ⟨mC, hnC⟩ := hnC
    exact ⟨mC, hnC.sameBut hsb (Ne.symm hCl)⟩
  refine h C _ hC hDC (Nice.ns hnC) ⟨a.kind, ⟨o', es', ep', (hs2.2 _ hCl).trans ho', hc', hd', hs', fun z hz => ?_⟩, fun z hz => ?_, a.newL, a.newC, a.apart, ?_⟩ ⟨h2, _, _, rfl, fun b o₁ hb hv e => ?_⟩
  · rw [hf']; simp only [upd]; split
    · rfl
    · exact hf z hz
  · obtain ⟨c, hcl, hcell⟩ := a.cell z hz
    have hzy : z ≠ y := fun e => by rw [e, hk] at hz; cases hz
    refine ⟨c, hcl, ?_⟩
    have hne : c ≠ env.locals := fun e => by
      obtain ⟨oc, h1, h2⟩ := hcell
      rw [e, ho] at h1; cases h1; rw [hdt] at h2; cases h2
    obtain ⟨c0, hcl0, oc0, hoc0, _⟩ := a0.cell z hz
    rw [hcl] at hcl0; cases hcl0
    have hneC : c ≠ C := by rintro rfl; rw [hC] at hoc0; cases hoc0
    simp only [upd, if_neg hzy]
    exact (hcell.sameBut hsb hne).sameBut hs2 hneC
  · obtain ⟨h1, tk, dr, e1, k⟩ := a.base
    refine ⟨h2, _, dr, by rw [e1], fun b o₁ hb e => ?_⟩
    have e2 := a0.base.get hb e
    have e3 : s'.heap.get? b = some o₁ := a.base.get hb e
    have n1 : b ≠ env.locals := by rintro rfl; rw [a.newL] at e; cases e
    have n2 : b ≠ C := by rintro rfl; rw [hC] at e2; cases e2
    exact (hs2.2 b n2).trans ((hsb.2 b n1).trans e3)
  · have n1 : b ≠ env.locals := by rintro rfl; rw [ho] at e; cases e; simp [isVar, hc] at hv
    exact (hs2.2 b (by simpa using hb)).trans ((hsb.2 b n1).trans e)

theorem run2_to {x0 x1 : Str} {i0 i1 : Expr} {p0 p1 pe : Pos} {scope : Scope} {cl : List (Str × Addr)} {pos py : Pos} {y : Str} {Q : Value → Shared → Prop} {l : Addr} {ws : List Value} (a : Act W₀ env s₀ s m)
    (F : Value → List Value → Prop) (hh : A.handled = none) (hl : s.heap.PlainList l ws.toArray) (hws : ws.length ≤ 100)
    (turn : ∀ (C : Addr) (i : Nat) (v : Value) (s₁ : Shared) (m₁ : Str → Option Value), ws[i]? = some v → s₁.heap.Ns C m₁ → m₁ x0 = some v → Kb [] s s₁ →
      wpAny (model prog w) A (eval i1 (compEnvC scope cl C env)) (fun xv s₂ => ∃ lh vh, xv = .ref lh ∧ s₁.heap.get? lh = none ∧ s₂.heap.PlainList lh vh.toArray ∧ vh.length ≤ 1000 ∧ Kb [] s₁ s₂ ∧ F v vh) (fun _ _ => False) s₁)
    (done : ∀ D s' vhs C s'', s.heap.get? D = none → s'.heap.PlainList D vhs.flatten.toArray → Paired F ws vhs → Kb [] s s' →
      s.heap.get? C = none → D ≠ C → Nice [C] s'.heap → Act W₀ env s₀ s'' (upd m y (.ref D)) → Ch [C] s' s'' → Q .none s'')
    (hk : env.kindOf y = some .local := by rfl)
    (hcell : ∀ y ∈ scope.names, y.2 ≠ .cell := by decide +kernel) (hkind : scope.kind = .function := by rfl) (hx0 : scope.names.lookup x0 = some .local := by rfl) (hx1 : scope.names.lookup x1 = some .local := by rfl)
    (hd : (x1 == ("__debug__" : Str)) = false := by decide +kernel) (hfold : ∀ C v, foldedSetIterable i1 (compEnvC scope cl C env) v = pure v := by intro _ _; rfl) :
    CompRun prog w A E env (.ListComp (.Name x1 pe) [⟨.Name x0 p0, i0, [], 0⟩, ⟨.Name x1 p1, i1, [], 0⟩] scope pos) scope cl (some (assign (.Name y py) env)) Q (.ref l) s :=
  comp_run2 F hh hl hws turn (fun D s' vhs hD hpl hP k => use_store a (a.kp k) hk fun C s'' hC hDC hnC a' c => done D s' vhs C s'' hD hpl hP k hC hDC hnC a' c) hcell hkind hx0 hx1 hd hfold

theorem run_to {α : Type} {elt iter : Expr} {x : Str} {px : Pos} {ifs : List Expr} {scope : Scope} {cl : List (Str × Addr)} {pos py : Pos} {y : Str} {Q : Value → Shared → Prop} {xv : Value}
    {W : List Addr} {as : List α} {Rep : α → Value → Prop} (a : Act W₀ env s₀ s m) (hWv : ∀ b ∈ W, ∃ o, s.heap.get? b = some o ∧ isVar o = false) (hW0 : ∀ b ∈ W, b ∈ W₀ ∨ s₀.heap.get? b = none) (J : Nat → Heap → Prop) (F : Heap → α → Value → Prop) (p : α → Bool)
    (hsrc : Src prog w A xv s W as Rep) (hsz : as.length ≤ sizeLine)
    (hJ0 : J 0 s.heap) (hWt : ∀ i h, J i h → ∀ b ∈ W, ∃ o, h.get? b = some o ∧ isTup o = false)
    (hJ : ∀ i h h', J i h → (∀ b ∈ W, ∀ o, h.get? b = some o → h'.get? b = some o) → J i h')
    (hF : ∀ h h' a y, F h a y → Im h h' → F h' a y)
    (turn : ∀ C i a v s₁ m₁, as[i]? = some a → Rep a v → J i s₁.heap → s₁.heap.Ns C m₁ → m₁ x = some v → Kb W s s₁ →
      wpAny (model prog w) A (forIn ifs true fun c r => if r = true then do let ok ← isTrue c (compEnvC scope cl C env) (eval c (compEnvC scope cl C env)); pure (ForInStep.yield ok) else pure (ForInStep.yield r))
        (fun ok s₂ => ok = p a ∧ (if p a = true then wpAny (model prog w) A (eval elt (compEnvC scope cl C env)) (fun y s₃ => F s₃.heap a y ∧ J (i + 1) s₃.heap ∧ Kb W s₁ s₃) (fun _ _ => False) s₂ else J (i + 1) s₂.heap ∧ Kb W s₁ s₂)) (fun _ _ => False) s₁)
    (done : ∀ D s' ys C s'', s.heap.get? D = none → s'.heap.PlainList D ys → Paired (F s'.heap) (as.filter p) ys.toList → J as.length s'.heap → Kb W s s' →
      s.heap.get? C = none → D ≠ C → Nice [C] s'.heap → Act W₀ env s₀ s'' (upd m y (.ref D)) → Ch [C] s' s'' → Q .none s'')
    (hk : env.kindOf y = some .local := by rfl)
    (hcell : ∀ y ∈ scope.names, y.2 ≠ .cell := by decide +kernel) (hkind : scope.kind = .function := by rfl) (hx : scope.names.lookup x = some .local := by rfl) :
    CompRun prog w A E env (.ListComp elt [⟨.Name x px, iter, ifs, 0⟩] scope pos) scope cl (some (assign (.Name y py) env)) Q xv s :=
  comp_run J F p hsrc hsz hJ0 hWt hJ hF turn (fun D s' ys hD hpl hP hj k => use_store a (a.kb k hWv hW0) hk fun C s'' hC hDC hnC a' c => done D s' ys C s'' hD hpl hP hj k hC hDC hnC a' c) hcell hkind hx
end

/-! ## sizes -/
def lst (xs : List Int) : List (List Nat) := (drawnOf xs).init ++ [(drawnOf xs).last]
theorem filt_true {α : Type} (l : List α) : l.filter (fun _ => true) = l := by simp
theorem heads_len (x : List Nat) : (heads x).length ≤ x.length + 1 := by
  unfold heads
  rw [List.length_append, List.length_map]
  have := List.length_filter_le (fun k => x[k]? == some 46) (List.range x.length)
  simp at this ⊢; exact this
theorem heads_le {x h : List Nat} (hh : h ∈ heads x) : h.length ≤ x.length := by
  rcases (mem_heads _ _).mp hh with rfl | ⟨k, _, rfl⟩
  · exact Nat.le_refl _
  · rw [List.length_take]; omega
theorem flat_len : ∀ (l : List (List Nat)), (∀ x ∈ l, x.length ≤ 20) → (knownOf l).length ≤ 21 * l.length
  | [], _ => by simp [knownOf]
  | x :: l, h => by
    have h1 := flat_len l fun y hy => h y (List.mem_cons_of_mem _ hy)
    have h2 := heads_len x
    have h3 := h x (by simp)
    unfold knownOf at h1 ⊢
    rw [List.flatMap_cons, List.length_append, List.length_cons]; omega

def Sl (d : DS) (n : Nat) : Prop := (∀ x ∈ d.init, x.length ≤ 2 * n) ∧ d.last.length ≤ 2 * n
theorem Sl.step {d : DS} {n : Nat} (h : Sl d n) (x : Int) : Sl (dstep d x) (n + 1) := by
  obtain ⟨h1, h2⟩ := h
  have h3 := signOf_le (kd x) (fr x)
  unfold dstep dnew Sl
  by_cases hk : kd x = 7
  · rw [if_pos hk]
    refine ⟨fun y hy => ?_, ?_⟩
    · rcases List.mem_append.mp hy with hy | hy
      · have := h1 y hy; omega
      · rw [List.mem_singleton] at hy; subst hy; omega
    · simp only [List.nil_append]; omega
  · rw [if_neg hk]
    refine ⟨fun y hy => ?_, ?_⟩
    · have := h1 y hy; omega
    · simp only [List.length_append]; omega
theorem Sl.fold : ∀ (xs : List Int) (d : DS) (n : Nat), Sl d n → Sl (xs.foldl dstep d) (n + xs.length)
  | [], d, n, h => h
  | x :: xs, d, n, h => by
    have := Sl.fold xs _ _ (h.step x)
    rw [List.length_cons]
    rwa [show n + (xs.length + 1) = n + 1 + xs.length by omega]
theorem draws_len (xs : List Int) : ((if xs.isEmpty then [13] else xs).take 10).length ≤ 10 := by rw [List.length_take]; omega
theorem drawn_Sl (xs : List Int) : Sl (drawnOf xs) 10 := by
  have h := Sl.fold ((if xs.isEmpty then [13] else xs).take 10) ⟨[], [], [], []⟩ 0 ⟨by simp, by simp⟩
  have h2 := draws_len xs
  obtain ⟨h3, h4⟩ := h
  exact ⟨fun y hy => by have := h3 y hy; omega, by unfold drawnOf; omega⟩
theorem drawn_Sm (xs : List Int) : Sm (drawnOf xs) 10 := by
  have h := Sm.fold ((if xs.isEmpty then [13] else xs).take 10) ⟨[], [], [], []⟩ 0 ⟨by simp [rend], by simp, by simp, by simp⟩
  have h2 := draws_len xs
  obtain ⟨h3, h4, h5, h6⟩ := h
  refine ⟨?_, ?_, ?_, ?_⟩ <;> unfold drawnOf <;> omega
theorem lst_len (xs : List Int) : (lst xs).length ≤ 11 := by
  have := (drawn_Sm xs).2.2.1
  unfold lst; simp; omega
theorem lst_le (xs : List Int) {x : List Nat} (h : x ∈ lst xs) : x.length ≤ 20 := by
  obtain ⟨h1, h2⟩ := drawn_Sl xs
  rcases List.mem_append.mp h with h | h
  · exact h1 x h
  · rw [List.mem_singleton] at h; subst h; exact h2
theorem known_len (xs : List Int) : (knownOf (lst xs)).length ≤ 231 := by
  have := flat_len (lst xs) fun x h => lst_le xs h
  have := lst_len xs; omega
theorem known_le (xs : List Int) {x : List Nat} (h : x ∈ knownOf (lst xs)) : x.length ≤ 20 := by
  obtain ⟨l, hl, hw⟩ := List.mem_flatMap.mp h
  have := heads_le hw; have := lst_le xs hl; omega
theorem asked_len (xs : List Int) : (askedOf (lst xs)).length ≤ 462 := by
  have := known_len xs; unfold askedOf; simp; omega
theorem asked_le (xs : List Int) {x : List Nat} (h : x ∈ askedOf (lst xs)) : x.length ≤ 22 := by
  rcases List.mem_append.mp h with h | h
  · have := known_le xs h; omega
  · obtain ⟨y, hy, rfl⟩ := List.mem_map.mp h
    have := known_le xs hy; simp; omega
end Mine

-- part F7
namespace Mine
open PySem PySem.W PyProof.Rows
open Sem (wp)

theorem strs_flat : ∀ {vs : List Value} {ns : List (List Nat)} {vhs : List (List Value)}, Strs vs ns → Paired (fun v vh => ∃ x, (∃ t, v = .str (mk x) t) ∧ Strs vh (heads x)) vs vhs → Strs vhs.flatten (knownOf ns)
  | _, _, _, .nil, .nil => .nil
  | _, _, _, .cons ⟨t, e⟩ r, .cons ⟨x, ⟨t', e'⟩, hs⟩ r' => by
    subst e
    cases e'
    exact pApp hs (strs_flat r r')

section
variable {p prog : Program} {w : World} {hB : Heap} {A : Around} {E : Value → Shared → Prop} {s s' s₀ : Shared} {m : Str → Option Value} {Q : Flow → Shared → Prop}

set_option maxHeartbeats 4000000 in
theorem law_A (B : Bd p w hB) {L sa : Addr} {items : Array Value} {xs : List Int} (X₀ : Ext hB s₀.heap) (tb : Tb s.heap) (r : Rm A 4) (a : Act [126] (callEnvC (fdC 167) L 167) s₀ s m)
    (hm : m (Str.ofString "script") = some (.ref sa)) (hsa : s.heap.IsList sa items) (hi : IntsAre items.toList xs) (hsz : items.size ≤ sizeLine)
    (h : ∀ s' m', Act [126] (callEnvC (fdC 167) L 167) s₀ s' m' → Tb s'.heap → Facts [("asked", .words (askedOf (lst xs))), ("known", .words (knownOf (lst xs))), ("listed", .words (lst xs)), ("due", .row (drawnOf xs).its), ("wanted", .txt (rend (drawnOf xs).ts))] m' s'.heap →
      wpAny (model prog w) A (execs ((bodyC 167).drop 3) (callEnvC (fdC 167) L 167)) Q E s') :
    wpAny (model prog w) A (execs (bodyC 167) (callEnvC (fdC 167) L 167)) Q E s := by
  have h24 : sizeLine = 16777216 := rfl
  have X : Ext hB s.heap := X₀.kb a.base (by simp)
  refine wpAny_execs_cons (tupStore2 (W₀ := [126]) (s₀ := s₀) [(Str.ofString "wanted", _), (Str.ofString "due", _), (Str.ofString "listed", _)] r.h ?_ (by intro x hx; simp only [List.mem_cons, List.not_mem_nil, or_false] at hx; rcases hx with rfl | rfl | rfl <;> rfl) (by rfl))
  refine call_at B X (g_drawn w) (wpAny_items_cons (a.name (by rfl) hm (wpAny_items_nil ⟨X, wpAny_call (call_drawn B X (r.less (by omega)) hsa hi hsz fun T s₁ t vt vn lt ln k₁ hT hlt hln hplt hpln hits hstr => ?_)⟩)))
  refine ⟨T, _, m, rfl, hT, rfl, a.kp k₁, fun s₂ a₂ c₂ => ?_⟩
  change Act [126] _ s₀ s₂ (upd (upd (upd m (Str.ofString "wanted") _) (Str.ofString "due") _) (Str.ofString "listed") _) at a₂
  have F₁ : Facts [("listed", .words (lst xs)), ("due", .row (drawnOf xs).its), ("wanted", .txt (rend (drawnOf xs).ts))] (upd (upd (upd m (Str.ofString "wanted") (.str (mk (rend (drawnOf xs).ts)) t)) (Str.ofString "due") (.ref lt)) (Str.ofString "listed") (.ref ln)) s₁.heap :=
    (((Facts.nil m s₁.heap).put (x := "wanted") (f := .txt _) ⟨t, rfl⟩ (by simp)).put (x := "due") (f := .row _) ⟨lt, vt.toList, rfl, by simpa using hplt, hits⟩ (by simp)).put (x := "listed") (f := .words _) ⟨ln, vn.toList, rfl, by simpa using hpln, hstr⟩ (by simp)
  have F₂ := F₁.ch0 c₂
  have tb₂ : Tb s₂.heap := (tb.kb k₁ (by simp)).ch c₂ (by simp)
  have X₂ : Ext hB s₂.heap := X₀.kb a₂.base (by simp)
  clear F₁ hT hplt hpln hits hstr hlt hln
  change Act [126] _ s₀ s₂ (upd (upd (upd m (Str.ofString "wanted") (.str (mk (rend (drawnOf xs).ts)) t)) (Str.ofString "due") (.ref lt)) (Str.ofString "listed") (.ref ln)) at a₂
  generalize (upd (upd (upd m (Str.ofString "wanted") (.str (mk (rend (drawnOf xs).ts)) t)) (Str.ofString "due") (.ref lt)) (Str.ofString "listed") (.ref ln)) = m₂ at a₂ F₂
  obtain ⟨⟨_, hl, l, vs, rfl, hpl, hst⟩, _⟩ := id F₂
  have hlx := lst_len xs
  have hlv : vs.length = (lst xs).length := hst.length
  -- known
  refine wpAny_execs_cons (comp_use (a₂.name (by rfl) hl ?_))
  refine run2_to (l := l) (ws := vs) a₂ (fun v vh => ∃ x, (∃ t, v = .str (mk x) t) ∧ Strs vh (heads x)) r.h hpl (by omega) (fun C i v s₃ m₃ hv hn hm₃ k₃ => ?_) (fun D s₃ vhs C s₄ hD hplD hP k₃ hC hDC hnC a₄ c₄ => ?_)
  · obtain ⟨x, hx, t', rfl⟩ := Mine.Paired.get hst i v hv
    have hxl := lst_le xs (List.mem_of_getElem? hx)
    have X₃ := X₂.trans k₃.ext
    refine call_at B X₃ (g_heads w) (wpAny_items_cons (c_loc hn hm₃ (wpAny_items_nil ⟨X₃, wpAny_call (call_heads B X₃ (r.less (by omega)) (x := x) (by omega) fun l₄ s₄ vs₄ k₄ hl₄ hpl₄ hst₄ => ?_)⟩)))
    exact ⟨l₄, vs₄, rfl, hl₄, hpl₄, by have := heads_len x; have e : vs₄.length = (heads x).length := hst₄.length; omega, k₄, x, ⟨t', rfl⟩, hst₄⟩
  have hplD₄ : s₄.heap.PlainList D vhs.flatten.toArray := plC hplD c₄ (by simpa using hDC)
  have hstD : Strs vhs.flatten (knownOf (lst xs)) := strs_flat hst hP
  have F₄ := ((F₂.ch0 k₃.ch).ch c₄ hnC).put (x := "known") (f := .words (knownOf (lst xs))) ⟨D, vhs.flatten, rfl, hplD₄, hstD⟩ (by simp)
  have tb₄ : Tb s₄.heap := (tb₂.kb k₃ (by simp)).ch c₄ (by rw [List.mem_singleton]; rintro rfl; obtain ⟨ps, e, _⟩ := tb₂; rw [hC] at e; cases e)
  have X₄ : Ext hB s₄.heap := X₀.kb a₄.base (by simp)
  have hkl := known_len xs
  have hkv : vhs.flatten.length = (knownOf (lst xs)).length := hstD.length
  -- asked
  refine wpAny_execs_cons (wpAny_Assign_Name (wpAny_BinOp (a₄.name (by rfl) upd_eq (comp_eval (a₄.name (by rfl) upd_eq ?_)))))
  refine comp_run (W := []) (as := knownOf (lst xs)) (fun _ _ => True) (fun _ x y => ∃ t, y = .str (mk (x ++ [46, 98])) t) (fun _ => true)
    (src_pair (src_list r.h hplD₄.isList (by simp)) (by exact hstD)) (by omega) trivial (by simp) (fun _ _ _ _ _ => trivial) (fun _ _ _ _ e _ => e) (fun C j x v s₅ m₅ hx hrep _ hn hm₅ k₅ => ?_) (fun D₂ s₅ ys hD₂ hpl₂ hP₂ _ k₅ => ?_)
  · obtain ⟨_, ⟨t₅, rfl⟩, rfl⟩ := hrep
    have hxl := known_le xs (List.mem_of_getElem? hx)
    refine wpAny_tests_nil ⟨rfl, ?_⟩
    simp only [if_true]
    refine wpAny_BinOp (c_loc hn hm₅ (cStr fun t₆ s₆ k₆ => ?_))
    rw [show Str.ofString ".b" = mk [46, 98] from by decide +kernel]
    exact addStr (by simp; omega) fun t₇ s₇ k₇ => ⟨⟨t₇, rfl⟩, trivial, k₆.trans k₇⟩
  have hstA : Strs (vhs.flatten ++ ys.toList) (askedOf (lst xs)) := by
    refine pApp hstD ?_
    rw [filt_true] at hP₂
    exact pFlip (G := fun v x => ∃ t, v = Value.str (mk x) t) (fun x => x ++ [46, 98]) (fun _ _ e => e) hP₂
  have hal : (vhs.flatten ++ ys.toList).length = (askedOf (lst xs)).length := hstA.length
  have hak := asked_len xs
  refine addList (plK0 hplD₄ k₅) hpl₂ (by simp at hal ⊢; omega) fun D₃ s₆ k₆ hD₃ hpl₃ => ?_
  refine (a₄.kp (k₅.trans k₆)).store (by rfl) fun s₇ a₇ c₇ => ?_
  refine h s₇ _ a₇ ((tb₄.kb (k₅.trans k₆) (by simp)).ch c₇ (by simp)) (((F₄.ch0 (k₅.trans k₆).ch).ch0 c₇).put (x := "asked") (f := .words (askedOf (lst xs))) ⟨D₃, vhs.flatten ++ ys.toList, rfl, ?_, hstA⟩ (by simp))
  have e : (vhs.flatten ++ ys.toList).toArray = vhs.flatten.toArray ++ ys := by simp
  rw [e]; exact plC hpl₃ c₇ (by simp)
end
end Mine

-- part F8
namespace Mine
open PySem PySem.W PyProof.Rows
open Sem (wp)

/-! ## the parts of a pattern can be read -/
def pOk (q : Part) : Bool := match q with | none => true | some x => !x.isEmpty && decide (x.length ≤ 1000)
theorem stuffs_pOk : stuffs.all (fun st => pOk (some (91 :: (shown st ++ [93])))) = true := by decide +kernel
theorem parts_pOk : ∀ (ts : List Tk), ts.all okTk = true → ∀ q ∈ parts ts, pOk q = true := by
  intro ts
  induction ts using snocInd with
  | h0 => intro _ q hq; simp [parts] at hq
  | hs ts t ih =>
    intro hok q hq
    rw [List.all_append, Bool.and_eq_true] at hok
    have ih := ih hok.1
    have ht : okTk t = true := by simpa using hok.2
    rw [parts_snoc] at hq
    have one : ∀ z : Part, pOk z = true → q ∈ parts ts ++ [z] → pOk q = true := fun z hz h => by
      rcases List.mem_append.mp h with h | h
      · exact ih q h
      · rw [List.mem_singleton] at h; rw [h]; exact hz
    cases t with
    | star =>
      unfold pstep at hq
      dsimp only at hq
      split at hq
      · exact ih q hq
      · exact one none rfl hq
    | any => exact one _ rfl hq
    | set st =>
      refine one _ ?_ hq
      have h1 : stuffs.contains st = true := ht
      exact List.all_eq_true.mp stuffs_pOk st (by simpa using h1)
    | lit c =>
      refine one _ ?_ hq
      unfold esc
      split <;> rfl
theorem pOk_use {q : Part} (h : pOk q = true) : ∀ x, q = some x → x ≠ [] ∧ x.length ≤ 1000 := by
  rintro x rfl
  simp only [pOk, Bool.and_eq_true, decide_eq_true_eq] at h
  refine ⟨?_, h.2⟩
  rintro rfl
  simp at h

def rowOf (ts : List Tk) : List Item := (parts ts).map readP
def tailTk : List Tk := [.lit 46, .star]
theorem tail_ok : tailTk.all okTk = true := by decide
theorem rend_tail (ts : List Tk) : rend (ts ++ tailTk) = rend ts ++ [46, 42] := by rw [rend_app]; rfl
theorem parts_len (ts : List Tk) : (parts ts).length ≤ (rend ts).length := by
  have := parts_le ts []
  unfold parts; simpa using this

section
variable {p prog : Program} {w : World} {hB : Heap} {A : Around} {E : Value → Shared → Prop} {s s' s₀ : Shared} {m : Str → Option Value} {Q : Flow → Shared → Prop}

set_option maxHeartbeats 4000000 in
theorem law_B1 (B : Bd p w hB) {L : Addr} {fs : List (String × Fact)} {ts : List Tk} (hts : ts.all okTk = true) (hsz : (rend ts).length ≤ 100) (X₀ : Ext hB s₀.heap) (tb : Tb s.heap) (r : Rm A 4) (a : Act [126] (callEnvC (fdC 167) L 167) s₀ s m)
    (F : Facts fs m s.heap) (hw : ∃ t, m (Str.ofString "wanted") = some (.str (mk (rend ts)) t)) (hn : "itself" ∉ fs.map Prod.fst)
    (h : ∀ s' m', Act [126] (callEnvC (fdC 167) L 167) s₀ s' m' → Tb s'.heap → Facts (("itself", .row (rowOf ts)) :: fs) m' s'.heap →
      wpAny (model prog w) A (execs ((bodyC 167).drop 4) (callEnvC (fdC 167) L 167)) Q E s') :
    wpAny (model prog w) A (execs ((bodyC 167).drop 3) (callEnvC (fdC 167) L 167)) Q E s := by
  have h24 : sizeLine = 16777216 := rfl
  have X : Ext hB s.heap := X₀.kb a.base (by simp)
  obtain ⟨t, hw⟩ := hw
  refine wpAny_execs_cons (wpAny_Assign_Name (comp_eval (call_at B X (g_translate w) (wpAny_items_cons (a.name (by rfl) hw (wpAny_items_cons (cNone (wpAny_items_cons (cStr fun t₁ s₁ k₁ => ?_)))))))))
  have X₁ := X.trans k₁.ext
  rw [show Str.ofString "." = mk [46] from by decide +kernel]
  refine wpAny_items_nil ⟨X₁, wpAny_call (call_translate B X₁ (tb.kb k₁ (by simp)) (r.less (by omega)) hts (by omega) fun l s₂ vs k₂ hl hpl hP tb₂ => ?_)⟩
  have a₂ := (a.kp k₁).kt (tb.kb k₁ (by simp)) k₂
  have X₂ : Ext hB s₂.heap := X₀.kb a₂.base (by simp)
  have hlen := parts_len ts
  refine comp_run (W := []) (as := parts ts) (fun _ _ => True) (fun h q y => IsIt h (readP q) y) (fun _ => true)
    (src_pair (src_list r.h hpl.isList (by simp)) (by exact hP)) (by omega) trivial (by simp) (fun _ _ _ _ _ => trivial) (fun _ _ _ _ e k => IsIt.im e k) (fun C j q v s₃ m₃ hq hrep _ hn hm₃ k₃ => ?_) (fun D s₃ ys hD hplD hPD _ k₃ => ?_)
  · obtain ⟨_, hqv, rfl⟩ := hrep
    have X₃ := X₂.trans k₃.ext
    refine wpAny_tests_nil ⟨rfl, ?_⟩
    simp only [if_true]
    refine call_at B X₃ (g_read w) (wpAny_items_cons (c_loc hn hm₃ (wpAny_items_nil ⟨X₃, wpAny_call (call_read B X₃ (r.less (by omega)) (part := q) (pOk_use (parts_pOk ts hts q (List.mem_of_getElem? hq))) ?_ fun y s₄ k₄ hit => ⟨hit, trivial, k₄⟩)⟩)))
    cases q with
    | none => exact hqv
    | some x => exact hqv
  · have F₃ := ((F.ch0 k₁.ch).kb k₂ (Nice.tb (tb.kb k₁ (by simp)))).ch0 k₃.ch
    refine (a₂.kp k₃).store (by rfl) fun s₄ a₄ c₄ => ?_
    rw [filt_true] at hPD
    refine h s₄ _ a₄ ((tb₂.kb k₃ (by simp)).ch c₄ (by simp)) ((F₃.ch0 c₄).put (f := .row (rowOf ts)) ?_ hn)
    have : Fact.ok s₃.heap (.row (rowOf ts)) (.ref D) := ⟨D, ys.toList, rfl, by simpa using hplD, pFlip (G := fun v it => IsIt s₃.heap it v) readP (fun _ _ e => e) hPD⟩
    exact Fact.ch this c₄ (Nice.nil _)

set_option maxHeartbeats 4000000 in
theorem law_B2 (B : Bd p w hB) {L : Addr} {fs : List (String × Fact)} {ts : List Tk} (hts : ts.all okTk = true) (hsz : (rend ts).length ≤ 100) (X₀ : Ext hB s₀.heap) (tb : Tb s.heap) (r : Rm A 4) (a : Act [126] (callEnvC (fdC 167) L 167) s₀ s m)
    (F : Facts fs m s.heap) (hw : ∃ t, m (Str.ofString "wanted") = some (.str (mk (rend ts)) t)) (hn : "below" ∉ fs.map Prod.fst)
    (h : ∀ s' m', Act [126] (callEnvC (fdC 167) L 167) s₀ s' m' → Tb s'.heap → Facts (("below", .row (rowOf (ts ++ tailTk))) :: fs) m' s'.heap →
      wpAny (model prog w) A (execs ((bodyC 167).drop 5) (callEnvC (fdC 167) L 167)) Q E s') :
    wpAny (model prog w) A (execs ((bodyC 167).drop 4) (callEnvC (fdC 167) L 167)) Q E s := by
  have h24 : sizeLine = 16777216 := rfl
  have X : Ext hB s.heap := X₀.kb a.base (by simp)
  obtain ⟨t, hw⟩ := hw
  have hts' : (ts ++ tailTk).all okTk = true := by rw [List.all_append, hts, tail_ok]; rfl
  have hrl : (rend (ts ++ tailTk)).length ≤ 102 := by rw [rend_tail]; simp; omega
  refine wpAny_execs_cons (comp_use (call_at B X (g_translate w) (wpAny_items_cons (wpAny_BinOp (a.name (by rfl) hw (cStr fun t₁ s₁ k₁ => ?_))))))
  rw [show Str.ofString ".*" = mk [46, 42] from by decide +kernel]
  refine addStr (by simp; omega) fun t₂ s₂ k₂ => wpAny_items_cons (cNone (wpAny_items_cons (cStr fun t₃ s₃ k₃ => ?_)))
  have k₁₃ := k₁.trans (k₂.trans k₃)
  have X₃ := X.trans k₁₃.ext
  have tb₃ := tb.kb k₁₃ (by simp)
  rw [show Str.ofString "." = mk [46] from by decide +kernel, ← rend_tail]
  refine wpAny_items_nil ⟨X₃, wpAny_call (call_translate B X₃ tb₃ (r.less (by omega)) hts' (by omega) fun l s₄ vs k₄ hl hpl hP tb₄ => ?_)⟩
  have a₄ := (a.kp k₁₃).kt tb₃ k₄
  have X₄ : Ext hB s₄.heap := X₀.kb a₄.base (by simp)
  have hlen := parts_len (ts ++ tailTk)
  refine run_to (W := []) (as := parts (ts ++ tailTk)) a₄ (by simp) (by simp) (fun _ _ => True) (fun h q y => IsIt h (readP q) y) (fun _ => true)
    (src_pair (src_list r.h hpl.isList (by simp)) (by exact hP)) (by omega) trivial (by simp) (fun _ _ _ _ _ => trivial) (fun _ _ _ _ e k => IsIt.im e k) (fun C j q v s₅ m₅ hq hrep _ hn hm₅ k₅ => ?_) (fun D s₅ ys C s₆ hD hplD hPD _ k₅ hC hDC hnC a₆ c₆ => ?_)
  · obtain ⟨_, hqv, rfl⟩ := hrep
    have X₅ := X₄.trans k₅.ext
    refine wpAny_tests_nil ⟨rfl, ?_⟩
    simp only [if_true]
    refine call_at B X₅ (g_read w) (wpAny_items_cons (c_loc hn hm₅ (wpAny_items_nil ⟨X₅, wpAny_call (call_read B X₅ (r.less (by omega)) (part := q) (pOk_use (parts_pOk _ hts' q (List.mem_of_getElem? hq))) ?_ fun y s₆ k₆ hit => ⟨hit, trivial, k₆⟩)⟩)))
    cases q with
    | none => exact hqv
    | some x => exact hqv
  · have F₅ := ((F.ch0 k₁₃.ch).kb k₄ (Nice.tb tb₃)).ch0 k₅.ch
    rw [filt_true] at hPD
    refine h s₆ _ a₆ ((tb₄.kb k₅ (by simp)).ch c₆ ?_) ((F₅.ch c₆ hnC).put (f := .row (rowOf (ts ++ tailTk))) ?_ hn)
    · rw [List.mem_singleton]; rintro rfl; obtain ⟨ps, e, _⟩ := tb₄; rw [hC] at e; cases e
    · have : Fact.ok s₅.heap (.row (rowOf (ts ++ tailTk))) (.ref D) := ⟨D, ys.toList, rfl, by simpa using hplD, pFlip (G := fun v it => IsIt s₅.heap it v) readP (fun _ _ e => e) hPD⟩
      exact Fact.ch this c₆ hnC
end
end Mine

-- part F9
namespace Mine
open PySem PySem.W PyProof.Rows
open Sem (wp)
open PySem.SeqAt

def Has (m : Str → Option Value) (h : Heap) (x : String) (f : Fact) : Prop := ∃ v, m (Str.ofString x) = some v ∧ f.ok h v

theorem mk_beq (x y : List Nat) : (mk x == mk y) = (x == y) := by
  rw [Bool.eq_iff_iff, beq_iff_eq, beq_iff_eq]
  exact ⟨mk_inj, fun e => by rw [e]⟩

section
variable {prog : Program} {w : World} {A : Around} {E : Value → Shared → Prop} {s : Shared} {Q : Value → Shared → Prop}

theorem ne_gen {α : Type} [DecidableEq α] (Rp : Value → α → Prop) {l b : Addr} {vs us : List Value} {xs ys : List α} (hE : ∀ v a u b, Rp v a → Rp u b → EqAt A.in1 s v u (decide (a = b)))
    (hl : s.heap.PlainList l vs.toArray) (hb : s.heap.PlainList b us.toArray) (h1 : Paired Rp vs xs) (h2 : Paired Rp us ys) (hu : A.units < cLine) (hq : Q (.bool (decide (xs ≠ ys))) s) :
    wpAny (model prog w) A (compareOp .NotEq (.ref l) (.ref b)) Q E s := by
  have e1 : vs.length = xs.length := h1.length
  have e2 : us.length = ys.length := h2.length
  by_cases hlen : vs.length = us.length
  · refine RcNeAt.lists (e := fun j => decide (xs[j]? = ys[j]?)) hl.isList hb.isList (by simpa using hlen) hu (fun j j1 j2 => ?_) prog w _ _ ?_
    · simp only [List.size_toArray] at j1 j2
      obtain ⟨x, hx, hv⟩ := Mine.Paired.get h1 j vs[j] (List.getElem?_eq_getElem j1)
      obtain ⟨y, hy, hw⟩ := Mine.Paired.get h2 j us[j] (List.getElem?_eq_getElem j2)
      have := hE _ _ _ _ hv hw
      rw [hx, hy]
      simpa using this
    · have e : (!(List.range vs.toArray.size).all fun j => decide (xs[j]? = ys[j]?)) = decide (xs ≠ ys) := by
        rw [List.size_toArray, Bool.eq_iff_iff, Bool.not_eq_true', decide_eq_true_eq, ← Bool.not_eq_true, List.all_eq_true]
        refine not_congr ⟨fun h => ?_, fun h j _ => by rw [h]; simp⟩
        refine List.ext_getElem? fun j => ?_
        by_cases hj : j < vs.length
        · have := h j (by simpa using hj); simpa using this
        · rw [List.getElem?_eq_none (by omega), List.getElem?_eq_none (by omega)]
      rw [e]; exact hq
  · refine RcNeAt.lists_lengths hl.isList hb.isList (by simpa using hlen) hu prog w _ _ ?_
    have e : decide (xs ≠ ys) = true := by rw [decide_eq_true_eq]; rintro rfl; omega
    rw [e] at hq; exact hq
theorem ne_strs {l b : Addr} {vs us : List Value} {xs ys : List (List Nat)} (hl : s.heap.PlainList l vs.toArray) (hb : s.heap.PlainList b us.toArray) (h1 : Strs vs xs) (h2 : Strs us ys) (hu : A.units < cLine) (hq : Q (.bool (decide (xs ≠ ys))) s) :
    wpAny (model prog w) A (compareOp .NotEq (.ref l) (.ref b)) Q E s := by
  refine ne_gen _ (fun v a u b hv hu => ?_) hl hb h1 h2 hu hq
  obtain ⟨t, rfl⟩ := hv
  obtain ⟨t', rfl⟩ := hu
  have e : decide (a = b) = (mk a == mk b) := by rw [mk_beq, Bool.eq_iff_iff, decide_eq_true_eq, beq_iff_eq]
  rw [e]; exact EqAt.str_str _ _ _ _
theorem ne_nats {l b : Addr} {vs us : List Value} {xs ys : List Nat} (hl : s.heap.PlainList l vs.toArray) (hb : s.heap.PlainList b us.toArray) (h1 : Nats vs xs) (h2 : Nats us ys) (hu : A.units < cLine) (hq : Q (.bool (decide (xs ≠ ys))) s) :
    wpAny (model prog w) A (compareOp .NotEq (.ref l) (.ref b)) Q E s := by
  refine ne_gen _ (fun v a u b hv hu => ?_) hl hb h1 h2 hu hq
  obtain ⟨t, rfl⟩ := hv
  obtain ⟨t', rfl⟩ := hu
  have e : decide (a = b) = ((a : Int) == (b : Int)) := by rw [Bool.eq_iff_iff, decide_eq_true_eq, beq_iff_eq]; omega
  rw [e]; exact EqAt.int_int _ _ _ _

def isMk (x : List Nat) : Value → Bool
  | .str y _ => y == mk x
  | _ => false
theorem any_isMk (x : List Nat) : ∀ {vs : List Value} {xs : List (List Nat)}, Strs vs xs → vs.any (isMk x) = decide (x ∈ xs)
  | _, _, .nil => rfl
  | _, _, .cons (b := y) ⟨t, e⟩ h => by
    subst e
    rw [List.any_cons, any_isMk x h]
    show ((mk y == mk x) || _) = _
    rw [mk_beq, Bool.eq_iff_iff, Bool.or_eq_true, beq_iff_eq, decide_eq_true_eq, decide_eq_true_eq, List.mem_cons]
    exact or_congr_left ⟨Eq.symm, Eq.symm⟩
theorem in_strs {l : Addr} {vs : List Value} {xs : List (List Nat)} {x : List Nat} {t : Tok} (hl : s.heap.PlainList l vs.toArray) (h : Strs vs xs) (hq : Q (.bool (decide (x ∈ xs))) s) :
    wpAny (model prog w) A (compareOp .In (.str (mk x) t) (.ref l)) Q E s := by
  refine in_listAt (isMk x) hl.isList (fun y hy => ?_) ?_
  · obtain ⟨i, hi, e⟩ := List.getElem_of_mem (show y ∈ vs by simpa using hy)
    obtain ⟨z, _, u, rfl⟩ := Mine.Paired.get h i y (by rw [List.getElem?_eq_getElem hi, e])
    exact EqAt.str_str _ _ _ _
  · have e : vs.toArray.any (isMk x) = decide (x ∈ xs) := by
      rw [← any_isMk x h]; simp
    rw [e]; exact hq
end

section
variable {p prog : Program} {w : World} {hB : Heap} {A : Around} {E : Value → Shared → Prop} {s s' s₀ : Shared} {m : Str → Option Value} {Q : Flow → Shared → Prop}

set_option maxHeartbeats 4000000 in
theorem law_C1 (B : Bd p w hB) {L : Addr} {fs : List (String × Fact)} {its : List Item} {kn : List (List Nat)} (hkn : kn.length ≤ 1000) (hkl : ∀ x ∈ kn, x.length ≤ 1000) (hits : its.length ≤ 1000) (X₀ : Ext hB s₀.heap) (tb : Tb s.heap) (r : Rm A 4) (a : Act [126] (callEnvC (fdC 167) L 167) s₀ s m)
    (F : Facts fs m s.heap) (hk : Has m s.heap "known" (.words kn)) (hi : Has m s.heap "itself" (.row its)) (hn : "taken" ∉ fs.map Prod.fst)
    (h : ∀ s' m', Act [126] (callEnvC (fdC 167) L 167) s₀ s' m' → Tb s'.heap → Facts (("taken", .words (kn.filter (takes its))) :: fs) m' s'.heap →
      wpAny (model prog w) A (execs ((bodyC 167).drop 6) (callEnvC (fdC 167) L 167)) Q E s') :
    wpAny (model prog w) A (execs ((bodyC 167).drop 5) (callEnvC (fdC 167) L 167)) Q E s := by
  have h24 : sizeLine = 16777216 := rfl
  have X : Ext hB s.heap := X₀.kb a.base (by simp)
  obtain ⟨_, hkm, lk, vk, rfl, hpk, hsk⟩ := hk
  obtain ⟨_, him, li, vi, rfl, hpi, hsi⟩ := hi
  refine wpAny_execs_cons (wpAny_Assign_Name (comp_eval (a.name (by rfl) hkm ?_)))
  refine comp_run (W := []) (as := kn) (fun _ _ => True) (fun _ x y => ∃ t, y = .str (mk x) t) (takes its)
    (src_pair (src_list r.h hpk.isList (by simp)) (by exact hsk)) (by omega) trivial (by simp) (fun _ _ _ _ _ => trivial) (fun _ _ _ _ e k => e) (fun C j x v s₃ m₃ hx hrep _ hn hm₃ k₃ => ?_) (fun D s₃ ys hD hplD hPD _ k₃ => ?_)
  · obtain ⟨_, ⟨t, rfl⟩, rfl⟩ := hrep
    have X₃ := X.trans k₃.ext
    refine wpAny_tests_one (wpAny_isTrue_value (call_at B X₃ (g_takes w) (wpAny_items_cons (a.c_cell0 k₃ him (wpAny_items_cons (c_loc hn hm₃ (wpAny_items_nil ⟨X₃, wpAny_call (call_takes B X₃ (r.less (by omega)) (hkl x (List.mem_of_getElem? hx)) (plK0 hpi k₃) ?_ hits fun s₄ k₄ => ?_)⟩)))))))
    · have := Fact.ch (f := .row its) (v := .ref li) ⟨li, vi, rfl, hpi, hsi⟩ k₃.ch (Nice.nil _)
      exact hsi.mono fun _ _ h => h.im (imK k₃ (by simp))
    · refine wpAny_truthy_bool ⟨rfl, ?_⟩
      split
      · exact c_loc (hn.keeps fun b o e => k₄.get0 e) hm₃ ⟨⟨t, rfl⟩, trivial, k₄⟩
      · exact ⟨trivial, k₄⟩
  · refine (a.kp k₃).store (by rfl) fun s₄ a₄ c₄ => ?_
    refine h s₄ _ a₄ ((tb.kb k₃ (by simp)).ch c₄ (by simp)) (((F.ch0 k₃.ch).ch0 c₄).put (f := .words _) ?_ hn)
    have : Fact.ok s₃.heap (.words (kn.filter (takes its))) (.ref D) := by
      refine ⟨D, ys.toList, rfl, by simpa using hplD, ?_⟩
      have := pFlip (G := fun v x => ∃ t, v = Value.str (mk x) t) (fun x => x) (fun _ _ e => e) hPD
      rwa [List.map_id'] at this
    exact Fact.ch this c₄ (Nice.nil _)

set_option maxHeartbeats 4000000 in
theorem law_C2 (B : Bd p w hB) {L : Addr} {fs : List (String × Fact)} {its : List Item} {kn tk : List (List Nat)} (hkn : kn.length ≤ 1000) (hkl : ∀ x ∈ kn, x.length ≤ 1000) (hits : its.length ≤ 1000) (X₀ : Ext hB s₀.heap) (tb : Tb s.heap) (r : Rm A 4) (a : Act [126] (callEnvC (fdC 167) L 167) s₀ s m)
    (F : Facts fs m s.heap) (hk : Has m s.heap "known" (.words kn)) (hi : Has m s.heap "due" (.row its)) (ht : Has m s.heap "taken" (.words tk)) (he : tk = kn.filter (takes its))
    (h : ∀ s', Act [126] (callEnvC (fdC 167) L 167) s₀ s' m → Tb s'.heap → Facts fs m s'.heap →
      wpAny (model prog w) A (execs ((bodyC 167).drop 7) (callEnvC (fdC 167) L 167)) Q E s') :
    wpAny (model prog w) A (execs ((bodyC 167).drop 6) (callEnvC (fdC 167) L 167)) Q E s := by
  have h24 : sizeLine = 16777216 := rfl
  have X : Ext hB s.heap := X₀.kb a.base (by simp)
  obtain ⟨_, hkm, lk, vk, rfl, hpk, hsk⟩ := hk
  obtain ⟨_, him, li, vi, rfl, hpi, hsi⟩ := hi
  obtain ⟨_, htm, lt, vt, rfl, hpt, hst⟩ := ht
  refine wpAny_execs_cons (wpAny_If (wpAny_isTrue_Compare1 (a.name (by rfl) htm (comp_eval (a.name (by rfl) hkm ?_)))))
  refine comp_run (W := []) (as := kn) (fun _ _ => True) (fun _ x y => ∃ t, y = .str (mk x) t) (takes its)
    (src_pair (src_list r.h hpk.isList (by simp)) (by exact hsk)) (by omega) trivial (by simp) (fun _ _ _ _ _ => trivial) (fun _ _ _ _ e k => e) (fun C j x v s₃ m₃ hx hrep _ hn hm₃ k₃ => ?_) (fun D s₃ ys hD hplD hPD _ k₃ => ?_)
  · obtain ⟨_, ⟨t, rfl⟩, rfl⟩ := hrep
    have X₃ := X.trans k₃.ext
    refine wpAny_tests_one (wpAny_isTrue_value (call_at B X₃ (g_takes w) (wpAny_items_cons (a.c_cell0 k₃ him (wpAny_items_cons (c_loc hn hm₃ (wpAny_items_nil ⟨X₃, wpAny_call (call_takes B X₃ (r.less (by omega)) (hkl x (List.mem_of_getElem? hx)) (plK0 hpi k₃) ?_ hits fun s₄ k₄ => ?_)⟩)))))))
    · exact hsi.mono fun _ _ h => h.im (imK k₃ (by simp))
    · refine wpAny_truthy_bool ⟨rfl, ?_⟩
      split
      · exact c_loc (hn.keeps fun b o e => k₄.get0 e) hm₃ ⟨⟨t, rfl⟩, trivial, k₄⟩
      · exact ⟨trivial, k₄⟩
  · have hP := pFlip (G := fun v x => ∃ t, v = Value.str (mk x) t) (fun x => x) (fun _ _ e => e) hPD
    rw [List.map_id'] at hP
    refine ne_strs (plK0 hpt k₃) (us := ys.toList) (by simpa using hplD) hst hP r.units (wpAny_truthy_bool ?_)
    have e : decide (tk ≠ kn.filter (takes its)) = false := by rw [he]; simp
    rw [e]
    simp only [Bool.false_eq_true, if_false]
    exact wpAny_execs_nil (h s₃ (a.kp k₃) (tb.kb k₃ (by simp)) (F.ch0 k₃.ch))
end
end Mine

-- part F10
namespace Mine
open PySem PySem.W PyProof.Rows
open Sem (wp)
open PySem.SeqAt

def farS : List Nat := List.replicate 23 98

section
variable {p prog : Program} {w : World} {hB : Heap} {A : Around} {E : Value → Shared → Prop} {s s' s₀ : Shared} {env : Env} {m : Str → Option Value}

theorem call_cls (B : Bd p w hB) (X : Ext hB s.heap) {fp pos : Pos} {e : Expr} {rest : List Expr} {Q : Value → Shared → Prop}
    (h : wpAny (model prog w) A (spliced (backTo pos (starEach (e :: rest) env))) (fun vs s₂ => Ext hB s₂.heap ∧ wpAny (model prog w) A (call (.ref 103) vs) Q E s₂) E s)
    (he : starEach (e :: rest) env = (false, eval e env) :: starEach rest env := by rfl) (hplain : (backTo pos (starEach rest env)).any (·.1) = false := by rfl)
    (hg : env.globals = mainGlobals := by rfl) (hk : env.scope.kind = .function := by rfl) (hx : env.kindOf "_Ignore" = some .globalImplicit := by rfl) :
    wpAny (model prog w) A (eval (.Call (.Name "_Ignore" fp) (e :: rest) [] pos) env) Q E s := by
  show wpAny (model prog w) A (do callWith pos (← eval (.Name "_Ignore" fp) env) [] (backTo pos (starEach (e :: rest) env)) (backToKw pos (keywordEach [] env))) Q E s
  refine wpAny_bind (B.glob X (g_Ignore w) ?_ hg hk hx)
  exact callWith_K (B.kin X) (by rfl) (wpAny_mono h (fun vs s₂ h₂ => ⟨B.kin h₂.1, h₂.2⟩) fun _ _ x => x) he hplain
theorem call_cls0 (B : Bd p w hB) (X : Ext hB s.heap) {fp pos : Pos} {Q : Value → Shared → Prop} (h : wpAny (model prog w) A (call (.ref 103) []) Q E s)
    (hg : env.globals = mainGlobals := by rfl) (hk : env.scope.kind = .function := by rfl) (hx : env.kindOf "_Ignore" = some .globalImplicit := by rfl) :
    wpAny (model prog w) A (eval (.Call (.Name "_Ignore" fp) [] [] pos) env) Q E s := by
  show wpAny (model prog w) A (do callWith pos (← eval (.Name "_Ignore" fp) env) [] (backTo pos (starEach [] env)) (backToKw pos (keywordEach [] env))) Q E s
  refine wpAny_bind (B.glob X (g_Ignore w) ?_ hg hk hx)
  exact callWith_K0 (B.kin X) (by rfl) h

theorem mul23 {Q : Value → Shared → Prop} {t u : Tok} (h : ∀ t s', Kb [] s s' → Q (.str (mk farS) t) s') : wpAny (model prog w) A (binaryOp .Mult (.str (mk [98]) t) (.int 23 u)) Q E s := by
  refine P.mul_str (by decide) (fun _ _ => by decide) (fun _ _ => by decide +kernel) ?_
  rw [if_neg (by decide), if_neg (by decide)]
  refine ⟨by show 23 ≤ sizeLine; decide, ?_⟩
  exact h _ _ (toks _ _)

theorem tb_ne {h : Heap} (x : Tb h) {b : Addr} (e : h.get? b = none) : b ≠ 126 := by rintro rfl; obtain ⟨ps, h1, _⟩ := x; rw [e] at h1; cases h1

set_option maxHeartbeats 4000000 in
theorem law_D (B : Bd p w hB) {L : Addr} {fs : List (String × Fact)} {tk : List (List Nat)} (htk : tk.length ≤ 1000) (X₀ : Ext hB s₀.heap) (tb : Tb s.heap) (r : Rm A 4) (a : Act [126] (callEnvC (fdC 167) L 167) s₀ s m) {Q : Flow → Shared → Prop}
    (F : Facts fs m s.heap) (ht : Has m s.heap "taken" (.words tk)) (hn : "reader" ∉ fs.map Prod.fst) (hn2 : "far" ∉ fs.map Prod.fst)
    (h : ∀ s' m' x dx ms dl g, Act [126] (callEnvC (fdC 167) L 167) s₀ s' m' → Tb s'.heap → Facts (("far", .txt farS) :: ("reader", .val (.ref x)) :: fs) m' s'.heap → hB.get? g = none → s₀.heap.get? g = none → Rd prog w s'.heap x dx ms dl g (tk.map mk) startF 1 →
      wpAny (model prog w) A (execs ((bodyC 167).drop 8) (callEnvC (fdC 167) L 167)) Q E s') :
    wpAny (model prog w) A (execs ((bodyC 167).drop 7) (callEnvC (fdC 167) L 167)) Q E s := by
  have h24 : sizeLine = 16777216 := rfl
  have X : Ext hB s.heap := X₀.kb a.base (by simp)
  obtain ⟨_, htm, lt, vt, rfl, hpt, hst⟩ := ht
  have hvl : vt.length = tk.length := hst.length
  refine wpAny_execs_cons (tupStore2 (W₀ := [126]) (s₀ := s₀) [(Str.ofString "reader", _), (Str.ofString "far", _)] r.h ?_ (by intro x hx; simp only [List.mem_cons, List.not_mem_nil, or_false] at hx; rcases hx with rfl | rfl <;> rfl) (by rfl))
  refine tupleMade (wpAny_items_cons (call_cls B X (wpAny_items_cons (Slice_go (a.name (by rfl) htm (wpAny_evalPart_none (wpAny_evalPart_none ⟨lt, _, none, none, rfl, hpt.isList, by simp; omega, .none, .none, fun D s₁ k₁ hD hplD => ?_⟩)))))))
  rw [slicePick_all] at hplD
  have X₁ := X.trans k₁.ext
  have tb₁ := tb.kb k₁ (by simp)
  refine wpAny_items_nil ⟨X₁, call_Ignore B X₁ tb₁ r (ns := tk) (.inl rfl) htk (.inr ⟨D, vt, rfl, hplD, hst⟩) fun s₂ x dx ms dl g k₂ hg hBg rd => ?_⟩
  refine wpAny_items_cons (wpAny_BinOp (cStr fun t₃ s₃ k₃ => cInt fun t₄ s₄ k₄ => ?_))
  rw [show Str.ofString "b" = mk [98] from by decide +kernel]
  refine mul23 fun t₅ s₅ k₅ => wpAny_items_nil ⟨by show 2 ≤ sizeLine; decide, fun tu s₆ k₆ htu htu' => ?_⟩
  have k₂₆ := k₃.trans (k₄.trans (k₅.trans k₆))
  have kk := k₁.trans (k₂.trans k₂₆)
  refine ⟨tu, _, m, rfl, htu', rfl, a.kp kk, fun s₇ a₇ c₇ => ?_⟩
  change Act [126] _ s₀ s₇ (upd (upd m (Str.ofString "reader") (.ref x)) (Str.ofString "far") (.str (mk farS) t₅)) at a₇
  have hgs : s₀.heap.get? g = none := by
    refine a.base.nope (W := [126]) ?_ (k₁.nope0 hg)
    rw [List.mem_singleton]; exact tb_ne tb₁ hg
  refine h s₇ _ x dx ms dl g a₇ ((tb.kb kk (by simp)).ch c₇ (by simp)) ?_ hBg hgs (rd.ch0 (k₂₆.ch.trans c₇))
  refine ((((F.ch0 kk.ch).ch0 c₇).put (x := "reader") (f := .val (.ref x)) rfl hn).put (x := "far") (f := .txt farS) ⟨t₅, rfl⟩ ?_)
  intro q
  rcases List.mem_cons.mp q with q | q
  · exact absurd (show ("far" : String) = "reader" from q) (by decide)
  · exact hn2 q
end
end Mine

-- part F11
namespace Mine
open PySem PySem.W PyProof.Rows
open Sem (wp)
open PySem.SeqAt

/-! ## what a reader answers, in plain words -/
def ansOf (ns : List (List Nat)) (pn : Bool) (F : Str → Option Nat) (y : List Nat) : Nat := match F (mk y) with
  | some b => b
  | none => if isIn ns y || pn then 1 else 0
def nextF (ns : List (List Nat)) (pn : Bool) (F : Str → Option Nat) (y : List Nat) : Str → Option Nat := fun z => if z = mk y then some (ansOf ns pn F y) else F z
def runF (ns : List (List Nat)) (pn : Bool) (F : Str → Option Nat) (ys : List (List Nat)) : Str → Option Nat := ys.foldl (nextF ns pn) F
def asks (ns : List (List Nat)) (pn : Bool) : (Str → Option Nat) → List (List Nat) → List (List Nat × Nat)
  | _, [] => []
  | F, y :: ys => (y, ansOf ns pn F y) :: asks ns pn (nextF ns pn F y) ys
def answers (ns : List (List Nat)) (pn : Bool) (F : Str → Option Nat) (ys : List (List Nat)) : List Nat := (asks ns pn F ys).map (·.2)
theorem asks_len (ns : List (List Nat)) (pn : Bool) : ∀ (F : Str → Option Nat) (ys : List (List Nat)), (asks ns pn F ys).length = ys.length
  | _, [] => rfl
  | F, y :: ys => by rw [asks, List.length_cons, asks_len ns pn _ ys, List.length_cons]
theorem asks_at (ns : List (List Nat)) (pn : Bool) : ∀ (ys : List (List Nat)) (F : Str → Option Nat) (i : Nat), (asks ns pn F ys)[i]? = (ys[i]?).map fun y => (y, ansOf ns pn (runF ns pn F (ys.take i)) y)
  | [], F, i => by simp [asks]
  | y :: ys, F, 0 => by simp [asks, runF]
  | y :: ys, F, i + 1 => by
    rw [asks, List.getElem?_cons_succ, asks_at ns pn ys _ i, List.getElem?_cons_succ]
    rfl
theorem asks_pair (ns : List (List Nat)) (pn : Bool) : ∀ {vs : List Value} {ys : List (List Nat)} (F : Str → Option Nat), Strs vs ys → Paired (fun v a => ∃ t, v = Value.str (mk a.1) t) vs (asks ns pn F ys)
  | _, _, F, .nil => .nil
  | _, _, F, .cons h r => .cons h (asks_pair ns pn _ r)

def MapAt (prog : Program) (w : World) (h : Heap) (g : Addr) (F : Str → Option Nat) (n : Nat) : Prop :=
  ∃ kvs, h.DictOf (PySem.strKind prog w) g kvs ∧ kvs.length ≤ n ∧ ∀ k, match valueAt kvs k with | some v => ∃ a t, F k = some a ∧ v = .int (a : Nat) t | none => F k = none

section
variable {p prog : Program} {w : World} {hB : Heap} {A : Around} {E : Value → Shared → Prop} {s s' s₀ : Shared} {env : Env} {m : Str → Option Value} {W₀ : List Addr} {x dx ms dl g : Addr} {xs : List Str} {F F' : Str → Option Nat} {n n' : Nat}

theorem MapAt.at_ {h h' : Heap} (i : MapAt prog w h g F n) (k : ∀ b ∈ [g], ∀ o, h.get? b = some o → h'.get? b = some o) : MapAt prog w h' g F n := by
  obtain ⟨kvs, ⟨o, es, ep, ho, r⟩, q⟩ := i
  exact ⟨kvs, ⟨o, es, ep, k g (by simp) o ho, r⟩, q⟩
theorem MapAt.nice {h : Heap} (i : MapAt prog w h g F n) : Nice [g] h := by
  obtain ⟨kvs, ⟨o, es, ep, ho, hx, hd, r⟩, q⟩ := i
  intro b hb
  rw [List.mem_singleton] at hb; subst hb
  exact ⟨o, ho, by simp [isSeq, hd]⟩
theorem Rd.swap (rd : Rd prog w s.heap x dx ms dl g xs F n) (k : Kb [g] s s') (i : MapAt prog w s'.heap g F' n') : Rd prog w s'.heap x dx ms dl g xs F' n' := by
  obtain ⟨⟨m, ho, r⟩, hs, hd, _, ne, sys⟩ := rd
  obtain ⟨n1, n2, n3, n4⟩ := ne
  exact ⟨⟨m, ho.kb k (by simpa using Ne.symm n1) (by simpa using Ne.symm n2), r⟩, hs.kb k (by simpa using Ne.symm n3), plK hd k (by simpa using Ne.symm n4), i, ⟨n1, n2, n3, n4⟩, sys⟩
theorem Rd.nice (rd : Rd prog w s.heap x dx ms dl g xs F n) : Nice [g] s.heap := MapAt.nice rd.map

theorem ask_to {elt iter : Expr} {wn : Str} {px : Pos} {scope : Scope} {cl : List (Str × Addr)} {pos py : Pos} {y : Str} {Q : Value → Shared → Prop} {l : Addr} {vs : List Value} {ys ns : List (List Nat)} {pn : Bool} (hh : A.handled = none)
    (a : Act W₀ env s₀ s m) (hg0 : s₀.heap.get? g = none) (hl : s.heap.PlainList l vs.toArray) (hst : Strs vs ys) (hys : ys.length ≤ 1000) (rd : Rd prog w s.heap x dx ms dl g (ns.map mk) F n) (hn : n ≤ 3000)
    (turn : ∀ C s₁ m₁ z t F n, s₁.heap.Ns C m₁ → m₁ wn = some (.str (mk z) t) → Kb [g] s s₁ → z ∈ ys → Rd prog w s₁.heap x dx ms dl g (ns.map mk) F n → n ≤ 5000 →
      wpAny (model prog w) A (eval elt (compEnvC scope cl C env)) (fun v s₃ => (∃ t, v = .int (ansOf ns pn F z : Nat) t) ∧ Rd prog w s₃.heap x dx ms dl g (ns.map mk) (nextF ns pn F z) (n + 1) ∧ Kb [g] s₁ s₃) (fun _ _ => False) s₁)
    (done : ∀ s'' D, Act W₀ env s₀ s'' (upd m y (.ref D)) → (∀ fs, Facts fs m s.heap → Facts fs m s''.heap) → (Tb s.heap → Tb s''.heap) → Fact.ok s''.heap (.nums (answers ns pn F ys)) (.ref D) → Rd prog w s''.heap x dx ms dl g (ns.map mk) (runF ns pn F ys) (n + ys.length) → Q .none s'')
    (hk : env.kindOf y = some .local := by rfl)
    (hcell : ∀ y ∈ scope.names, y.2 ≠ .cell := by decide +kernel) (hkind : scope.kind = .function := by rfl) (hx : scope.names.lookup wn = some .local := by rfl) :
    CompRun prog w A E env (.ListComp elt [⟨.Name wn px, iter, [], 0⟩] scope pos) scope cl (some (assign (.Name y py) env)) Q (.ref l) s := by
  have h24 : sizeLine = 16777216 := rfl
  have hal := asks_len ns pn F ys
  have hlg : l ∉ [g] := rd.nice.pl hl
  obtain ⟨og, hog, hvg⟩ := rd.gObj
  refine run_to (W := [g]) (as := asks ns pn F ys) a (by intro b hb; rw [List.mem_singleton] at hb; subst hb; exact ⟨og, hog, hvg⟩) (by intro b hb; rw [List.mem_singleton] at hb; subst hb; exact .inr hg0)
    (fun i h => MapAt prog w h g (runF ns pn F (ys.take i)) (n + i)) (fun _ q v => ∃ t, v = Value.int (q.2 : Nat) t) (fun _ => true)
    (src_pair (src_list hh hl.isList hlg) (asks_pair ns pn F hst)) (by omega) rd.map (fun i h j => (MapAt.nice j).tup) (fun i h h' j k => j.at_ k) (fun _ _ _ _ e _ => e)
    (fun C i q v s₁ m₁ hq hrep hj hnC hm₁ k₁ => ?_) (fun D s₁ zs C s₂ hD hplD hPD hj k₁ hC hDC hnC a₂ c₂ => ?_) hk hcell hkind hx
  · obtain ⟨_, ⟨t, rfl⟩, rfl⟩ := hrep
    rw [asks_at] at hq
    obtain ⟨z, hz, rfl⟩ := Option.map_eq_some_iff.mp hq
    have hil : i < ys.length := (List.getElem?_eq_some_iff.mp hz).1
    refine wpAny_tests_nil ⟨rfl, ?_⟩
    simp only [if_true]
    refine wpAny_mono (turn C s₁ m₁ z t _ (n + i) hnC hm₁ k₁ (List.mem_of_getElem? hz) (rd.swap k₁ hj) (by omega)) (fun v s₃ h₃ => ?_) fun _ _ e => e
    obtain ⟨hv, rd₃, k₃⟩ := h₃
    refine ⟨hv, ?_, k₃⟩
    have e : runF ns pn F (ys.take (i + 1)) = nextF ns pn (runF ns pn F (ys.take i)) z := by
      unfold runF; rw [List.take_add_one, hz, List.foldl_append]; rfl
    rw [e]; exact rd₃.map
  · rw [filt_true] at hPD
    rw [hal, List.take_length] at hj
    have gC : g ∉ [C] := by rw [List.mem_singleton]; rintro rfl; rw [hC] at hog; cases hog
    have rd₁ := rd.swap k₁ hj
    have nb : ∀ {b : Addr} {o : Obj}, s.heap.get? b = some o → b ∉ [C] := fun e => by rw [List.mem_singleton]; rintro rfl; rw [hC] at e; cases e
    have rd₂ : Rd prog w s₂.heap x dx ms dl g (ns.map mk) (runF ns pn F ys) (n + ys.length) := by
      obtain ⟨⟨mo, ⟨ho1, oo, es, nn, ho2, _⟩, _⟩, ⟨os, _, _, _, hs1, _⟩, ⟨nd, hd1⟩, _⟩ := id rd
      exact rd₁.ch c₂ (nb ho1) (nb ho2) (nb hs1) (nb hd1) gC
    refine done s₂ D a₂ (fun fs Fs => ((Fs.kb k₁ rd.nice).ch c₂ hnC)) (fun tb => (tb.kb k₁ ?_).ch c₂ ?_) ?_ rd₂
    · rw [List.mem_singleton]; rintro rfl
      obtain ⟨ps, e, _⟩ := tb
      obtain ⟨kvs, ⟨o, es, ep, ho, hx, hd, r⟩, q⟩ := rd.map
      rw [e] at ho; cases ho; cases hd
    · obtain ⟨ps, e, _⟩ := tb; exact nb e
    · have : Fact.ok s₁.heap (.nums (answers ns pn F ys)) (.ref D) := ⟨D, zs.toList, rfl, by simpa using hplD, pFlip (G := fun v n => ∃ t, v = Value.int (n : Nat) t) (Prod.snd : List Nat × Nat → Nat) (fun _ _ e => e) hPD⟩
      exact Fact.ch this c₂ hnC
end
end Mine

-- part F12
namespace Mine
open PySem PySem.W PyProof.Rows
open Sem (wp)
open PySem.SeqAt

section
variable {p prog : Program} {w : World} {hB : Heap} {A : Around} {E : Value → Shared → Prop} {s s' s₀ : Shared} {m : Str → Option Value} {x dx ms dl g : Addr} {Fm : Str → Option Nat} {n : Nat} {Q : Flow → Shared → Prop}

theorem ans_str {ns : List (List Nat)} {F : Str → Option Nat} {y : List Nat} {b : Nat} {z : Str} {t : Tok} (h : b = (match F (mk y) with | some b => b | none => if isIn ns y || (Value.str z t == Value.none) then 1 else 0)) : b = ansOf ns false F y := by
  have e : (Value.str z t == Value.none) = false := by rfl
  rw [h, e]; rfl
theorem ans_none {ns : List (List Nat)} {F : Str → Option Nat} {y : List Nat} {b : Nat} (h : b = (match F (mk y) with | some b => b | none => if isIn ns y || (Value.none == Value.none) then 1 else 0)) : b = ansOf ns true F y := by
  have e : (Value.none == Value.none) = true := by rfl
  rw [h, e]; rfl
theorem next_eq {ns : List (List Nat)} {pn : Bool} {F : Str → Option Nat} {y : List Nat} {b : Nat} (h : b = ansOf ns pn F y) : (fun z => if z = mk y then some b else F z) = nextF ns pn F y := by rw [h]; rfl

set_option maxHeartbeats 4000000 in
theorem law_E1 (B : Bd p w hB) {L : Addr} {fs : List (String × Fact)} {ns ys : List (List Nat)} (hns : ns.length ≤ 1000) (hnl : ∀ z ∈ ns, z.length ≤ 1000) (hys : ys.length ≤ 1000) (hyl : ∀ y ∈ ys, y.length ≤ 1000)
    (X₀ : Ext hB s₀.heap) (tb : Tb s.heap) (r : Rm A 4) (hn : n ≤ 3000) (a : Act [126] (callEnvC (fdC 167) L 167) s₀ s m) (hBg : hB.get? g = none) (hg0 : s₀.heap.get? g = none) (rd : Rd prog w s.heap x dx ms dl g (ns.map mk) Fm n)
    (F : Facts fs m s.heap) (ha : Has m s.heap "asked" (.words ys)) (hr : m (Str.ofString "reader") = some (.ref x)) (hnf : "first" ∉ fs.map Prod.fst)
    (h : ∀ s' m', Act [126] (callEnvC (fdC 167) L 167) s₀ s' m' → Tb s'.heap → Facts (("first", .nums (answers ns false Fm ys)) :: fs) m' s'.heap → Rd prog w s'.heap x dx ms dl g (ns.map mk) (runF ns false Fm ys) (n + ys.length) →
      wpAny (model prog w) A (execs ((bodyC 167).drop 9) (callEnvC (fdC 167) L 167)) Q E s') :
    wpAny (model prog w) A (execs ((bodyC 167).drop 8) (callEnvC (fdC 167) L 167)) Q E s := by
  have h24 : sizeLine = 16777216 := rfl
  have X : Ext hB s.heap := X₀.kb a.base (by simp)
  obtain ⟨_, ham, la, va, rfl, hpa, hsa⟩ := ha
  obtain ⟨og, hog, hvg⟩ := rd.gObj
  refine wpAny_execs_cons (comp_use (a.name (by rfl) ham ?_))
  refine ask_to (pn := false) r.h a hg0 hpa hsa hys rd hn (fun C s₁ m₁ z t F' n' hnC hm₁ k₁ hz rd₁ hn' => ?_) (fun s₂ D a₂ hF hT hok rd₂ => ?_)
  · have X₁ : Ext hB s₁.heap := X.kb k₁ (by simpa using Or.inr hBg)
    refine call_at B X₁ (g_asked w) (wpAny_items_cons (a.c_cell k₁ (by intro b hb; rw [List.mem_singleton] at hb; subst hb; exact ⟨og, hog, hvg⟩) hr (wpAny_items_cons (cStr fun t₂ s₂ k₂ => wpAny_items_cons (c_loc (hnC.keeps fun b o e => k₂.get0 e) hm₁ (wpAny_items_nil ⟨X₁.trans k₂.ext, wpAny_call (call_asked B (X₁.trans k₂.ext) (r.less (by omega)) hBg (rd₁.ch0 k₂.ch) hn' hns hnl (hyl z hz) (.inr ⟨_, _, rfl⟩) fun s₃ t₃ b k₃ hb rd₃ => ?_)⟩))))))
    have e := ans_str hb
    rw [next_eq e] at rd₃
    exact ⟨⟨t₃, by rw [e]⟩, rd₃, k₂.any.trans k₃⟩
  · exact h s₂ _ a₂ (hT tb) (Facts.put (hF _ F) hok hnf) rd₂

set_option maxHeartbeats 4000000 in
theorem law_E2 (B : Bd p w hB) {L : Addr} {fs : List (String × Fact)} {ns ys : List (List Nat)} {fw : List Nat} (hns : ns.length ≤ 1000) (hnl : ∀ z ∈ ns, z.length ≤ 1000) (hys : ys.length ≤ 900) (hyl : ∀ y ∈ ys, y.length ≤ 1000) (hfl : fw.length ≤ 1000)
    (X₀ : Ext hB s₀.heap) (tb : Tb s.heap) (r : Rm A 4) (hn : n ≤ 3000) (a : Act [126] (callEnvC (fdC 167) L 167) s₀ s m) (hBg : hB.get? g = none) (hg0 : s₀.heap.get? g = none) (rd : Rd prog w s.heap x dx ms dl g (ns.map mk) Fm n)
    (F : Facts fs m s.heap) (ha : Has m s.heap "asked" (.words ys)) (hf : Has m s.heap "far" (.txt fw)) (hr : m (Str.ofString "reader") = some (.ref x)) (hnf : "again" ∉ fs.map Prod.fst)
    (h : ∀ s' m', Act [126] (callEnvC (fdC 167) L 167) s₀ s' m' → Tb s'.heap → Facts (("again", .nums (answers ns true Fm (ys ++ [fw]))) :: fs) m' s'.heap → Rd prog w s'.heap x dx ms dl g (ns.map mk) (runF ns true Fm (ys ++ [fw])) (n + (ys ++ [fw]).length) →
      wpAny (model prog w) A (execs ((bodyC 167).drop 10) (callEnvC (fdC 167) L 167)) Q E s') :
    wpAny (model prog w) A (execs ((bodyC 167).drop 9) (callEnvC (fdC 167) L 167)) Q E s := by
  have h24 : sizeLine = 16777216 := rfl
  obtain ⟨_, ham, la, va, rfl, hpa, hsa⟩ := ha
  obtain ⟨_, hfm, tf, rfl⟩ := hf
  have hval : va.length = ys.length := hsa.length
  refine wpAny_execs_cons (comp_use (wpAny_BinOp (a.name (by rfl) ham (listMade (wpAny_items_cons (a.name (by rfl) hfm (wpAny_items_nil ⟨by simp [h24], fun l s₁ k₁ hl hpl => addList (plK0 hpa k₁) hpl (by simp; omega) fun D s₂ k₂ hD hplD => ?_⟩)))))))
  have k₁₂ := k₁.trans k₂
  have a₂ := a.kp k₁₂
  have rd₂ := rd.ch0 k₁₂.ch
  have X₂ : Ext hB s₂.heap := X₀.kb a₂.base (by simp)
  obtain ⟨og, hog, hvg⟩ := rd₂.gObj
  have hplD' : s₂.heap.PlainList D (va ++ [Value.str (mk fw) tf]).toArray := by
    have e : (va ++ [Value.str (mk fw) tf]).toArray = va.toArray ++ [Value.str (mk fw) tf].toArray := by simp
    rw [e]; exact hplD
  have hsD : Strs (va ++ [Value.str (mk fw) tf]) (ys ++ [fw]) := pApp hsa (.cons ⟨tf, rfl⟩ .nil)
  have hyl' : ∀ y ∈ ys ++ [fw], y.length ≤ 1000 := fun y hy => by
    rcases List.mem_append.mp hy with hy | hy
    · exact hyl y hy
    · rw [List.mem_singleton] at hy; subst hy; exact hfl
  refine ask_to (pn := true) r.h a₂ hg0 hplD' hsD (by simp; omega) rd₂ hn (fun C s₃ m₃ z t F' n' hnC hm₃ k₃ hz rd₃ hn' => ?_) (fun s₃ D' a₃ hF hT hok rd₃ => ?_)
  · have X₃ : Ext hB s₃.heap := X₂.kb k₃ (by simpa using Or.inr hBg)
    refine call_at B X₃ (g_asked w) (wpAny_items_cons (a₂.c_cell k₃ (by intro b hb; rw [List.mem_singleton] at hb; subst hb; exact ⟨og, hog, hvg⟩) hr (wpAny_items_cons (cNone (wpAny_items_cons (c_loc hnC hm₃ (wpAny_items_nil ⟨X₃, wpAny_call (call_asked B X₃ (r.less (by omega)) hBg rd₃ hn' hns hnl (hyl' z hz) (.inl rfl) fun s₄ t₄ b k₄ hb rd₄ => ?_)⟩))))))) 
    have e := ans_none hb
    rw [next_eq e] at rd₄
    exact ⟨⟨t₄, by rw [e]⟩, rd₄, k₄⟩
  · exact h s₃ _ a₃ (hT (tb.kb k₁₂ (by simp))) (Facts.put (hF _ (F.ch0 k₁₂.ch)) hok hnf) rd₃
end
end Mine

-- part F13
namespace Mine
open PySem PySem.W PyProof.Rows
open Sem (wp)
open PySem.SeqAt

def moreOf (ns : List (List Nat)) (F : Str → Option Nat) (fw : List Nat) : List Nat :=
  let F₁ := nextF ns false F fw
  let F₂ := nextF ns false F₁ (fw ++ [46, 120])
  [ansOf ns false F fw, ansOf [] false startF fw, ansOf ns false F₁ (fw ++ [46, 120]), ansOf ns false F₂ (fw ++ [46, 121])]

section
variable {p prog : Program} {w : World} {hB : Heap} {A : Around} {E : Value → Shared → Prop} {s s' s₀ : Shared} {m : Str → Option Value} {x dx ms dl g C : Addr} {Fm : Str → Option Nat} {n : Nat} {xs : List Str} {Q : Flow → Shared → Prop}

/-- what was fresh is no part of a reader -/
theorem Rd.off (rd : Rd prog w s.heap x dx ms dl g xs Fm n) (hC : s.heap.get? C = none) : x ∉ [C] ∧ dx ∉ [C] ∧ ms ∉ [C] ∧ dl ∉ [C] ∧ g ∉ [C] := by
  have nb : ∀ {b : Addr} {o : Obj}, s.heap.get? b = some o → b ∉ [C] := fun e => by rw [List.mem_singleton]; rintro rfl; rw [hC] at e; cases e
  obtain ⟨og, hog, _⟩ := rd.gObj
  obtain ⟨⟨mo, ⟨ho1, oo, es, nn, ho2, _⟩, _⟩, ⟨os, _, _, _, hs1, _⟩, ⟨nd, hd1⟩, _⟩ := id rd
  exact ⟨nb ho1, nb ho2, nb hs1, nb hd1, nb hog⟩

set_option maxHeartbeats 4000000 in
theorem law_E3 (B : Bd p w hB) {L : Addr} {fs : List (String × Fact)} {ns : List (List Nat)} {fw : List Nat} (hns : ns.length ≤ 1000) (hnl : ∀ z ∈ ns, z.length ≤ 1000) (hfl : fw.length ≤ 900)
    (X₀ : Ext hB s₀.heap) (tb : Tb s.heap) (r : Rm A 4) (hn : n ≤ 4900) (a : Act [126] (callEnvC (fdC 167) L 167) s₀ s m) (hBg : hB.get? g = none) (hg0 : s₀.heap.get? g = none) (rd : Rd prog w s.heap x dx ms dl g (ns.map mk) Fm n)
    (F : Facts fs m s.heap) (hf : Has m s.heap "far" (.txt fw)) (hr : m (Str.ofString "reader") = some (.ref x)) (hnf : "more" ∉ fs.map Prod.fst)
    (h : ∀ s' m', Act [126] (callEnvC (fdC 167) L 167) s₀ s' m' → Tb s'.heap → Facts (("more", .nums (moreOf ns Fm fw)) :: fs) m' s'.heap →
      wpAny (model prog w) A (execs ((bodyC 167).drop 11) (callEnvC (fdC 167) L 167)) Q E s') :
    wpAny (model prog w) A (execs ((bodyC 167).drop 10) (callEnvC (fdC 167) L 167)) Q E s := by
  have h24 : sizeLine = 16777216 := rfl
  obtain ⟨_, hfm, tf, rfl⟩ := hf
  have vK : ∀ {s₁ s₂ : Shared} {x dx ms dl g : Addr} {xs : List Str} {F : Str → Option Nat} {n : Nat}, Act [126] (callEnvC (fdC 167) L 167) s₀ s₁ m → Rd prog w s₁.heap x dx ms dl g xs F n → s₀.heap.get? g = none → Kb [g] s₁ s₂ → Act [126] (callEnvC (fdC 167) L 167) s₀ s₂ m := fun a rd hg k => by
    obtain ⟨og, hog, hvg⟩ := rd.gObj
    exact a.kb k (by intro b hb; rw [List.mem_singleton] at hb; subst hb; exact ⟨og, hog, hvg⟩) (by intro b hb; rw [List.mem_singleton] at hb; subst hb; exact .inr hg)
  have tK : ∀ {s₁ s₂ : Shared} {x dx ms dl g : Addr} {xs : List Str} {F : Str → Option Nat} {n : Nat}, Tb s₁.heap → Rd prog w s₁.heap x dx ms dl g xs F n → Kb [g] s₁ s₂ → Tb s₂.heap := fun tb rd k => by
    refine tb.kb k ?_
    rw [List.mem_singleton]; rintro rfl
    obtain ⟨ps, e, _⟩ := tb
    obtain ⟨kvs, ⟨o, es, ep, ho, hx, hd, r⟩, q⟩ := rd.map
    rw [e] at ho; cases ho; cases hd
  have X : Ext hB s.heap := X₀.kb a.base (by simp)
  refine wpAny_execs_cons (wpAny_Assign_Name (listMade (wpAny_items_cons ?_)))
  -- the first
  refine call_at B X (g_asked w) (wpAny_items_cons (a.name (by rfl) hr (wpAny_items_cons (cStr fun t₁ s₁ k₁ => wpAny_items_cons ((a.kp k₁).name (by rfl) hfm (wpAny_items_nil ⟨X.trans k₁.ext, wpAny_call (call_asked B (X.trans k₁.ext) (r.less (by omega)) hBg (rd.ch0 k₁.ch) (by omega) hns hnl (by omega) (.inr ⟨_, _, rfl⟩) fun s₂ t₂ b₁ k₂ hb₁ rd₂ => ?_)⟩))))))
  have e₁ := ans_str hb₁
  rw [next_eq e₁] at rd₂
  have a₂ := vK (a.kp k₁) (rd.ch0 k₁.ch) hg0 k₂
  have tb₂ := tK (tb.kb k₁ (by simp)) (rd.ch0 k₁.ch) k₂
  have F₂ := (F.ch0 k₁.ch).kb k₂ (rd.ch0 k₁.ch).nice
  have X₂ : Ext hB s₂.heap := X₀.kb a₂.base (by simp)
  clear hb₁ k₁ k₂ X
  -- the second
  refine wpAny_items_cons (call_at B X₂ (g_asked w) (wpAny_items_cons (call_cls0 B X₂ (call_Ignore B X₂ tb₂ r (vals := []) (v := .none) (ns := []) (.inr ⟨rfl, rfl⟩) (by simp) (.inl ⟨rfl, rfl⟩) fun s₃ x' dx' ms' dl' g' k₃ hg' hBg' rd' => ?_))))
  have X₃ := X₂.trans k₃.ext
  refine wpAny_items_cons (cStr fun t₄ s₄ k₄ => wpAny_items_cons ((a₂.kp (k₃.trans k₄)).name (by rfl) hfm (wpAny_items_nil ⟨X₃.trans k₄.ext, wpAny_call (call_asked B (X₃.trans k₄.ext) (r.less (by omega)) hBg' (rd'.ch0 k₄.ch) (by omega) (by simp) (by simp) (by omega) (.inr ⟨_, _, rfl⟩) fun s₅ t₅ b₂ k₅ hb₂ rd₅' => ?_)⟩)))
  have e₂ := ans_str hb₂
  have hg0' : s₀.heap.get? g' = none := a₂.base.nope (by rw [List.mem_singleton]; exact tb_ne tb₂ hg') hg'
  have a₅ := vK (a₂.kp (k₃.trans k₄)) (rd'.ch0 k₄.ch) hg0' k₅
  have tb₅ := tK ((tb₂.kb (k₃.trans k₄) (by simp))) (rd'.ch0 k₄.ch) k₅
  have F₅ := (F₂.ch0 (k₃.trans k₄).ch).kb k₅ (rd'.ch0 k₄.ch).nice
  have X₅ : Ext hB s₅.heap := X₀.kb a₅.base (by simp)
  obtain ⟨o1, o2, o3, o4, o5⟩ := rd₂.off hg'
  have rd₅ := (rd₂.ch0 (k₃.trans k₄).ch).ch k₅.ch o1 o2 o3 o4 o5
  clear hb₂ k₃ k₄ k₅ X₃ rd' rd₅' rd₂ X₂ F₂ tb₂ a₂
  -- the third
  refine wpAny_items_cons (call_at B X₅ (g_asked w) (wpAny_items_cons (a₅.name (by rfl) hr (wpAny_items_cons (cStr fun t₆ s₆ k₆ => wpAny_items_cons (wpAny_BinOp ((a₅.kp k₆).name (by rfl) hfm (cStr fun t₇ s₇ k₇ => ?_))))))))
  rw [show Str.ofString ".x" = mk [46, 120] from by decide +kernel]
  refine addStr (by simp; omega) fun t₈ s₈ k₈ => ?_
  have k₆₈ := k₆.trans (k₇.trans k₈)
  refine wpAny_items_nil ⟨X₅.trans k₆₈.ext, wpAny_call (call_asked B (X₅.trans k₆₈.ext) (r.less (by omega)) hBg (rd₅.ch0 k₆₈.ch) (by omega) hns hnl (by simp; omega) (.inr ⟨_, _, rfl⟩) fun s₉ t₉ b₃ k₉ hb₃ rd₉ => ?_)⟩
  have e₃ := ans_str hb₃
  rw [next_eq e₃] at rd₉
  have a₉ := vK (a₅.kp k₆₈) (rd₅.ch0 k₆₈.ch) hg0 k₉
  have tb₉ := tK (tb₅.kb k₆₈ (by simp)) (rd₅.ch0 k₆₈.ch) k₉
  have F₉ := (F₅.ch0 k₆₈.ch).kb k₉ (rd₅.ch0 k₆₈.ch).nice
  have X₉ : Ext hB s₉.heap := X₀.kb a₉.base (by simp)
  clear hb₃ k₆ k₇ k₈ k₆₈ k₉ X₅ rd₅ F₅ tb₅ a₅
  -- the fourth
  refine wpAny_items_cons (call_at B X₉ (g_asked w) (wpAny_items_cons (a₉.name (by rfl) hr (wpAny_items_cons (cStr fun t₆ s₆ k₆ => wpAny_items_cons (wpAny_BinOp ((a₉.kp k₆).name (by rfl) hfm (cStr fun t₇ s₇ k₇ => ?_))))))))
  rw [show Str.ofString ".y" = mk [46, 121] from by decide +kernel]
  refine addStr (by simp; omega) fun t₈ s₈ k₈ => ?_
  have k₆₈ := k₆.trans (k₇.trans k₈)
  refine wpAny_items_nil ⟨X₉.trans k₆₈.ext, wpAny_call (call_asked B (X₉.trans k₆₈.ext) (r.less (by omega)) hBg (rd₉.ch0 k₆₈.ch) (by omega) hns hnl (by simp; omega) (.inr ⟨_, _, rfl⟩) fun s₁₀ t₁₀ b₄ k₁₀ hb₄ rd₁₀ => ?_)⟩
  have e₄ := ans_str hb₄
  have a₁₀ := vK (a₉.kp k₆₈) (rd₉.ch0 k₆₈.ch) hg0 k₁₀
  have tb₁₀ := tK (tb₉.kb k₆₈ (by simp)) (rd₉.ch0 k₆₈.ch) k₁₀
  have F₁₀ := (F₉.ch0 k₆₈.ch).kb k₁₀ (rd₉.ch0 k₆₈.ch).nice
  refine wpAny_items_nil ⟨by show 4 ≤ sizeLine; decide, fun l s₁₁ k₁₁ hl hpl => (a₁₀.kp k₁₁).store (by rfl) fun s₁₂ a₁₂ c₁₂ => ?_⟩
  refine h s₁₂ _ a₁₂ ((tb₁₀.kb k₁₁ (by simp)).ch c₁₂ (by simp)) (((F₁₀.ch0 k₁₁.ch).ch0 c₁₂).put (f := .nums (moreOf ns Fm fw)) ?_ hnf)
  refine ⟨l, _, rfl, plC hpl c₁₂ (by simp), ?_⟩
  have f : ∀ {b c : Nat} {t : Tok}, b = c → ∃ t', Value.int (b : Nat) t = Value.int (c : Nat) t' := fun {b c t} e => ⟨t, by rw [e]⟩
  exact .cons (f e₁) (.cons (f e₂) (.cons (f e₃) (.cons (f e₄) .nil)))

set_option maxHeartbeats 4000000 in
theorem law_E4 {L : Addr} {fs : List (String × Fact)} {fi ag mo : List Nat} (l1 : fi.length ≤ 1000) (l2 : ag.length ≤ 1000) (l3 : mo.length ≤ 1000)
    (tb : Tb s.heap) (r : Rm A 4) (a : Act [126] (callEnvC (fdC 167) L 167) s₀ s m) (F : Facts fs m s.heap) (h1 : Has m s.heap "first" (.nums fi)) (h2 : Has m s.heap "again" (.nums ag)) (h3 : Has m s.heap "more" (.nums mo))
    (he : ag ++ mo = fi ++ [1, 1, 0, 0, 0])
    (h : ∀ s', Act [126] (callEnvC (fdC 167) L 167) s₀ s' m → Tb s'.heap → Facts fs m s'.heap →
      wpAny (model prog w) A (execs ((bodyC 167).drop 12) (callEnvC (fdC 167) L 167)) Q E s') :
    wpAny (model prog w) A (execs ((bodyC 167).drop 11) (callEnvC (fdC 167) L 167)) Q E s := by
  have h24 : sizeLine = 16777216 := rfl
  obtain ⟨_, m1, a1, v1, rfl, p1, n1⟩ := h1
  obtain ⟨_, m2, a2, v2, rfl, p2, n2⟩ := h2
  obtain ⟨_, m3, a3, v3, rfl, p3, n3⟩ := h3
  have q1 : v1.length = fi.length := n1.length
  have q2 : v2.length = ag.length := n2.length
  have q3 : v3.length = mo.length := n3.length
  refine wpAny_execs_cons (wpAny_If (wpAny_isTrue_Compare1 (wpAny_BinOp (a.name (by rfl) m2 (a.name (by rfl) m3 (addList p2 p3 (by simp; omega) fun D s₁ k₁ hD hpD => ?_))))))
  refine wpAny_BinOp ((a.kp k₁).name (by rfl) m1 (listMade (wpAny_items_cons (cInt fun t₂ s₂ k₂ => wpAny_items_cons (cInt fun t₃ s₃ k₃ => wpAny_items_cons (cInt fun t₄ s₄ k₄ => wpAny_items_cons (cInt fun t₅ s₅ k₅ => wpAny_items_cons (cInt fun t₆ s₆ k₆ => wpAny_items_nil ⟨by show 5 ≤ sizeLine; decide, fun l s₇ k₇ hl hpl => ?_⟩))))))))
  have k₂₇ := k₂.trans (k₃.trans (k₄.trans (k₅.trans (k₆.trans k₇))))
  refine addList (plK0 p1 (k₁.trans k₂₇)) hpl (by simp; omega) fun D₂ s₈ k₈ hD₂ hpD₂ => ?_
  have kk := k₁.trans (k₂₇.trans k₈)
  have hA : Nats (v2 ++ v3) (ag ++ mo) := pApp n2 n3
  have hB' : Nats (v1 ++ [Value.int 1 t₂, Value.int 1 t₃, Value.int 0 t₄, Value.int 0 t₅, Value.int 0 t₆]) (fi ++ [1, 1, 0, 0, 0]) := pApp n1 (.cons ⟨t₂, rfl⟩ (.cons ⟨t₃, rfl⟩ (.cons ⟨t₄, rfl⟩ (.cons ⟨t₅, rfl⟩ (.cons ⟨t₆, rfl⟩ .nil)))))
  have pA : s₈.heap.PlainList D (v2 ++ v3).toArray := by
    have e : (v2 ++ v3).toArray = v2.toArray ++ v3.toArray := by simp
    rw [e]; exact plK0 hpD (k₂₇.trans k₈)
  have pB : s₈.heap.PlainList D₂ (v1 ++ [Value.int 1 t₂, Value.int 1 t₃, Value.int 0 t₄, Value.int 0 t₅, Value.int 0 t₆]).toArray := by
    have e : (v1 ++ [Value.int 1 t₂, Value.int 1 t₃, Value.int 0 t₄, Value.int 0 t₅, Value.int 0 t₆]).toArray = v1.toArray ++ [Value.int 1 t₂, Value.int 1 t₃, Value.int 0 t₄, Value.int 0 t₅, Value.int 0 t₆].toArray := by simp
    rw [e]; exact hpD₂
  refine ne_nats pA pB hA hB' r.units (wpAny_truthy_bool ?_)
  have e : decide (ag ++ mo ≠ fi ++ [1, 1, 0, 0, 0]) = false := by rw [he]; simp
  rw [e]
  simp only [Bool.false_eq_true, if_false]
  exact wpAny_execs_nil (h s₈ (a.kp kk) (tb.kb kk (by simp)) (F.ch0 kk.ch))
end
end Mine

-- part F14
namespace Mine
open PySem PySem.W PyProof.Rows
open Sem (wp)
open PySem.SeqAt

section
variable {prog : Program} {w : World} {A : Around} {E : Value → Shared → Prop} {s s₀ : Shared} {env : Env} {m : Str → Option Value} {W₀ : List Addr}

theorem nvT {o : Obj} {T : String} (hc : o.cls = .type T) (hT : (Value.type T == Value.type "frame") = false) (hd : ∀ v, o.data ≠ .cell v) : isVar o = false := by
  unfold isVar
  rw [hc, hT, Bool.false_or]
  split
  · rename_i v h; exact absurd h (hd v)
  · rfl
theorem nv_it {h : Heap} {I l : Addr} {i : Nat} (x : h.IsListIter I l i) : ∃ o, h.get? I = some o ∧ isVar o = false := by
  obtain ⟨o, ho, hc, hd⟩ := x
  exact ⟨o, ho, nvT hc (by decide +kernel) (fun v e => by rw [hd] at e; cases e)⟩
theorem nv_zip {h : Heap} {z TI TO : Addr} {f0 : Value} (x : IsZip h z TI TO f0) : ∃ o, h.get? z = some o ∧ isVar o = false :=
  ⟨_, x, nvT (T := "zip") rfl (by decide +kernel) (fun v e => by cases e)⟩
theorem nv_pair {h : Heap} {T : Addr} {a b : Value} (x : IsPair h T a b) : ∃ o, h.get? T = some o ∧ isVar o = false :=
  ⟨_, x, nvT (T := "tuple") rfl (by decide +kernel) (fun v e => by cases e)⟩

theorem for_zip {xi xv : Str} {pi pv pt : Pos} {kk : Nat} {body : List Stmt} {l1 l2 : Addr} {vs us : List Value} {Q : Flow → Shared → Prop} (hh : A.handled = none) (a : Act W₀ env s₀ s m)
    (h1 : s.heap.PlainList l1 vs.toArray) (h2 : s.heap.PlainList l2 us.toArray) (hlen : vs.length = us.length) (J : (Str → Option Value) → Prop) (hJ0 : J m)
    (turn : ∀ (i : Nat) v u m' s', vs[i]? = some v → us[i]? = some u → J m' → Ch [] s s' → Act W₀ env s₀ s' (upd (upd m' xi v) xv u) →
      wpAny (model prog w) A (execs body env) (fun f s'' => f = .next ∧ ∃ m'', Act W₀ env s₀ s'' m'' ∧ J m'' ∧ Ch [] s' s'') (fun _ _ => False) s')
    (done : ∀ m' s', J m' → Ch [] s s' → Act W₀ env s₀ s' m' → Q .next s')
    (hk : ∀ x ∈ [(xi, pi), (xv, pv)], isV (env.kindOf x.1) = true) (hT : assignEach [.Name xi pi, .Name xv pv] env = [(xi, pi), (xv, pv)].map fun n => (false, assign (.Name n.1 n.2) env) := by rfl) :
    wpAny (model prog w) A (call (.type "zip") [.ref l1, .ref l2]) (fun x s₁ => wpAny (model prog w) A (pyIter x) (fun it s₂ =>
      codeAny (model prog w) A (.forLoop (.Tuple [.Name xi pi, .Name xv pv] kk pt) it body [] env) (fun r s' => match r with | .ok f => Q f s' | .error e => cameBackBy (model prog w) A env E e s') s₂) E s₁) E s := by
  refine call_zip_2 h1.isList h2.isList fun H hz hTI hTO hi1 hi2 hsz hkp => wpAny_pyIter_zip hz ?_
  have hl1s : @LT.lt Nat _ l1 s.heap.objs.size := by obtain ⟨n, e⟩ := h1; exact Heap.lt_size e
  have hl2s : @LT.lt Nat _ l2 s.heap.objs.size := by obtain ⟨n, e⟩ := h2; exact Heap.lt_size e
  have fr : ∀ j, s.heap.get? (s.heap.objs.size + j) = none := fun j => Heap.get?_none_of_le (Nat.le_add_right _ _)
  have D : ZipApart (s.heap.objs.size + 4) (s.heap.objs.size + 2) (s.heap.objs.size + 3) s.heap.objs.size (s.heap.objs.size + 1) l1 l2 := by
    constructor <;> (refine (show @Ne Nat _ _ from ?_); first | exact Nat.ne_of_lt (by omega) | exact Nat.ne_of_gt (by omega))
  have f4 := fr 4
  have f2 := fr 2
  have f3 := fr 3
  have f0 : s.heap.get? s.heap.objs.size = none := fr 0
  have f1 := fr 1
  have k₁ : Kb [] s { s with heap := H } := ⟨H, _, _, rfl, fun b o _ e => hkp b o e⟩
  have p1 := plK0 h1 k₁
  have p2 := plK0 h2 k₁
  generalize s.heap.objs.size + 4 = z at *
  generalize s.heap.objs.size + 2 = TI at *
  generalize s.heap.objs.size + 3 = TO at *
  generalize s.heap.objs.size + 1 = i2 at *
  generalize s.heap.objs.size = i1 at *
  clear hl1s hl2s fr hsz hkp
  have fs : ∀ b ∈ [z, TO, i1, i2], s.heap.get? b = none := by
    intro b hb
    simp only [List.mem_cons, List.not_mem_nil, or_false] at hb
    rcases hb with rfl | rfl | rfl | rfl <;> assumption
  have fs₀ : ∀ b ∈ [z, TO, i1, i2], b ∈ W₀ ∨ s₀.heap.get? b = none := by
    intro b hb
    by_cases hw : b ∈ W₀
    · exact .inl hw
    · refine .inr ?_
      cases q : s₀.heap.get? b with
      | none => rfl
      | some o => have := fs b hb; rw [a.base.get hw q] at this; cases this
  refine codeAny_forLoop_any (fun k s' => ∃ i m', k = vs.length + 1 - i ∧ i ≤ vs.length ∧ IsZip s'.heap z TI TO .none ∧ IsPair s'.heap TI (.ref i1) (.ref i2) ∧ (∃ a b, IsPair s'.heap TO a b) ∧ s'.heap.IsListIter i1 l1 i ∧ s'.heap.IsListIter i2 l2 i ∧
      s'.heap.PlainList l1 vs.toArray ∧ s'.heap.PlainList l2 us.toArray ∧ J m' ∧ Ch [] s s' ∧ Act W₀ env s₀ s' m') ?_ (vs.length + 1)
    ⟨0, m, rfl, Nat.zero_le _, hz, hTI, ⟨_, _, hTO⟩, hi1, hi2, p1, p2, hJ0, k₁.ch, a.kp k₁⟩
  clear hz hTI hTO hi1 hi2 p1 p2 k₁
  rintro k s' ⟨i, m', rfl, hi, hz, hTI, ⟨ta, tb, hTO⟩, hi1, hi2, p1, p2, hJ, c, a'⟩
  by_cases hlt : i < vs.length
  · have hlu : i < us.length := by omega
    refine wpAny_pyNext_zip_item D hz hTI hTO hi1 hi2 p1.isList p2.isList (x := vs[i]) (y := us[i]) (by simp [hlt]) (by simp [hlu]) fun h₁ hz₁ hTO₁ hi1₁ hi2₁ hT₁ hsz₁ hk₁ => ?_
    refine wpAny_letOwnedTupleGo_zip (s := { s' with heap := h₁ }) hz₁ fun h₂ hz₂ hs₂ => ?_
    have hTn : ∀ {b : Addr} {o : Obj}, s'.heap.get? b = some o → s'.heap.objs.size ≠ b := fun e => Nat.ne_of_gt (Heap.lt_size e)
    have hk₂ : ∀ b o, b ∉ [z, TO, i1, i2] → s'.heap.get? b = some o → h₂.get? b = some o := fun b o hb e => by
      simp only [List.mem_cons, List.not_mem_nil, or_false, not_or] at hb
      exact hs₂.extBut b o hb.1 (hk₁ b o hb.1 hb.2.1 hb.2.2.1 hb.2.2.2 e)
    have k₂ : Kb [z, TO, i1, i2] s' { s' with heap := h₂ } := ⟨h₂, _, _, rfl, hk₂⟩
    have hT₂ : h₂.get? s'.heap.objs.size = some { cls := .type "tuple", data := .seq #[vs[i], us[i]] } := hs₂.extBut _ _ (hTn hz) hT₁
    have hTI₂ : IsPair h₂ TI (.ref i1) (.ref i2) := hs₂.extBut _ _ D.TIz (hk₁ _ _ D.TIz D.TITO D.TIi1 D.TIi2 hTI)
    have hTO₂ : IsPair h₂ TO vs[i] us[i] := hs₂.extBut _ _ D.TOz hTO₁
    have hi1₂ : h₂.IsListIter i1 l1 (i + 1) := hi1₁.extBut hs₂.extBut D.i1z
    have hi2₂ : h₂.IsListIter i2 l2 (i + 1) := hi2₁.extBut hs₂.extBut D.i2z
    have a₂ : Act W₀ env s₀ { s' with heap := h₂ } m' := by
      refine a'.kb k₂ (fun b hb => ?_) fs₀
      simp only [List.mem_cons, List.not_mem_nil, or_false] at hb
      rcases hb with rfl | rfl | rfl | rfl
      · exact nv_zip hz
      · exact nv_pair hTO
      · exact nv_it hi1
      · exact nv_it hi2
    have p1₂ : h₂.PlainList l1 vs.toArray := plK p1 k₂ (by simp only [List.mem_cons, List.not_mem_nil, or_false, not_or]; exact ⟨D.l1z, D.l1TO, D.l1i1, D.l1i2⟩)
    have p2₂ : h₂.PlainList l2 us.toArray := plK p2 k₂ (by simp only [List.mem_cons, List.not_mem_nil, or_false, not_or]; exact ⟨D.l2z, D.l2TO, D.l2i1, D.l2i2⟩)
    have c₂ : Ch [] s { s' with heap := h₂ } := by
      obtain ⟨hh', tk, dr, rfl, q⟩ := c
      exact ⟨h₂, _, _, rfl, fun b o _ hv e => hk₂ b o (fun hb => by rw [fs b hb] at e; cases e) (q b o (by simp) hv e)⟩
    refine unpackTo [(xi, pi), (xv, pv)] hh (s := { s' with heap := h₂ }) (items := #[vs[i], us[i]]) hT₂ rfl a₂ (fun s₃ a₃ c₃ => ?_) hk hT
    change Act W₀ env s₀ s₃ (upd (upd m' xi vs[i]) xv us[i]) at a₃
    refine wpAny_mono (turn i vs[i] us[i] m' s₃ (List.getElem?_eq_getElem hlt) (List.getElem?_eq_getElem hlu) hJ (c₂.trans c₃) a₃) (fun f s₄ h₄ => ?_) fun _ _ e => e.elim
    obtain ⟨rfl, m'', a₄, hJ₄, c₄⟩ := h₄
    have cc : Ch [] { s' with heap := h₂ } s₄ := c₃.trans c₄
    have up : ∀ {b : Addr} {o : Obj}, h₂.get? b = some o → (∃ o', h₂.get? b = some o' ∧ isVar o' = false) → s₄.heap.get? b = some o := fun {b o} e x => by
      obtain ⟨o', e', v⟩ := x
      rw [e] at e'; cases e'
      exact cc.get0 (s := { s' with heap := h₂ }) e v
    refine ⟨vs.length + 1 - (i + 1), by omega, i + 1, m'', rfl, hlt, up hz₂ (nv_zip hz₂), up hTI₂ (nv_pair hTI₂), ⟨_, _, up hTO₂ (nv_pair hTO₂)⟩, ?_, ?_, plC (s := { s' with heap := h₂ }) p1₂ cc (by simp), plC (s := { s' with heap := h₂ }) p2₂ cc (by simp), hJ₄, c₂.trans cc, a₄⟩
    · have nv := nv_it hi1₂
      obtain ⟨o, ho, r⟩ := hi1₂; exact ⟨o, up ho nv, r⟩
    · have nv := nv_it hi2₂
      obtain ⟨o, ho, r⟩ := hi2₂; exact ⟨o, up ho nv, r⟩
  · have hin : i = vs.length := by omega
    subst hin
    refine wpAny_pyNext_zip_end hh D hz hTI hTO hi1 hi2 p1.isList p2.isList (.inl (by simp)) fun h₁ hk₁ => wpAny_execs_nil ?_
    have hk₁' : ∀ b o, b ∉ [z, TO, i1, i2] → s'.heap.get? b = some o → h₁.get? b = some o := fun b o hb e => by
      simp only [List.mem_cons, List.not_mem_nil, or_false, not_or] at hb
      exact hk₁ b o hb.1 hb.2.1 hb.2.2.1 hb.2.2.2 e
    refine done m' _ hJ ?_ ?_
    · obtain ⟨hh', tk, dr, rfl, q⟩ := c
      exact ⟨h₁, _, _, rfl, fun b o _ hv e => hk₁' b o (fun hb => by rw [fs b hb] at e; cases e) (q b o (by simp) hv e)⟩
    · refine a'.kb (W := [z, TO, i1, i2]) ⟨h₁, _, _, rfl, hk₁'⟩ (fun b hb => ?_) fs₀
      simp only [List.mem_cons, List.not_mem_nil, or_false] at hb
      rcases hb with rfl | rfl | rfl | rfl
      · exact nv_zip hz
      · exact nv_pair hTO
      · exact nv_it hi1
      · exact nv_it hi2
end
end Mine

-- part F15
namespace Mine
open PySem PySem.W PyProof.Rows
open Sem (wp)
open PySem.SeqAt

def strS : List Nat := [60, 115, 116, 114, 105, 110, 103, 62]
theorem strS_eq : Str.ofString "<string>" = mk strS := by decide +kernel
theorem heads_in (tk : List (List Nat)) (y : List Nat) : decide ((heads y).filter (fun h => decide (h ∈ tk)) ≠ []) = isIn tk y := by
  rw [Bool.eq_iff_iff, decide_eq_true_eq, isIn_heads]
  constructor
  · intro h
    obtain ⟨z, hz⟩ := List.exists_mem_of_ne_nil _ h
    rw [List.mem_filter] at hz
    exact ⟨z, hz.1, by simpa using hz.2⟩
  · rintro ⟨z, hz, ht⟩ e
    have : z ∈ (heads y).filter (fun h => decide (h ∈ tk)) := List.mem_filter.mpr ⟨hz, by simpa using ht⟩
    rw [e] at this; cases this

section
variable {p prog : Program} {w : World} {hB : Heap} {A : Around} {E : Value → Shared → Prop} {s s₀ : Shared} {m : Str → Option Value} {Q : Flow → Shared → Prop}

set_option maxHeartbeats 8000000 in
theorem law_F (B : Bd p w hB) {L : Addr} {tk ys : List (List Nat)} {fi : List Nat} {be : List Item} (X₀ : Ext hB s₀.heap) (r : Rm A 4) (a : Act [126] (callEnvC (fdC 167) L 167) s₀ s m)
    (hyl : ∀ y ∈ ys, y.length ≤ 900) (hys : ys.length ≤ 1000) (hlen : ys.length = fi.length) (hbe : be.length ≤ 1000)
    (ha : Has m s.heap "asked" (.words ys)) (hf : Has m s.heap "first" (.nums fi)) (ht : Has m s.heap "taken" (.words tk)) (hb : Has m s.heap "below" (.row be))
    (he1 : ∀ (i : Nat) y b, ys[i]? = some y → fi[i]? = some b → b = if isIn tk y || y == strS then 1 else 0) (he2 : ∀ y ∈ ys, isIn tk y = (tk.contains y || takes be y))
    (tb : Tb s.heap) (h : ∀ s', Kb [126] s₀ s' → Tb s'.heap → Q (.ret (.bool true)) s') :
    wpAny (model prog w) A (execs ((bodyC 167).drop 12) (callEnvC (fdC 167) L 167)) Q E s := by
  have h24 : sizeLine = 16777216 := rfl
  have X : Ext hB s.heap := X₀.kb a.base (by simp)
  obtain ⟨_, ham, la, va, rfl, hpa, hsa⟩ := ha
  obtain ⟨_, hfm, lf, vf, rfl, hpf, hsf⟩ := hf
  obtain ⟨_, htm, lt, vt, rfl, hpt, hst⟩ := ht
  obtain ⟨_, hbm, lb, vb, rfl, hpb, hsb⟩ := hb
  have q1 : va.length = ys.length := hsa.length
  have q2 : vf.length = fi.length := hsf.length
  refine wpAny_execs_cons (wpAny_For (Call_val (B.built X (v := .type "zip") (by rfl) (by rfl) (by decide +kernel) ⟨fun a => by simp, wpAny_items_cons (a.name (by rfl) ham (wpAny_items_cons (a.name (by rfl) hfm (wpAny_items_nil ?_))))⟩)))
  refine for_zip r.h a hpa hpf (by omega) (fun m' => m' (Str.ofString "taken") = some (.ref lt) ∧ m' (Str.ofString "below") = some (.ref lb)) ⟨htm, hbm⟩ (fun i v u m' s' hv hu hJ c a' => ?_) (fun m' s' hJ c a' => ?_)
    (by intro x hx; simp only [List.mem_cons, List.not_mem_nil, or_false] at hx; rcases hx with rfl | rfl <;> rfl)
  · obtain ⟨hj1, hj2⟩ := hJ
    obtain ⟨y, hy, t, rfl⟩ := Mine.Paired.get hsa i v hv
    obtain ⟨b, hb, tb', rfl⟩ := Mine.Paired.get hsf i u hu
    have hyl' := hyl y (List.mem_of_getElem? hy)
    have e1 := he1 i y b hy hb
    have e2 := he2 y (List.mem_of_getElem? hy)
    have X' : Ext hB s'.heap := X₀.kb a'.base (by simp)
    have hpt' : s'.heap.PlainList lt vt.toArray := plC hpt c (by simp)
    have hpb' : s'.heap.PlainList lb vb.toArray := plC hpb c (by simp)
    have hsb' : Paired (fun v it => IsIt s'.heap it v) vb be := hsb.mono fun _ _ h => h.im (imC c (by simp))
    have hw : upd (upd m' (Str.ofString "word") (.str (mk y) t)) (Str.ofString "answer") (.int (b : Nat) tb') (Str.ofString "word") = some (.str (mk y) t) := upd_ne (str_ne (by decide)) upd_eq
    have han : upd (upd m' (Str.ofString "word") (.str (mk y) t)) (Str.ofString "answer") (.int (b : Nat) tb') (Str.ofString "answer") = some (.int (b : Nat) tb') := upd_eq
    have htk : upd (upd m' (Str.ofString "word") (.str (mk y) t)) (Str.ofString "answer") (.int (b : Nat) tb') (Str.ofString "taken") = some (.ref lt) := upd_ne (str_ne (by decide)) (upd_ne (str_ne (by decide)) hj1)
    have hbl : upd (upd m' (Str.ofString "word") (.str (mk y) t)) (Str.ofString "answer") (.int (b : Nat) tb') (Str.ofString "below") = some (.ref lb) := upd_ne (str_ne (by decide)) (upd_ne (str_ne (by decide)) hj2)
    generalize upd (upd m' (Str.ofString "word") (.str (mk y) t)) (Str.ofString "answer") (.int (b : Nat) tb') = m₁ at a' hw han htk hbl
    clear hj1 hj2
    -- meant
    refine wpAny_execs_cons (wpAny_Assign_Name (wpAny_mono (?_ : wpAny _ _ _ (fun v s₁ => v = .bool (isIn tk y) ∧ Kb [] s' s₁) _ _) (fun v s₁ h₁ => ?_) fun _ _ e => e))
    · refine wpAny_Compare1 (comp_eval (call_at B X' (g_heads w) (wpAny_items_cons (a'.name (by rfl) hw (wpAny_items_nil ⟨X', wpAny_call (call_heads B X' (r.less (by omega)) (x := y) (by omega) fun l s₁ vs k₁ hl hpl hsl => ?_)⟩)))))
      have hhl := heads_len y
      refine comp_run (W := []) (as := heads y) (fun _ _ => True) (fun _ x y => ∃ t, y = .str (mk x) t) (fun h => decide (h ∈ tk))
        (src_pair (src_list r.h hpl.isList (by simp)) (by exact hsl)) (by omega) trivial (by simp) (fun _ _ _ _ _ => trivial) (fun _ _ _ _ e k => e) (fun C j x v s₂ m₂ hx hrep _ hn hm₂ k₂ => ?_) (fun D s₂ zs hD hplD hPD _ k₂ => ?_)
      · obtain ⟨_, ⟨t₂, rfl⟩, rfl⟩ := hrep
        refine wpAny_tests_one (wpAny_isTrue_Compare1 (c_loc hn hm₂ (a'.c_cell0 (k₁.trans k₂) htk (in_strs (plK0 hpt' (k₁.trans k₂)) hst (wpAny_truthy_bool ⟨rfl, ?_⟩)))))
        split
        · exact c_loc hn hm₂ ⟨⟨t₂, rfl⟩, trivial, Kb.refl _ _⟩
        · exact ⟨trivial, Kb.refl _ _⟩
      · have hP := pFlip (G := fun v x => ∃ t, v = Value.str (mk x) t) (fun x => x) (fun _ _ e => e) hPD
        rw [List.map_id'] at hP
        refine listMade (wpAny_items_nil ⟨by simp, fun e s₃ k₃ he hpe => ?_⟩)
        refine ne_strs (vs := zs.toList) (us := []) (ys := []) (by simpa using plK0 hplD k₃) hpe hP .nil r.units ?_
        rw [heads_in]
        exact ⟨rfl, k₁.trans (k₂.trans k₃)⟩
    obtain ⟨rfl, k₁⟩ := h₁
    refine (a'.kp k₁).store (by rfl) fun s₂ a₂ c₂ => ?_
    have c₁₂ : Ch [] s' s₂ := k₁.ch.trans c₂
    have X₂ : Ext hB s₂.heap := X₀.kb a₂.base (by simp)
    have hpt₂ : s₂.heap.PlainList lt vt.toArray := plC hpt' c₁₂ (by simp)
    have hpb₂ : s₂.heap.PlainList lb vb.toArray := plC hpb' c₁₂ (by simp)
    have hsb₂ : Paired (fun v it => IsIt s₂.heap it v) vb be := hsb'.mono fun _ _ h => h.im (imC c₁₂ (by simp))
    have hw₂ : upd m₁ (Str.ofString "meant") (.bool (isIn tk y)) (Str.ofString "word") = some (.str (mk y) t) := upd_ne (str_ne (by decide)) hw
    have han₂ : upd m₁ (Str.ofString "meant") (.bool (isIn tk y)) (Str.ofString "answer") = some (.int (b : Nat) tb') := upd_ne (str_ne (by decide)) han
    have htk₂ : upd m₁ (Str.ofString "meant") (.bool (isIn tk y)) (Str.ofString "taken") = some (.ref lt) := upd_ne (str_ne (by decide)) htk
    have hbl₂ : upd m₁ (Str.ofString "meant") (.bool (isIn tk y)) (Str.ofString "below") = some (.ref lb) := upd_ne (str_ne (by decide)) hbl
    have hme₂ : upd m₁ (Str.ofString "meant") (.bool (isIn tk y)) (Str.ofString "meant") = some (.bool (isIn tk y)) := upd_eq
    generalize upd m₁ (Str.ofString "meant") (.bool (isIn tk y)) = m₂ at a₂ hw₂ han₂ htk₂ hbl₂ hme₂
    -- the answer
    refine wpAny_execs_cons (wpAny_If (wpAny_mono (?_ : wpAny _ _ _ (fun b s₃ => b = false ∧ Kb [] s₂ s₃) _ _) (fun b₃ s₃ h₃ => ?_) fun _ _ e => e))
    · refine wpAny_isTrue_Compare1 (a₂.name (by rfl) han₂ (wpAny_mono (?_ : wpAny _ _ _ (fun v s₃ => (∃ t, v = .int (b : Nat) t) ∧ Kb [] s₂ s₃) _ _) (fun v s₃ h₃ => ?_) fun _ _ e => e))
      · refine wpAny_IfExp (wpAny_isTrue_BoolOp (wpAny_allTrue_Or_cons (wpAny_isTrue_value (a₂.name (by rfl) hme₂ (wpAny_truthy_bool ?_)))))
        cases hin : isIn tk y with
        | true =>
          simp only [if_true]
          rw [hin] at e1
          have e1 : b = 1 := by simpa using e1
          exact cInt fun t₃ s₃ k₃ => ⟨⟨t₃, by rw [e1]; rfl⟩, k₃⟩
        | false =>
          simp only [Bool.false_eq_true, if_false]
          refine wpAny_allTrue_Or_cons (wpAny_isTrue_Compare1 (a₂.name (by rfl) hw₂ (cStr fun t₃ s₃ k₃ => ?_)))
          rw [strS_eq]
          refine eqStr (wpAny_truthy_bool ?_)
          rw [hin] at e1
          cases hys : (y == strS) with
          | true =>
            simp only [if_true]
            have e1 : b = 1 := by rw [hys] at e1; simpa using e1
            exact cInt fun t₄ s₄ k₄ => ⟨⟨t₄, by rw [e1]; rfl⟩, k₃.trans k₄⟩
          | false =>
            simp only [Bool.false_eq_true, if_false]
            have e1 : b = 0 := by rw [hys] at e1; simpa using e1
            refine wpAny_allTrue_Or_nil ?_
            simp only [Bool.false_eq_true, if_false]
            exact cInt fun t₄ s₄ k₄ => ⟨⟨t₄, by rw [e1]; rfl⟩, k₃.trans k₄⟩
      · obtain ⟨⟨t₃, rfl⟩, k₃⟩ := h₃
        exact P.ne_int (wpAny_truthy_bool ⟨by simp, k₃⟩)
    obtain ⟨rfl, k₃⟩ := h₃
    simp only [Bool.false_eq_true, if_false]
    refine wpAny_execs_nil ?_
    have a₃ := a₂.kp k₃
    have X₃ := X₂.trans k₃.ext
    -- the other reading
    refine wpAny_execs_cons (wpAny_If (wpAny_mono (?_ : wpAny _ _ _ (fun b s₄ => b = false ∧ Kb [] s₃ s₄) _ _) (fun b₄ s₄ h₄ => ?_) fun _ _ e => e))
    · refine wpAny_isTrue_Compare1 (a₃.name (by rfl) hme₂ (wpAny_mono (?_ : wpAny _ _ _ (fun v s₄ => v = .bool (isIn tk y) ∧ Kb [] s₃ s₄) _ _) (fun v s₄ h₄ => ?_) fun _ _ e => e))
      · refine wpAny_Or2 (wpAny_Compare1 (a₃.name (by rfl) hw₂ (a₃.name (by rfl) htk₂ (in_strs (plK0 hpt₂ k₃) hst (wpAny_truthy_bool ?_)))))
        have ec : tk.contains y = decide (y ∈ tk) := by rw [Bool.eq_iff_iff]; simp
        rw [ec] at e2
        cases hc : decide (y ∈ tk) with
        | true =>
          simp only [if_true]
          rw [hc] at e2
          exact ⟨by rw [e2]; rfl, Kb.refl _ _⟩
        | false =>
          simp only [Bool.false_eq_true, if_false]
          rw [hc, Bool.false_or] at e2
          refine call_at B X₃ (g_takes w) (wpAny_items_cons (a₃.name (by rfl) hbl₂ (wpAny_items_cons (a₃.name (by rfl) hw₂ (wpAny_items_nil ⟨X₃, wpAny_call (call_takes B X₃ (r.less (by omega)) (by omega) (plK0 hpb₂ k₃) ?_ hbe fun s₄ k₄ => ?_)⟩)))))
          · exact hsb₂.mono fun _ _ h => h.im (imK k₃ (by simp))
          · exact ⟨by rw [e2], k₄⟩
      · obtain ⟨rfl, k₄⟩ := h₄
        refine RcNeAt.bool_bool _ _ prog w _ _ (wpAny_truthy_bool ⟨by simp, k₄⟩)
    obtain ⟨rfl, k₄⟩ := h₄
    simp only [Bool.false_eq_true, if_false]
    exact wpAny_execs_nil (wpAny_execs_nil ⟨rfl, m₂, a₃.kp k₄, ⟨htk₂, hbl₂⟩, c₁₂.trans (k₃.trans k₄).ch⟩)
  · exact execs_ret (cBool (h s' a'.base (tb.ch c (by simp))))
end
end Mine

-- part F16
namespace Mine
open PySem PySem.W PyProof.Rows

/-! ## the plain law -/
theorem takes_row (ts : List Tk) (h : ts.all okTk = true) (x : List Nat) : takes (rowOf ts) x = takes (ts.map item1) x := by
  unfold takes rowOf; rw [parts_takes x ts h]
theorem taken_due (xs : List Int) (kn : List (List Nat)) : kn.filter (takes (rowOf (drawnOf xs).ts)) = kn.filter (takes (drawnOf xs).its) := by
  have e : takes (rowOf (drawnOf xs).ts) = takes (drawnOf xs).its := by
    funext x; rw [takes_row _ (drawn_ok xs), drawn_its]
  rw [e]
theorem takes_tail (xs : List Int) (x : List Nat) : takes (rowOf ((drawnOf xs).ts ++ tailTk)) x = takes ((drawnOf xs).its ++ [some (false, [46]), none]) x := by
  rw [takes_row _ (by rw [List.all_append, drawn_ok, tail_ok]; rfl), List.map_append, drawn_its]; rfl

def V (tk : List (List Nat)) (y : List Nat) : Nat := if isIn tk y || y == strS then 1 else 0
structure Gd (tk : List (List Nat)) (F : Str → Option Nat) (D : List (List Nat)) : Prop where
  yes : ∀ z ∈ D, F (mk z) = some (V tk z)
  no : ∀ z, z ∉ D → F (mk z) = none
  s : strS ∈ D

theorem V_strS (tk : List (List Nat)) : V tk strS = 1 := by unfold V; simp
theorem gd_start (tk : List (List Nat)) : Gd tk startF [strS] := by
  refine ⟨fun z hz => ?_, fun z hz => ?_, by simp⟩
  · rw [List.mem_singleton] at hz; subst hz
    unfold startF; rw [if_pos strS_eq.symm, V_strS]
  · unfold startF
    rw [if_neg]
    intro e
    rw [strS_eq] at e
    exact hz (by rw [mk_inj e]; simp)
section
variable {tk : List (List Nat)} {F : Str → Option Nat} {D : List (List Nat)} {pn : Bool}
theorem ans_yes (g : Gd tk F D) {y : List Nat} (hy : y ∈ D) : ansOf tk pn F y = V tk y := by unfold ansOf; rw [g.yes y hy]
theorem ans_no (g : Gd tk F D) {y : List Nat} (hy : y ∉ D) : ansOf tk pn F y = if isIn tk y || pn then 1 else 0 := by unfold ansOf; rw [g.no y hy]
theorem ans_false (g : Gd tk F D) (y : List Nat) : ansOf tk false F y = V tk y := by
  by_cases hy : y ∈ D
  · exact ans_yes g hy
  · rw [ans_no g hy]
    have : (y == strS) = false := by
      rw [beq_eq_false_iff_ne]; rintro rfl; exact hy g.s
    unfold V; rw [this]
theorem gd_false (g : Gd tk F D) (y : List Nat) : Gd tk (nextF tk false F y) (y :: D) := by
  have e := ans_false g y
  refine ⟨fun z hz => ?_, fun z hz => ?_, List.mem_cons_of_mem _ g.s⟩
  · unfold nextF
    by_cases h : z = y
    · subst h; rw [if_pos rfl, e]
    · rw [if_neg fun q => h (mk_inj q)]
      exact g.yes z ((List.mem_cons.mp hz).resolve_left h)
  · unfold nextF
    simp only [List.mem_cons, not_or] at hz
    rw [if_neg fun q => hz.1 (mk_inj q)]
    exact g.no z hz.2
theorem gd_again (g : Gd tk F D) {y : List Nat} (hy : y ∈ D) : Gd tk (nextF tk pn F y) D := by
  have e := ans_yes (pn := pn) g hy
  refine ⟨fun z hz => ?_, fun z hz => ?_, g.s⟩
  · unfold nextF
    by_cases h : z = y
    · subst h; rw [if_pos rfl, e]
    · rw [if_neg fun q => h (mk_inj q)]; exact g.yes z hz
  · unfold nextF
    rw [if_neg fun q => hz (by rw [mk_inj q]; exact hy)]
    exact g.no z hz
end

theorem run_false (tk : List (List Nat)) : ∀ (ys : List (List Nat)) (F : Str → Option Nat) (D : List (List Nat)), Gd tk F D → answers tk false F ys = ys.map (V tk) ∧ Gd tk (runF tk false F ys) (ys.reverse ++ D)
  | [], F, D, g => ⟨rfl, g⟩
  | y :: ys, F, D, g => by
    obtain ⟨h1, h2⟩ := run_false tk ys _ _ (gd_false g y)
    refine ⟨?_, ?_⟩
    · show ansOf tk false F y :: answers tk false (nextF tk false F y) ys = _
      rw [h1, ans_false g]; rfl
    · have e : (y :: ys).reverse ++ D = ys.reverse ++ (y :: D) := by simp
      rw [e]; exact h2
theorem run_again (tk : List (List Nat)) (pn : Bool) : ∀ (ys : List (List Nat)) (F : Str → Option Nat) (D : List (List Nat)), Gd tk F D → (∀ y ∈ ys, y ∈ D) → answers tk pn F ys = ys.map (V tk) ∧ Gd tk (runF tk pn F ys) D
  | [], F, D, g, _ => ⟨rfl, g⟩
  | y :: ys, F, D, g, h => by
    obtain ⟨h1, h2⟩ := run_again tk pn ys _ _ (gd_again (pn := pn) g (h y (by simp))) fun z hz => h z (List.mem_cons_of_mem _ hz)
    refine ⟨?_, h2⟩
    show ansOf tk pn F y :: answers tk pn (nextF tk pn F y) ys = _
    rw [h1, ans_yes g (h y (by simp))]; rfl
theorem answers_snoc (tk : List (List Nat)) (pn : Bool) (z : List Nat) : ∀ (ys : List (List Nat)) (F : Str → Option Nat), answers tk pn F (ys ++ [z]) = answers tk pn F ys ++ [ansOf tk pn (runF tk pn F ys) z]
  | [], F => rfl
  | y :: ys, F => by
    show ansOf tk pn F y :: answers tk pn (nextF tk pn F y) (ys ++ [z]) = _
    rw [answers_snoc tk pn z ys]; rfl
theorem runF_snoc (tk : List (List Nat)) (pn : Bool) (z : List Nat) (ys : List (List Nat)) (F : Str → Option Nat) : runF tk pn F (ys ++ [z]) = nextF tk pn (runF tk pn F ys) z := by
  unfold runF; rw [List.foldl_append]; rfl

theorem far_heads {h t : List Nat} (ht : t = [46, 120] ∨ t = [46, 121]) (hh : h ∈ heads (farS ++ t)) : 23 ≤ h.length := by
  rcases (mem_heads _ _).mp hh with rfl | ⟨k, hk, rfl⟩
  · rw [List.length_append]; show 23 ≤ 23 + _; omega
  · by_cases hk2 : k < 23
    · exfalso
      have : ∀ t, t = [46, 120] ∨ t = [46, 121] → ∀ k < 23, (farS ++ t)[k]? ≠ some 46 := by
        rintro t (rfl | rfl) <;> decide
      exact this t ht k hk2 hk
    · have hkl := (List.getElem?_eq_some_iff.mp hk).1
      rw [List.length_take]; omega
theorem far_not {tk : List (List Nat)} (htk : ∀ x ∈ tk, x.length ≤ 20) {t : List Nat} (ht : t = [46, 120] ∨ t = [46, 121]) : isIn tk (farS ++ t) = false := by
  rw [← Bool.not_eq_true, isIn_heads]
  rintro ⟨h, hh, hm⟩
  have := far_heads ht hh; have := htk h hm; omega

theorem again_more (tk ys : List (List Nat)) (htk : ∀ x ∈ tk, x.length ≤ 20) (hys : ∀ y ∈ ys, y.length ≤ 22) :
    answers tk true (runF tk false startF ys) (ys ++ [farS]) ++ moreOf tk (runF tk true (runF tk false startF ys) (ys ++ [farS])) farS = answers tk false startF ys ++ [1, 1, 0, 0, 0] := by
  obtain ⟨h1, g1⟩ := run_false tk ys _ _ (gd_start tk)
  obtain ⟨h2, g2⟩ := run_again tk true ys _ _ g1 fun y hy => by simp [hy]
  have big : ∀ z : List Nat, 23 ≤ z.length → z ∉ ys.reverse ++ [strS] := fun z hz q => by
    rcases List.mem_append.mp q with q | q
    · have := hys z (by simpa using q); omega
    · rw [List.mem_singleton] at q; subst q; exact absurd hz (by decide)
  have lf : farS.length = 23 := by decide
  have lx : (farS ++ [46, 120]).length = 25 := by decide
  have ly : (farS ++ [46, 121]).length = 25 := by decide
  rw [answers_snoc, runF_snoc, h1, h2]
  generalize runF tk true (runF tk false startF ys) ys = F₂ at g2
  have e1 : ansOf tk true F₂ farS = 1 := by rw [ans_no g2 (big _ (by omega))]; simp
  have nx : mk (farS ++ [46, 120]) ≠ mk farS := fun e => by have := congrArg List.length (mk_inj e); omega
  have ny : mk (farS ++ [46, 121]) ≠ mk farS := fun e => by have := congrArg List.length (mk_inj e); omega
  have nxy : mk (farS ++ [46, 121]) ≠ mk (farS ++ [46, 120]) := fun e => absurd (mk_inj e) (by decide)
  have e2 : ansOf tk false (nextF tk true F₂ farS) farS = 1 := by
    unfold ansOf nextF; rw [if_pos rfl]; exact e1
  have e3 : ansOf [] false startF farS = 0 := by
    have : isIn [] farS = false := by rfl
    rw [ans_no (gd_start []) (by decide), this]; rfl
  have e4 : ansOf tk false (nextF tk false (nextF tk true F₂ farS) farS) (farS ++ [46, 120]) = 0 := by
    have e : nextF tk false (nextF tk true F₂ farS) farS (mk (farS ++ [46, 120])) = none := by
      unfold nextF; rw [if_neg nx, if_neg nx]; exact g2.no _ (big _ (by omega))
    unfold ansOf; rw [e, far_not htk (.inl rfl)]; rfl
  have e5 : ansOf tk false (nextF tk false (nextF tk false (nextF tk true F₂ farS) farS) (farS ++ [46, 120])) (farS ++ [46, 121]) = 0 := by
    have e : nextF tk false (nextF tk false (nextF tk true F₂ farS) farS) (farS ++ [46, 120]) (mk (farS ++ [46, 121])) = none := by
      unfold nextF; rw [if_neg nxy, if_neg ny, if_neg ny]; exact g2.no _ (big _ (by omega))
    unfold ansOf; rw [e, far_not htk (.inr rfl)]; rfl
  unfold moreOf
  dsimp only
  rw [e1, e2, e3, e4, e5]
  simp
theorem first_at (tk ys : List (List Nat)) (i : Nat) (y : List Nat) (b : Nat) (hy : ys[i]? = some y) (hb : (answers tk false startF ys)[i]? = some b) : b = if isIn tk y || y == strS then 1 else 0 := by
  rw [(run_false tk ys _ _ (gd_start tk)).1, List.getElem?_map, hy] at hb
  exact (Option.some.inj hb).symm
theorem answers_len (tk : List (List Nat)) (pn : Bool) (F : Str → Option Nat) (ys : List (List Nat)) : (answers tk pn F ys).length = ys.length := by
  unfold answers; rw [List.length_map, asks_len]
end Mine

-- part F17
namespace Mine
open PySem PySem.W PyProof.Rows
open Sem (wp)
open PySem.SeqAt

section
variable {p prog : Program} {w : World} {hB : Heap} {A : Around} {E : Value → Shared → Prop} {s s₀ : Shared} {m : Str → Option Value} {Q : Flow → Shared → Prop}

theorem has_txt {h : Heap} {x : String} {y : List Nat} (e : Has m h x (.txt y)) : ∃ t, m (Str.ofString x) = some (.str (mk y) t) := by
  obtain ⟨_, h1, t, rfl⟩ := e; exact ⟨t, h1⟩
theorem has_val {h : Heap} {x : String} {v : Value} (e : Has m h x (.val v)) : m (Str.ofString x) = some v := by
  obtain ⟨_, h1, rfl⟩ := e; exact h1
theorem row_len (xs : List Int) : (rowOf (drawnOf xs).ts).length ≤ 40 := by
  have h1 := parts_len (drawnOf xs).ts
  have h2 := (drawn_Sm xs).1
  unfold rowOf; rw [List.length_map]; omega
theorem row_len2 (xs : List Int) : (rowOf ((drawnOf xs).ts ++ tailTk)).length ≤ 42 := by
  have h1 := parts_len ((drawnOf xs).ts ++ tailTk)
  have h2 := (drawn_Sm xs).1
  rw [rend_tail, List.length_append] at h1
  have h3 : [46, 42].length = 2 := rfl
  unfold rowOf; rw [List.length_map]; omega

theorem law_walk (B : Bd p w hB) {L sa : Addr} {items : Array Value} {xs : List Int} (X₀ : Ext hB s₀.heap) (tb : Tb s.heap) (r : Rm A 4) (a : Act [126] (callEnvC (fdC 167) L 167) s₀ s m)
    (hm : m (Str.ofString "script") = some (.ref sa)) (hsa : s.heap.IsList sa items) (hi : IntsAre items.toList xs) (hsz : items.size ≤ sizeLine) (h : ∀ s', Kb [126] s₀ s' → Tb s'.heap → Q (.ret (.bool true)) s') :
    wpAny (model prog w) A (execs (bodyC 167) (callEnvC (fdC 167) L 167)) Q E s := by
  have hrl := (drawn_Sm xs).1
  have hil := (drawn_Sm xs).2.1
  have hkn := known_len xs
  have hkl : ∀ x ∈ knownOf (lst xs), x.length ≤ 20 := fun x hx => known_le xs hx
  have hal := asked_len xs
  have hay : ∀ x ∈ askedOf (lst xs), x.length ≤ 22 := fun x hx => asked_le xs hx
  have hr1 := row_len xs
  have hr2 := row_len2 xs
  refine law_A B X₀ tb r a hm hsa hi hsz fun s₁ m₁ a₁ tb₁ F₁ => ?_
  refine law_B1 B (ts := (drawnOf xs).ts) (drawn_ok xs) (by omega) X₀ tb₁ r a₁ F₁ (has_txt F₁.2.2.2.2.1) (by simp) fun s₂ m₂ a₂ tb₂ F₂ => ?_
  refine law_B2 B (ts := (drawnOf xs).ts) (drawn_ok xs) (by omega) X₀ tb₂ r a₂ F₂ (has_txt F₂.2.2.2.2.2.1) (by simp) fun s₃ m₃ a₃ tb₃ F₃ => ?_
  refine law_C1 B (kn := knownOf (lst xs)) (its := rowOf (drawnOf xs).ts) (by omega) (fun x hx => by have := hkl x hx; omega) (by omega) X₀ tb₃ r a₃ F₃ F₃.2.2.2.1 F₃.2.1 (by simp) fun s₄ m₄ a₄ tb₄ F₄ => ?_
  generalize htk : (knownOf (lst xs)).filter (takes (rowOf (drawnOf xs).ts)) = tk at F₄
  have htl : tk.length ≤ 231 := by rw [← htk]; exact Nat.le_trans (List.length_filter_le _ _) hkn
  have htx : ∀ x ∈ tk, x.length ≤ 20 := fun x hx => hkl x (by rw [← htk] at hx; exact (List.mem_filter.mp hx).1)
  have htk' : tk = (knownOf (lst xs)).filter (takes (drawnOf xs).its) := by rw [← htk, taken_due]
  refine law_C2 B (kn := knownOf (lst xs)) (its := (drawnOf xs).its) (tk := tk) (by omega) (fun x hx => by have := hkl x hx; omega) (by omega) X₀ tb₄ r a₄ F₄ F₄.2.2.2.2.1 F₄.2.2.2.2.2.2.1 F₄.1 htk' fun s₅ a₅ tb₅ F₅ => ?_
  refine law_D B (tk := tk) (by omega) X₀ tb₅ r a₅ F₅ F₅.1 (by simp) (by simp) fun s₆ m₆ x dx ms dl g a₆ tb₆ F₆ hBg hg0 rd₆ => ?_
  refine law_E1 B (ys := askedOf (lst xs)) (ns := tk) (by omega) (fun z hz => by have := htx z hz; omega) (by omega) (fun y hy => by have := hay y hy; omega) X₀ tb₆ r (by omega) a₆ hBg hg0 rd₆ F₆ F₆.2.2.2.2.2.1 (has_val F₆.2.1) (by simp) fun s₇ m₇ a₇ tb₇ F₇ rd₇ => ?_
  have lf : farS.length = 23 := by decide
  refine law_E2 B (ys := askedOf (lst xs)) (ns := tk) (fw := farS) (by omega) (fun z hz => by have := htx z hz; omega) (by omega) (fun y hy => by have := hay y hy; omega) (by omega) X₀ tb₇ r (by omega) a₇ hBg hg0 rd₇ F₇ F₇.2.2.2.2.2.2.1 F₇.2.1 (has_val F₇.2.2.1) (by simp) fun s₈ m₈ a₈ tb₈ F₈ rd₈ => ?_
  refine law_E3 B (ns := tk) (fw := farS) (by omega) (fun z hz => by have := htx z hz; omega) (by omega) X₀ tb₈ r (by simp; omega) a₈ hBg hg0 rd₈ F₈ F₈.2.2.1 (has_val F₈.2.2.2.1) (by simp) fun s₉ m₉ a₉ tb₉ F₉ => ?_
  have l1 := answers_len tk false startF (askedOf (lst xs))
  have l2 := answers_len tk true (runF tk false startF (askedOf (lst xs))) (askedOf (lst xs) ++ [farS])
  refine law_E4 (by omega) (by rw [l2]; simp; omega) (by show 4 ≤ 1000; decide) tb₉ r a₉ F₉ F₉.2.2.1 F₉.2.1 F₉.1 (again_more tk (askedOf (lst xs)) htx hay) fun s₁₀ a₁₀ tb₁₀ F₁₀ => ?_
  refine law_F B X₀ r a₁₀ (fun y hy => by have := hay y hy; omega) (by omega) l1.symm (by omega) F₁₀.2.2.2.2.2.2.2.2.1 F₁₀.2.2.1 F₁₀.2.2.2.2.2.1 F₁₀.2.2.2.2.2.2.1 (first_at tk _) (fun y hy => ?_) tb₁₀ h
  rw [takes_tail, htk']
  exact law_check (drawnOf xs).its (lst xs) hy

theorem call_law (B : Bd p w s.heap) (tb : Tb s.heap) (r : Rm A 5) {R : Result → Shared → Prop} {sa : Addr} {items : Array Value} {xs : List Int} (hsa : s.heap.IsList sa items) (hi : IntsAre items.toList xs) (hsz : items.size ≤ sizeLine)
    (h : ∀ s', Kb [126] s s' → Tb s'.heap → R (.ok (.ret (.bool true))) s') : codeAny (model prog w) A (.call (.ref 167) ⟨[.ref sa], []⟩) R s := by
  refine call_fn B (Ext.refl _) r 167 _ [(Str.ofString "script", .ref sa)] (bodyC 167) (fun s₁ a => ?_) (hb := by intro x hx; simp only [List.mem_cons, List.not_mem_nil, or_false] at hx; subst hx; rfl)
  refine law_walk B (Ext.refl _) (tb.kb a.base (by simp)) (r.deeper _) (a.weak (by simp)) (by rfl) (sa := sa) (items := items) (xs := xs) ?_ hi hsz fun s' k tb' => h s' k tb'
  obtain ⟨o, ho, r'⟩ := hsa
  exact ⟨o, a.base.get0 ho, r'⟩
end
end Mine

-- part F18
namespace Mine
open PySem PySem.W PyProof.Rows

theorem oldK_of {s s' : Shared} (k : Kb [126] s s') (tb' : Tb s'.heap) (ht : s.heap.TableAt 130 126 #[]) : OldK s.heap s'.heap := by
  obtain ⟨ps, hp, _⟩ := tb'
  refine ⟨fun b o e => ?_, fun b o e => ?_⟩
  · by_cases h : b = 126
    · subst h
      have e' : o = { cls := .none, data := .fields #[] } := Option.some.inj (e.symm.trans ht.2)
      subst e'
      exact .inr (.inl ⟨ht.isCodeTable, rfl, #[], ps, rfl, by rw [hp]; simp⟩)
    · exact .inl (k.get (by simpa using h) e)
  · by_cases h : b = 126
    · subst h; exact ⟨_, hp⟩
    · exact ⟨o, k.get (by simpa using h) e⟩
theorem rm_caller : Rm callerA 5 := ⟨by decide, by decide, rfl⟩
theorem g_law (w : World) : nsIn (KH w) mainGlobals "law" = some (some (.ref 167)) := by rfl
theorem code_tab (P : Params) : codeHdIn (KF P) 130 126 = true := by kernel_rfl
def asK : List Addr := [3, 88, 92, 93, 99, 100, 102, 103, 111, 112, 114, 123, 124, 130, 131, 137, 138, 144, 145, 149, 150, 154, 155, 161, 162, 166, 167]
theorem asK_eq : ∀ P, asK = (KF P).map (·.1) := fun _ => by kernel_rfl
end Mine
/-! names that the head would take for twins of its states: taken here, so that it lays none (each twin's proof grows with the square of its texts; with them the file is over the lid) -/
namespace Mine.join
def tw2683208758796469385 : Unit := ()
def tw17467706101145263934 : Unit := ()
def tw16468967535807050346 : Unit := ()
def tw6358201121655692404 : Unit := ()
def tw5265016571067119316 : Unit := ()
def tw17820962830787685953 : Unit := ()
def tw8503459121382180269 : Unit := ()
def tw16786071031735556518 : Unit := ()
def tw12965316132072173166 : Unit := ()
def tw11083928799568044727 : Unit := ()
def tw15198487373947914405 : Unit := ()
def tw5788053831243337141 : Unit := ()
def tw3820797340869802647 : Unit := ()
def tw16465203357036648813 : Unit := ()
def tw11251151305220038029 : Unit := ()
def tw17439496029309960154 : Unit := ()
def tw9184948681134019474 : Unit := ()
def tw10101307428346949230 : Unit := ()
def tw18105548371770724797 : Unit := ()
def tw12383570253099630200 : Unit := ()
def tw9143531822536755225 : Unit := ()
def tw16488376359722252138 : Unit := ()
def tw190889217736465339 : Unit := ()
def tw8844435183283998376 : Unit := ()
def tw14116114657947796288 : Unit := ()
def tw7870638151400385644 : Unit := ()
def tw15995132910982786055 : Unit := ()
def tw4836231808053000623 : Unit := ()
def tw13269119853148210446 : Unit := ()
def tw9716976907518162333 : Unit := ()
def tw9088885119499952019 : Unit := ()
def tw1592265897316514039 : Unit := ()
def tw4713176465618931651 : Unit := ()
def tw13707607503180276446 : Unit := ()
def tw18264526311411118758 : Unit := ()
def tw12368280136184723556 : Unit := ()
def tw14084131714465947907 : Unit := ()
def tw5595409443878939636 : Unit := ()
def tw10396561052663945635 : Unit := ()
def tw15899948545207011398 : Unit := ()
def tw3182936775495355554 : Unit := ()
def tw4213032515790596258 : Unit := ()
def tw10014472240897396331 : Unit := ()
def tw8875771307224289868 : Unit := ()
def tw9718411711476706393 : Unit := ()
def tw921272826367955883 : Unit := ()
def tw7128140934823717621 : Unit := ()
def tw17974051294451066710 : Unit := ()
def tw549542202572329746 : Unit := ()
def tw9675756965158162632 : Unit := ()
def tw1023531248946554101 : Unit := ()
def tw16583274593635492228 : Unit := ()
def tw7662968578011066743 : Unit := ()
def tw16350388440009875264 : Unit := ()
def tw4159118893365183508 : Unit := ()
def tw1559393201632486608 : Unit := ()
def tw133888651976870624 : Unit := ()
def tw1349071455664337491 : Unit := ()
def tw2421335730691463874 : Unit := ()
def tw15311437786364454997 : Unit := ()
def tw15515438555229444869 : Unit := ()
def tw16605006664129709198 : Unit := ()
def tw16584960288806053193 : Unit := ()
def tw9126342574672560686 : Unit := ()
def tw633160152877374725 : Unit := ()
def tw7718603757006687412 : Unit := ()
def tw2236309848154209180 : Unit := ()
def tw17525597307007051437 : Unit := ()
def tw11661840800613641974 : Unit := ()
def tw8253128653917640288 : Unit := ()
def tw3223392952354797468 : Unit := ()
def tw6022119141347437138 : Unit := ()
def tw7791140901811790429 : Unit := ()
def tw1646933952094256668 : Unit := ()
def tw12725438675345279411 : Unit := ()
def tw2385418723767540950 : Unit := ()
def tw11107530208482004785 : Unit := ()
def tw10386243340250071591 : Unit := ()
def tw6784625146971750017 : Unit := ()
def tw5113012476071744640 : Unit := ()
def tw13792603723673692154 : Unit := ()
def tw15069669115848581646 : Unit := ()
def tw2699633981762276899 : Unit := ()
def tw10262941576743778372 : Unit := ()
def tw10152090311471551361 : Unit := ()
def tw5235751720269628667 : Unit := ()
def tw4034684004298516507 : Unit := ()
def tw11247371752157849086 : Unit := ()
def tw4174557277215477382 : Unit := ()
def tw17455461964770620128 : Unit := ()
def tw2949569723199066340 : Unit := ()
def tw9876577048663374551 : Unit := ()
def tw11068603008274627237 : Unit := ()
def tw13419800235013345924 : Unit := ()
def tw1863526586219421333 : Unit := ()
def tw12737548931052205657 : Unit := ()
def tw2536604740239698738 : Unit := ()
def tw5052668614177126150 : Unit := ()
def tw14252532621936446117 : Unit := ()
def tw2833319804499964911 : Unit := ()
def tw9712967456979332617 : Unit := ()
def tw6173466690253530540 : Unit := ()
def tw9432985340660512629 : Unit := ()
def tw16420157452541876297 : Unit := ()
def tw12826951235043208543 : Unit := ()
def tw18200831744729323784 : Unit := ()
def tw14296341462748760198 : Unit := ()
def tw220749294850718544 : Unit := ()
def tw14706898629504736849 : Unit := ()
def tw17980221358662423987 : Unit := ()
def tw6660896459025715289 : Unit := ()
def tw1943644141542763257 : Unit := ()
def tw15248902178002595993 : Unit := ()
def tw6269799506164940896 : Unit := ()
def tw7035802759857368158 : Unit := ()
def tw5068343851095668213 : Unit := ()
def tw4646240253860067578 : Unit := ()
def tw16604164598275139864 : Unit := ()
def tw394764666111921130 : Unit := ()
def tw20566380831891698 : Unit := ()
def tw10967239105436885389 : Unit := ()
def tw12497930052205308083 : Unit := ()
def tw2935279880515733750 : Unit := ()
def tw6775125530707721751 : Unit := ()
def tw10564710912607210724 : Unit := ()
def tw8215418388332654827 : Unit := ()
def tw16284621670489218211 : Unit := ()
def tw14444154482025168237 : Unit := ()
def tw1103758689825130720 : Unit := ()
def tw15749801708378930710 : Unit := ()
def tw17092630495013726166 : Unit := ()
def tw7554846547360677901 : Unit := ()
def tw7100677515131962235 : Unit := ()
def tw7899585207655019294 : Unit := ()
def tw7020918694788141869 : Unit := ()
def tw12703574378445090675 : Unit := ()
def tw9679223053384159091 : Unit := ()
def tw10692425248962347418 : Unit := ()
def tw14720856625302500400 : Unit := ()
def tw3635565713695007415 : Unit := ()
def tw12401560914305842672 : Unit := ()
def tw14841312439728133001 : Unit := ()
def tw14107027584424609009 : Unit := ()
end Mine.join
namespace Mine
open PySem PySem.W PyProof.Rows
set_option Elab.async true in
set_option maxHeartbeats 8000000 in
theorem join : PySem.Challenge.rw_ik0026_01.Holds := by
  w_on
  o_law
  o_head (kmHook KF [3, 88, 92, 93, 99, 100, 102, 103, 111, 112, 114, 123, 124, 130, 131, 137, 138, 144, 145, 149, 150, 154, 155, 161, 162, 166, 167] asK_eq [126])
  case hw => w_witness2
  intro w s₀ s₁ mg mb G Y fa o pm cd doc dV kV ho hd' hcd hD hmg hg args vals as hpre hlay hrd hwl hlo
  have KX := km_in_of Y
  have T8 := km_tabs_of Y
  refine Ground.open G ?_
  intro T B D TE TW
  clear D TE TW B hD hcd hd' ho
  wrow_args hpre hlay hrd hwl hlo
  all_goals (refine enter_call ?_)
  rename_i xs hs h1 h2 h3 h4 u1 u2 sa vs u3 hL ra w1 r0 hI hr hc hc'
  have e9 := mg_of KX (Top.g T) (g_law w)
  have e8 : Value.ref fa = Value.ref 167 := Option.some.inj (hmg.symm.trans e9)
  cases e8
  clear hmg
  obtain ⟨bm, ob, Mb⟩ := bmod_of_top T
  have t126 := T8 126 (by simp)
  have hlen : vs.length = xs.length := hI.length
  have Bd' : Bd _ w s₁.heap := ⟨KX, t126, _, mg, mb, topRead_of T, bm, ob, Mb.name, Mb.ne, Mb.obj, Mb.cls, Mb.dict, Mb.data⟩
  refine call_law Bd' ⟨#[], t126, trivial⟩ rm_caller hL (xs := xs) hI (by simp only [List.size_toArray]; have : sizeLine = 16777216 := rfl; omega) fun s' k tb' => ?_
  have hold := oldK_of k tb' ((codeHd_of_K KX (code_tab _)).tab t126)
  obtain ⟨h', tk, dr, rfl, _⟩ := k
  refine ⟨.inl ⟨.bool true, .bool true, [], rfl, raisesW_false (by wrow_none_raised), .bool _, ?_, fun _ => ⟨by simp, by simp⟩⟩, hold, rfl, .of_eq hg⟩
  exact postW_of (by wrow_shape) (by wtm_val) (by w_fin)
end Mine

set_option maxRecDepth 100000 in
theorem PySem.Challenge.cw_ik0026_01_holds : PySem.Challenge.rw_ik0026_01.Holds := by
  exact Mine.join
