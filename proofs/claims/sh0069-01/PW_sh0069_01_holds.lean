import PyProof.Rows.All
import Wide.All
import OpenK.AllK
import Wide.FinOn
import PySem.Challenge.RW_sh0069_01
open PySem PySem.W PyProof.Rows
set_option Elab.async false
set_option maxRecDepth 100000
set_option maxHeartbeats 0
namespace Mine
structure Wrap (P : Prop) : Prop where
  h : P
structure Stage (Q : Prop) where
  P : Prop
  pf : Wrap P → Q
end Mine
section -- HD
namespace Mine
noncomputable def VW : Program := PySem.W.view PySem.Challenge.pw_sh0069_01 [0, 76]
noncomputable def LL : List Str := [Str.ofString "_wall", Str.ofString "_iter_escaped_chars", Str.ofString "_strip_quoted_realnames", Str.ofString "_check_parenthesis", 
  Str.ofString "LPAR", Str.ofString "RPAR", Str.ofString "LSQB", Str.ofString "RSQB", Str.ofString "COLON", Str.ofString "COMMA", Str.ofString "SEMI", 
  Str.ofString "PLUS", Str.ofString "MINUS", Str.ofString "STAR", Str.ofString "SLASH", Str.ofString "VBAR", Str.ofString "AMPER", Str.ofString "LESS", 
  Str.ofString "GREATER", Str.ofString "EQUAL", Str.ofString "DOT", Str.ofString "PERCENT", Str.ofString "LBRACE", Str.ofString "RBRACE", 
  Str.ofString "EQEQUAL", Str.ofString "NOTEQUAL", Str.ofString "LESSEQUAL", Str.ofString "GREATEREQUAL", Str.ofString "TILDE", 
  Str.ofString "CIRCUMFLEX", Str.ofString "LEFTSHIFT", Str.ofString "RIGHTSHIFT", Str.ofString "DOUBLESTAR", Str.ofString "PLUSEQUAL", 
  Str.ofString "MINEQUAL", Str.ofString "STAREQUAL", Str.ofString "SLASHEQUAL", Str.ofString "PERCENTEQUAL", Str.ofString "AMPEREQUAL", 
  Str.ofString "VBAREQUAL", Str.ofString "CIRCUMFLEXEQUAL", Str.ofString "LEFTSHIFTEQUAL", Str.ofString "RIGHTSHIFTEQUAL", 
  Str.ofString "DOUBLESTAREQUAL", Str.ofString "DOUBLESLASH", Str.ofString "DOUBLESLASHEQUAL", Str.ofString "AT", Str.ofString "ATEQUAL", 
  Str.ofString "RARROW", Str.ofString "ELLIPSIS", Str.ofString "COLONEQUAL", Str.ofString "EXCLAMATION", Str.ofString "NT_OFFSET", 
  Str.ofString "EXACT_TOKEN_TYPES", Str.ofString "ISNONTERMINAL", Str.ofString "_MAX_STRING_SIZE", Str.ofString "_MOVE_COST", Str.ofString "_CASE_COST", 
  Str.ofString "_substitution_cost", Str.ofString "_levenshtein_distance", Str.ofString "_name_disallowed_re", Str.ofString "_value_disallowed_re", 
  Str.ofString "Headers", Str.ofString "_law_draws", Str.ofString "_law_tree", Str.ofString "_law_written", Str.ofString "_law_read", 
  Str.ofString "_law_waves", Str.ofString "_law_word", Str.ofString "_law_ones"]
noncomputable abbrev XT : Shared → Bool := fun s => xlAt VW [] s && recOk (RowW.records (OpenRow.toRowW (OpenLaw.row PySem.Challenge.rw_sh0069_01))) s
theorem ws : OpenLaw.wellSaid PySem.Challenge.rw_sh0069_01 = true := by rw [PySem.W.Fast.te9446332074065402090]; kernel_rfl
theorem okq : (chainsOk VW && opensWell (OpenLaw.row PySem.Challenge.rw_sh0069_01).prog && (frees (OpenLaw.row PySem.Challenge.rw_sh0069_01).toRowW && (OpenLaw.row PySem.Challenge.rw_sh0069_01).within.isEmpty)) = true := by decide +kernel
theorem ho9 (H : Hook) {d : DefRec} {kwd : List (Str × Expr)} (h1 : defOf VW (OpenLaw.row PySem.Challenge.rw_sh0069_01).name = some (d, kwd)) (h2 : (OpenLaw.row PySem.Challenge.rw_sh0069_01).prog.theDef (OpenLaw.row PySem.Challenge.rw_sh0069_01).name = some (d.params, d.body, d.scope)) (h3 : kwWritten? d.params.kwonlyargs d.params.kw_defaults = some kwd) (hs : (OpenLaw.row PySem.Challenge.rw_sh0069_01).wellSaid = true) (hw : (OpenLaw.row PySem.Challenge.rw_sh0069_01).promised)
    (hc : LeftO (OpenLaw.row PySem.Challenge.rw_sh0069_01).prog VW LL XT H.obs H.val 5792 ∧ WalkO VW LL (XL VW []) H.says (OpenLaw.row PySem.Challenge.rw_sh0069_01).toRowW d kwd fun f vs => call f vs) : (OpenLaw.row PySem.Challenge.rw_sh0069_01).Holds :=
  holds_open (q := VW) (loose := LL) (Xt := XT) (XP := XL VW []) (Yf := H.obs) (Ya := H.val) (YP := H.says) (N := 5792) hc.1 H.of H.keeps (fun s e => xl_of s (Bool.and_eq_true_iff.mp e).1) XL.keeps h1 h2 h3 (fun s e => recFacts_of (Bool.and_eq_true_iff.mp e).2) (by rfl) hs okq ⟨rfl, rfl, rfl, rfl, rfl, by decide +kernel⟩ hw hc.2
theorem hl9 (h : (OpenLaw.row PySem.Challenge.rw_sh0069_01).wellSaid = true → (OpenLaw.row PySem.Challenge.rw_sh0069_01).Holds) : PySem.Challenge.rw_sh0069_01.Holds := holds_law ws h
local macro_rules | `(tactic| o_law) => `(tactic| refine hl9 fun said => ?_)
local macro_rules | `(tactic| o_head $H) => `(tactic| refine ho9 $H (by rfl) (by rfl) (by rfl) (by assumption) ?hw ?hc)
open_top hd for PySem.Challenge.rw_sh0069_01
end Mine
end
section -- EPS
namespace Mine
theorem offEPS : True := by
  w_top off
  exact trivial
noncomputable def E1 {α : Type} (ne : Nonempty α) (P : α → Prop) : α := @Classical.epsilon α ne (fun x => ¬ P x)
theorem eps1 {α : Type} (ne : Nonempty α) {P : α → Prop} (h : P (E1 ne P)) : ∀ x, P x := by
  intro x
  by_cases hx : P x
  · exact hx
  · exact absurd h (@Classical.epsilon_spec α (fun x => ¬ P x) ⟨x, hx⟩)
noncomputable def E2 {α1 α2 : Type} (n1 : Nonempty α1) (n2 : Nonempty α2) (P : α1 → α2 → Prop) : α1 × α2 := E1 (α := α1 × α2) ⟨⟨Classical.choice n1, Classical.choice n2⟩⟩ (fun p => P p.1 p.2)
noncomputable def E2_1 {α1 α2 : Type} (n1 : Nonempty α1) (n2 : Nonempty α2) (P : α1 → α2 → Prop) : α1 := (E2 n1 n2 P : α1 × α2).1
noncomputable def E2_2 {α1 α2 : Type} (n1 : Nonempty α1) (n2 : Nonempty α2) (P : α1 → α2 → Prop) : α2 := (E2 n1 n2 P : α1 × α2).2
theorem eps2 {α1 α2 : Type} (n1 : Nonempty α1) (n2 : Nonempty α2) {P : α1 → α2 → Prop} (h : P (E2_1 n1 n2 P) (E2_2 n1 n2 P)) : ∀ x1 x2, P x1 x2 :=
  fun x1 x2 => eps1 (α := α1 × α2) ⟨⟨Classical.choice n1, Classical.choice n2⟩⟩ (P := fun p => P p.1 p.2) h (x1, x2)
noncomputable def E3 {α1 α2 α3 : Type} (n1 : Nonempty α1) (n2 : Nonempty α2) (n3 : Nonempty α3) (P : α1 → α2 → α3 → Prop) : α1 × α2 × α3 := E1 (α := α1 × α2 × α3) ⟨⟨Classical.choice n1, Classical.choice n2, Classical.choice n3⟩⟩ (fun p => P p.1 p.2.1 p.2.2)
noncomputable def E3_1 {α1 α2 α3 : Type} (n1 : Nonempty α1) (n2 : Nonempty α2) (n3 : Nonempty α3) (P : α1 → α2 → α3 → Prop) : α1 := (E3 n1 n2 n3 P : α1 × α2 × α3).1
noncomputable def E3_2 {α1 α2 α3 : Type} (n1 : Nonempty α1) (n2 : Nonempty α2) (n3 : Nonempty α3) (P : α1 → α2 → α3 → Prop) : α2 := (E3 n1 n2 n3 P : α1 × α2 × α3).2.1
noncomputable def E3_3 {α1 α2 α3 : Type} (n1 : Nonempty α1) (n2 : Nonempty α2) (n3 : Nonempty α3) (P : α1 → α2 → α3 → Prop) : α3 := (E3 n1 n2 n3 P : α1 × α2 × α3).2.2
theorem eps3 {α1 α2 α3 : Type} (n1 : Nonempty α1) (n2 : Nonempty α2) (n3 : Nonempty α3) {P : α1 → α2 → α3 → Prop} (h : P (E3_1 n1 n2 n3 P) (E3_2 n1 n2 n3 P) (E3_3 n1 n2 n3 P)) : ∀ x1 x2 x3, P x1 x2 x3 :=
  fun x1 x2 x3 => eps1 (α := α1 × α2 × α3) ⟨⟨Classical.choice n1, Classical.choice n2, Classical.choice n3⟩⟩ (P := fun p => P p.1 p.2.1 p.2.2) h (x1, x2, x3)
noncomputable def E4 {α1 α2 α3 α4 : Type} (n1 : Nonempty α1) (n2 : Nonempty α2) (n3 : Nonempty α3) (n4 : Nonempty α4) (P : α1 → α2 → α3 → α4 → Prop) : α1 × α2 × α3 × α4 := E1 (α := α1 × α2 × α3 × α4) ⟨⟨Classical.choice n1, Classical.choice n2, Classical.choice n3, Classical.choice n4⟩⟩ (fun p => P p.1 p.2.1 p.2.2.1 p.2.2.2)
noncomputable def E4_1 {α1 α2 α3 α4 : Type} (n1 : Nonempty α1) (n2 : Nonempty α2) (n3 : Nonempty α3) (n4 : Nonempty α4) (P : α1 → α2 → α3 → α4 → Prop) : α1 := (E4 n1 n2 n3 n4 P : α1 × α2 × α3 × α4).1
noncomputable def E4_2 {α1 α2 α3 α4 : Type} (n1 : Nonempty α1) (n2 : Nonempty α2) (n3 : Nonempty α3) (n4 : Nonempty α4) (P : α1 → α2 → α3 → α4 → Prop) : α2 := (E4 n1 n2 n3 n4 P : α1 × α2 × α3 × α4).2.1
noncomputable def E4_3 {α1 α2 α3 α4 : Type} (n1 : Nonempty α1) (n2 : Nonempty α2) (n3 : Nonempty α3) (n4 : Nonempty α4) (P : α1 → α2 → α3 → α4 → Prop) : α3 := (E4 n1 n2 n3 n4 P : α1 × α2 × α3 × α4).2.2.1
noncomputable def E4_4 {α1 α2 α3 α4 : Type} (n1 : Nonempty α1) (n2 : Nonempty α2) (n3 : Nonempty α3) (n4 : Nonempty α4) (P : α1 → α2 → α3 → α4 → Prop) : α4 := (E4 n1 n2 n3 n4 P : α1 × α2 × α3 × α4).2.2.2
theorem eps4 {α1 α2 α3 α4 : Type} (n1 : Nonempty α1) (n2 : Nonempty α2) (n3 : Nonempty α3) (n4 : Nonempty α4) {P : α1 → α2 → α3 → α4 → Prop} (h : P (E4_1 n1 n2 n3 n4 P) (E4_2 n1 n2 n3 n4 P) (E4_3 n1 n2 n3 n4 P) (E4_4 n1 n2 n3 n4 P)) : ∀ x1 x2 x3 x4, P x1 x2 x3 x4 :=
  fun x1 x2 x3 x4 => eps1 (α := α1 × α2 × α3 × α4) ⟨⟨Classical.choice n1, Classical.choice n2, Classical.choice n3, Classical.choice n4⟩⟩ (P := fun p => P p.1 p.2.1 p.2.2.1 p.2.2.2) h (x1, x2, x3, x4)
noncomputable def E5 {α1 α2 α3 α4 α5 : Type} (n1 : Nonempty α1) (n2 : Nonempty α2) (n3 : Nonempty α3) (n4 : Nonempty α4) (n5 : Nonempty α5) (P : α1 → α2 → α3 → α4 → α5 → Prop) : α1 × α2 × α3 × α4 × α5 := E1 (α := α1 × α2 × α3 × α4 × α5) ⟨⟨Classical.choice n1, Classical.choice n2, Classical.choice n3, Classical.choice n4, Classical.choice n5⟩⟩ (fun p => P p.1 p.2.1 p.2.2.1 p.2.2.2.1 p.2.2.2.2)
noncomputable def E5_1 {α1 α2 α3 α4 α5 : Type} (n1 : Nonempty α1) (n2 : Nonempty α2) (n3 : Nonempty α3) (n4 : Nonempty α4) (n5 : Nonempty α5) (P : α1 → α2 → α3 → α4 → α5 → Prop) : α1 := (E5 n1 n2 n3 n4 n5 P : α1 × α2 × α3 × α4 × α5).1
noncomputable def E5_2 {α1 α2 α3 α4 α5 : Type} (n1 : Nonempty α1) (n2 : Nonempty α2) (n3 : Nonempty α3) (n4 : Nonempty α4) (n5 : Nonempty α5) (P : α1 → α2 → α3 → α4 → α5 → Prop) : α2 := (E5 n1 n2 n3 n4 n5 P : α1 × α2 × α3 × α4 × α5).2.1
noncomputable def E5_3 {α1 α2 α3 α4 α5 : Type} (n1 : Nonempty α1) (n2 : Nonempty α2) (n3 : Nonempty α3) (n4 : Nonempty α4) (n5 : Nonempty α5) (P : α1 → α2 → α3 → α4 → α5 → Prop) : α3 := (E5 n1 n2 n3 n4 n5 P : α1 × α2 × α3 × α4 × α5).2.2.1
noncomputable def E5_4 {α1 α2 α3 α4 α5 : Type} (n1 : Nonempty α1) (n2 : Nonempty α2) (n3 : Nonempty α3) (n4 : Nonempty α4) (n5 : Nonempty α5) (P : α1 → α2 → α3 → α4 → α5 → Prop) : α4 := (E5 n1 n2 n3 n4 n5 P : α1 × α2 × α3 × α4 × α5).2.2.2.1
noncomputable def E5_5 {α1 α2 α3 α4 α5 : Type} (n1 : Nonempty α1) (n2 : Nonempty α2) (n3 : Nonempty α3) (n4 : Nonempty α4) (n5 : Nonempty α5) (P : α1 → α2 → α3 → α4 → α5 → Prop) : α5 := (E5 n1 n2 n3 n4 n5 P : α1 × α2 × α3 × α4 × α5).2.2.2.2
theorem eps5 {α1 α2 α3 α4 α5 : Type} (n1 : Nonempty α1) (n2 : Nonempty α2) (n3 : Nonempty α3) (n4 : Nonempty α4) (n5 : Nonempty α5) {P : α1 → α2 → α3 → α4 → α5 → Prop} (h : P (E5_1 n1 n2 n3 n4 n5 P) (E5_2 n1 n2 n3 n4 n5 P) (E5_3 n1 n2 n3 n4 n5 P) (E5_4 n1 n2 n3 n4 n5 P) (E5_5 n1 n2 n3 n4 n5 P)) : ∀ x1 x2 x3 x4 x5, P x1 x2 x3 x4 x5 :=
  fun x1 x2 x3 x4 x5 => eps1 (α := α1 × α2 × α3 × α4 × α5) ⟨⟨Classical.choice n1, Classical.choice n2, Classical.choice n3, Classical.choice n4, Classical.choice n5⟩⟩ (P := fun p => P p.1 p.2.1 p.2.2.1 p.2.2.2.1 p.2.2.2.2) h (x1, x2, x3, x4, x5)
noncomputable def E6 {α1 α2 α3 α4 α5 α6 : Type} (n1 : Nonempty α1) (n2 : Nonempty α2) (n3 : Nonempty α3) (n4 : Nonempty α4) (n5 : Nonempty α5) (n6 : Nonempty α6) (P : α1 → α2 → α3 → α4 → α5 → α6 → Prop) : α1 × α2 × α3 × α4 × α5 × α6 := E1 (α := α1 × α2 × α3 × α4 × α5 × α6) ⟨⟨Classical.choice n1, Classical.choice n2, Classical.choice n3, Classical.choice n4, Classical.choice n5, Classical.choice n6⟩⟩ (fun p => P p.1 p.2.1 p.2.2.1 p.2.2.2.1 p.2.2.2.2.1 p.2.2.2.2.2)
noncomputable def E6_1 {α1 α2 α3 α4 α5 α6 : Type} (n1 : Nonempty α1) (n2 : Nonempty α2) (n3 : Nonempty α3) (n4 : Nonempty α4) (n5 : Nonempty α5) (n6 : Nonempty α6) (P : α1 → α2 → α3 → α4 → α5 → α6 → Prop) : α1 := (E6 n1 n2 n3 n4 n5 n6 P : α1 × α2 × α3 × α4 × α5 × α6).1
noncomputable def E6_2 {α1 α2 α3 α4 α5 α6 : Type} (n1 : Nonempty α1) (n2 : Nonempty α2) (n3 : Nonempty α3) (n4 : Nonempty α4) (n5 : Nonempty α5) (n6 : Nonempty α6) (P : α1 → α2 → α3 → α4 → α5 → α6 → Prop) : α2 := (E6 n1 n2 n3 n4 n5 n6 P : α1 × α2 × α3 × α4 × α5 × α6).2.1
noncomputable def E6_3 {α1 α2 α3 α4 α5 α6 : Type} (n1 : Nonempty α1) (n2 : Nonempty α2) (n3 : Nonempty α3) (n4 : Nonempty α4) (n5 : Nonempty α5) (n6 : Nonempty α6) (P : α1 → α2 → α3 → α4 → α5 → α6 → Prop) : α3 := (E6 n1 n2 n3 n4 n5 n6 P : α1 × α2 × α3 × α4 × α5 × α6).2.2.1
noncomputable def E6_4 {α1 α2 α3 α4 α5 α6 : Type} (n1 : Nonempty α1) (n2 : Nonempty α2) (n3 : Nonempty α3) (n4 : Nonempty α4) (n5 : Nonempty α5) (n6 : Nonempty α6) (P : α1 → α2 → α3 → α4 → α5 → α6 → Prop) : α4 := (E6 n1 n2 n3 n4 n5 n6 P : α1 × α2 × α3 × α4 × α5 × α6).2.2.2.1
noncomputable def E6_5 {α1 α2 α3 α4 α5 α6 : Type} (n1 : Nonempty α1) (n2 : Nonempty α2) (n3 : Nonempty α3) (n4 : Nonempty α4) (n5 : Nonempty α5) (n6 : Nonempty α6) (P : α1 → α2 → α3 → α4 → α5 → α6 → Prop) : α5 := (E6 n1 n2 n3 n4 n5 n6 P : α1 × α2 × α3 × α4 × α5 × α6).2.2.2.2.1
noncomputable def E6_6 {α1 α2 α3 α4 α5 α6 : Type} (n1 : Nonempty α1) (n2 : Nonempty α2) (n3 : Nonempty α3) (n4 : Nonempty α4) (n5 : Nonempty α5) (n6 : Nonempty α6) (P : α1 → α2 → α3 → α4 → α5 → α6 → Prop) : α6 := (E6 n1 n2 n3 n4 n5 n6 P : α1 × α2 × α3 × α4 × α5 × α6).2.2.2.2.2
theorem eps6 {α1 α2 α3 α4 α5 α6 : Type} (n1 : Nonempty α1) (n2 : Nonempty α2) (n3 : Nonempty α3) (n4 : Nonempty α4) (n5 : Nonempty α5) (n6 : Nonempty α6) {P : α1 → α2 → α3 → α4 → α5 → α6 → Prop} (h : P (E6_1 n1 n2 n3 n4 n5 n6 P) (E6_2 n1 n2 n3 n4 n5 n6 P) (E6_3 n1 n2 n3 n4 n5 n6 P) (E6_4 n1 n2 n3 n4 n5 n6 P) (E6_5 n1 n2 n3 n4 n5 n6 P) (E6_6 n1 n2 n3 n4 n5 n6 P)) : ∀ x1 x2 x3 x4 x5 x6, P x1 x2 x3 x4 x5 x6 :=
  fun x1 x2 x3 x4 x5 x6 => eps1 (α := α1 × α2 × α3 × α4 × α5 × α6) ⟨⟨Classical.choice n1, Classical.choice n2, Classical.choice n3, Classical.choice n4, Classical.choice n5, Classical.choice n6⟩⟩ (P := fun p => P p.1 p.2.1 p.2.2.1 p.2.2.2.1 p.2.2.2.2.1 p.2.2.2.2.2) h (x1, x2, x3, x4, x5, x6)
noncomputable def E7 {α1 α2 α3 α4 α5 α6 α7 : Type} (n1 : Nonempty α1) (n2 : Nonempty α2) (n3 : Nonempty α3) (n4 : Nonempty α4) (n5 : Nonempty α5) (n6 : Nonempty α6) (n7 : Nonempty α7) (P : α1 → α2 → α3 → α4 → α5 → α6 → α7 → Prop) : α1 × α2 × α3 × α4 × α5 × α6 × α7 := E1 (α := α1 × α2 × α3 × α4 × α5 × α6 × α7) ⟨⟨Classical.choice n1, Classical.choice n2, Classical.choice n3, Classical.choice n4, Classical.choice n5, Classical.choice n6, Classical.choice n7⟩⟩ (fun p => P p.1 p.2.1 p.2.2.1 p.2.2.2.1 p.2.2.2.2.1 p.2.2.2.2.2.1 p.2.2.2.2.2.2)
noncomputable def E7_1 {α1 α2 α3 α4 α5 α6 α7 : Type} (n1 : Nonempty α1) (n2 : Nonempty α2) (n3 : Nonempty α3) (n4 : Nonempty α4) (n5 : Nonempty α5) (n6 : Nonempty α6) (n7 : Nonempty α7) (P : α1 → α2 → α3 → α4 → α5 → α6 → α7 → Prop) : α1 := (E7 n1 n2 n3 n4 n5 n6 n7 P : α1 × α2 × α3 × α4 × α5 × α6 × α7).1
noncomputable def E7_2 {α1 α2 α3 α4 α5 α6 α7 : Type} (n1 : Nonempty α1) (n2 : Nonempty α2) (n3 : Nonempty α3) (n4 : Nonempty α4) (n5 : Nonempty α5) (n6 : Nonempty α6) (n7 : Nonempty α7) (P : α1 → α2 → α3 → α4 → α5 → α6 → α7 → Prop) : α2 := (E7 n1 n2 n3 n4 n5 n6 n7 P : α1 × α2 × α3 × α4 × α5 × α6 × α7).2.1
noncomputable def E7_3 {α1 α2 α3 α4 α5 α6 α7 : Type} (n1 : Nonempty α1) (n2 : Nonempty α2) (n3 : Nonempty α3) (n4 : Nonempty α4) (n5 : Nonempty α5) (n6 : Nonempty α6) (n7 : Nonempty α7) (P : α1 → α2 → α3 → α4 → α5 → α6 → α7 → Prop) : α3 := (E7 n1 n2 n3 n4 n5 n6 n7 P : α1 × α2 × α3 × α4 × α5 × α6 × α7).2.2.1
noncomputable def E7_4 {α1 α2 α3 α4 α5 α6 α7 : Type} (n1 : Nonempty α1) (n2 : Nonempty α2) (n3 : Nonempty α3) (n4 : Nonempty α4) (n5 : Nonempty α5) (n6 : Nonempty α6) (n7 : Nonempty α7) (P : α1 → α2 → α3 → α4 → α5 → α6 → α7 → Prop) : α4 := (E7 n1 n2 n3 n4 n5 n6 n7 P : α1 × α2 × α3 × α4 × α5 × α6 × α7).2.2.2.1
noncomputable def E7_5 {α1 α2 α3 α4 α5 α6 α7 : Type} (n1 : Nonempty α1) (n2 : Nonempty α2) (n3 : Nonempty α3) (n4 : Nonempty α4) (n5 : Nonempty α5) (n6 : Nonempty α6) (n7 : Nonempty α7) (P : α1 → α2 → α3 → α4 → α5 → α6 → α7 → Prop) : α5 := (E7 n1 n2 n3 n4 n5 n6 n7 P : α1 × α2 × α3 × α4 × α5 × α6 × α7).2.2.2.2.1
noncomputable def E7_6 {α1 α2 α3 α4 α5 α6 α7 : Type} (n1 : Nonempty α1) (n2 : Nonempty α2) (n3 : Nonempty α3) (n4 : Nonempty α4) (n5 : Nonempty α5) (n6 : Nonempty α6) (n7 : Nonempty α7) (P : α1 → α2 → α3 → α4 → α5 → α6 → α7 → Prop) : α6 := (E7 n1 n2 n3 n4 n5 n6 n7 P : α1 × α2 × α3 × α4 × α5 × α6 × α7).2.2.2.2.2.1
noncomputable def E7_7 {α1 α2 α3 α4 α5 α6 α7 : Type} (n1 : Nonempty α1) (n2 : Nonempty α2) (n3 : Nonempty α3) (n4 : Nonempty α4) (n5 : Nonempty α5) (n6 : Nonempty α6) (n7 : Nonempty α7) (P : α1 → α2 → α3 → α4 → α5 → α6 → α7 → Prop) : α7 := (E7 n1 n2 n3 n4 n5 n6 n7 P : α1 × α2 × α3 × α4 × α5 × α6 × α7).2.2.2.2.2.2
theorem eps7 {α1 α2 α3 α4 α5 α6 α7 : Type} (n1 : Nonempty α1) (n2 : Nonempty α2) (n3 : Nonempty α3) (n4 : Nonempty α4) (n5 : Nonempty α5) (n6 : Nonempty α6) (n7 : Nonempty α7) {P : α1 → α2 → α3 → α4 → α5 → α6 → α7 → Prop} (h : P (E7_1 n1 n2 n3 n4 n5 n6 n7 P) (E7_2 n1 n2 n3 n4 n5 n6 n7 P) (E7_3 n1 n2 n3 n4 n5 n6 n7 P) (E7_4 n1 n2 n3 n4 n5 n6 n7 P) (E7_5 n1 n2 n3 n4 n5 n6 n7 P) (E7_6 n1 n2 n3 n4 n5 n6 n7 P) (E7_7 n1 n2 n3 n4 n5 n6 n7 P)) : ∀ x1 x2 x3 x4 x5 x6 x7, P x1 x2 x3 x4 x5 x6 x7 :=
  fun x1 x2 x3 x4 x5 x6 x7 => eps1 (α := α1 × α2 × α3 × α4 × α5 × α6 × α7) ⟨⟨Classical.choice n1, Classical.choice n2, Classical.choice n3, Classical.choice n4, Classical.choice n5, Classical.choice n6, Classical.choice n7⟩⟩ (P := fun p => P p.1 p.2.1 p.2.2.1 p.2.2.2.1 p.2.2.2.2.1 p.2.2.2.2.2.1 p.2.2.2.2.2.2) h (x1, x2, x3, x4, x5, x6, x7)
noncomputable def E8 {α1 α2 α3 α4 α5 α6 α7 α8 : Type} (n1 : Nonempty α1) (n2 : Nonempty α2) (n3 : Nonempty α3) (n4 : Nonempty α4) (n5 : Nonempty α5) (n6 : Nonempty α6) (n7 : Nonempty α7) (n8 : Nonempty α8) (P : α1 → α2 → α3 → α4 → α5 → α6 → α7 → α8 → Prop) : α1 × α2 × α3 × α4 × α5 × α6 × α7 × α8 := E1 (α := α1 × α2 × α3 × α4 × α5 × α6 × α7 × α8) ⟨⟨Classical.choice n1, Classical.choice n2, Classical.choice n3, Classical.choice n4, Classical.choice n5, Classical.choice n6, Classical.choice n7, Classical.choice n8⟩⟩ (fun p => P p.1 p.2.1 p.2.2.1 p.2.2.2.1 p.2.2.2.2.1 p.2.2.2.2.2.1 p.2.2.2.2.2.2.1 p.2.2.2.2.2.2.2)
noncomputable def E8_1 {α1 α2 α3 α4 α5 α6 α7 α8 : Type} (n1 : Nonempty α1) (n2 : Nonempty α2) (n3 : Nonempty α3) (n4 : Nonempty α4) (n5 : Nonempty α5) (n6 : Nonempty α6) (n7 : Nonempty α7) (n8 : Nonempty α8) (P : α1 → α2 → α3 → α4 → α5 → α6 → α7 → α8 → Prop) : α1 := (E8 n1 n2 n3 n4 n5 n6 n7 n8 P : α1 × α2 × α3 × α4 × α5 × α6 × α7 × α8).1
noncomputable def E8_2 {α1 α2 α3 α4 α5 α6 α7 α8 : Type} (n1 : Nonempty α1) (n2 : Nonempty α2) (n3 : Nonempty α3) (n4 : Nonempty α4) (n5 : Nonempty α5) (n6 : Nonempty α6) (n7 : Nonempty α7) (n8 : Nonempty α8) (P : α1 → α2 → α3 → α4 → α5 → α6 → α7 → α8 → Prop) : α2 := (E8 n1 n2 n3 n4 n5 n6 n7 n8 P : α1 × α2 × α3 × α4 × α5 × α6 × α7 × α8).2.1
noncomputable def E8_3 {α1 α2 α3 α4 α5 α6 α7 α8 : Type} (n1 : Nonempty α1) (n2 : Nonempty α2) (n3 : Nonempty α3) (n4 : Nonempty α4) (n5 : Nonempty α5) (n6 : Nonempty α6) (n7 : Nonempty α7) (n8 : Nonempty α8) (P : α1 → α2 → α3 → α4 → α5 → α6 → α7 → α8 → Prop) : α3 := (E8 n1 n2 n3 n4 n5 n6 n7 n8 P : α1 × α2 × α3 × α4 × α5 × α6 × α7 × α8).2.2.1
noncomputable def E8_4 {α1 α2 α3 α4 α5 α6 α7 α8 : Type} (n1 : Nonempty α1) (n2 : Nonempty α2) (n3 : Nonempty α3) (n4 : Nonempty α4) (n5 : Nonempty α5) (n6 : Nonempty α6) (n7 : Nonempty α7) (n8 : Nonempty α8) (P : α1 → α2 → α3 → α4 → α5 → α6 → α7 → α8 → Prop) : α4 := (E8 n1 n2 n3 n4 n5 n6 n7 n8 P : α1 × α2 × α3 × α4 × α5 × α6 × α7 × α8).2.2.2.1
noncomputable def E8_5 {α1 α2 α3 α4 α5 α6 α7 α8 : Type} (n1 : Nonempty α1) (n2 : Nonempty α2) (n3 : Nonempty α3) (n4 : Nonempty α4) (n5 : Nonempty α5) (n6 : Nonempty α6) (n7 : Nonempty α7) (n8 : Nonempty α8) (P : α1 → α2 → α3 → α4 → α5 → α6 → α7 → α8 → Prop) : α5 := (E8 n1 n2 n3 n4 n5 n6 n7 n8 P : α1 × α2 × α3 × α4 × α5 × α6 × α7 × α8).2.2.2.2.1
noncomputable def E8_6 {α1 α2 α3 α4 α5 α6 α7 α8 : Type} (n1 : Nonempty α1) (n2 : Nonempty α2) (n3 : Nonempty α3) (n4 : Nonempty α4) (n5 : Nonempty α5) (n6 : Nonempty α6) (n7 : Nonempty α7) (n8 : Nonempty α8) (P : α1 → α2 → α3 → α4 → α5 → α6 → α7 → α8 → Prop) : α6 := (E8 n1 n2 n3 n4 n5 n6 n7 n8 P : α1 × α2 × α3 × α4 × α5 × α6 × α7 × α8).2.2.2.2.2.1
noncomputable def E8_7 {α1 α2 α3 α4 α5 α6 α7 α8 : Type} (n1 : Nonempty α1) (n2 : Nonempty α2) (n3 : Nonempty α3) (n4 : Nonempty α4) (n5 : Nonempty α5) (n6 : Nonempty α6) (n7 : Nonempty α7) (n8 : Nonempty α8) (P : α1 → α2 → α3 → α4 → α5 → α6 → α7 → α8 → Prop) : α7 := (E8 n1 n2 n3 n4 n5 n6 n7 n8 P : α1 × α2 × α3 × α4 × α5 × α6 × α7 × α8).2.2.2.2.2.2.1
noncomputable def E8_8 {α1 α2 α3 α4 α5 α6 α7 α8 : Type} (n1 : Nonempty α1) (n2 : Nonempty α2) (n3 : Nonempty α3) (n4 : Nonempty α4) (n5 : Nonempty α5) (n6 : Nonempty α6) (n7 : Nonempty α7) (n8 : Nonempty α8) (P : α1 → α2 → α3 → α4 → α5 → α6 → α7 → α8 → Prop) : α8 := (E8 n1 n2 n3 n4 n5 n6 n7 n8 P : α1 × α2 × α3 × α4 × α5 × α6 × α7 × α8).2.2.2.2.2.2.2
theorem eps8 {α1 α2 α3 α4 α5 α6 α7 α8 : Type} (n1 : Nonempty α1) (n2 : Nonempty α2) (n3 : Nonempty α3) (n4 : Nonempty α4) (n5 : Nonempty α5) (n6 : Nonempty α6) (n7 : Nonempty α7) (n8 : Nonempty α8) {P : α1 → α2 → α3 → α4 → α5 → α6 → α7 → α8 → Prop} (h : P (E8_1 n1 n2 n3 n4 n5 n6 n7 n8 P) (E8_2 n1 n2 n3 n4 n5 n6 n7 n8 P) (E8_3 n1 n2 n3 n4 n5 n6 n7 n8 P) (E8_4 n1 n2 n3 n4 n5 n6 n7 n8 P) (E8_5 n1 n2 n3 n4 n5 n6 n7 n8 P) (E8_6 n1 n2 n3 n4 n5 n6 n7 n8 P) (E8_7 n1 n2 n3 n4 n5 n6 n7 n8 P) (E8_8 n1 n2 n3 n4 n5 n6 n7 n8 P)) : ∀ x1 x2 x3 x4 x5 x6 x7 x8, P x1 x2 x3 x4 x5 x6 x7 x8 :=
  fun x1 x2 x3 x4 x5 x6 x7 x8 => eps1 (α := α1 × α2 × α3 × α4 × α5 × α6 × α7 × α8) ⟨⟨Classical.choice n1, Classical.choice n2, Classical.choice n3, Classical.choice n4, Classical.choice n5, Classical.choice n6, Classical.choice n7, Classical.choice n8⟩⟩ (P := fun p => P p.1 p.2.1 p.2.2.1 p.2.2.2.1 p.2.2.2.2.1 p.2.2.2.2.2.1 p.2.2.2.2.2.2.1 p.2.2.2.2.2.2.2) h (x1, x2, x3, x4, x5, x6, x7, x8)
noncomputable def ET (P : Type → Prop) : Type := @Classical.epsilon Type ⟨Nat⟩ (fun x => ¬ P x)
theorem epsT {P : Type → Prop} (h : P (ET P)) : ∀ x, P x := by
  intro x
  by_cases hx : P x
  · exact hx
  · exact absurd h (@Classical.epsilon_spec Type (fun x => ¬ P x) ⟨x, hx⟩)
theorem neW : Nonempty World := ⟨aWorld 1⟩
theorem neS : Nonempty Shared := ⟨{}⟩
theorem neG : Nonempty GenState := ⟨.running⟩
theorem neA : Nonempty Around := ⟨callerA⟩
theorem neC : Nonempty Scope := by first | infer_instance | exact ⟨{}⟩
end Mine
end
section -- LEFT
namespace Mine
theorem offLEFT : True := by
  w_top off
  exact trivial
noncomputable def AS : List Addr := [2, 3, 32, 34, 35, 37, 38, 39, 41, 42, 44, 45, 46, 48, 49, 51, 52, 53, 55, 56, 58, 59, 60, 63, 65, 66, 68, 69, 70, 72, 73, 75, 76, 77, 79, 80, 82, 83, 87, 88, 92, 93, 101, 102, 104, 105, 107, 108, 109, 111, 112, 114, 115, 116, 118, 119, 121, 122, 123, 125, 126, 128, 129, 130, 133, 134, 135, 137, 138, 140, 141, 142, 144, 145, 147, 148, 149, 152, 153, 154, 155, 157, 158, 160, 161, 162, 165, 166, 167, 170, 171, 172, 174, 175, 177, 178, 179, 181, 182, 184, 185, 186, 189, 190, 191, 193, 194, 196, 197, 198, 200, 201, 203, 204, 205, 207, 208, 210, 211, 212, 213, 214, 215, 216, 219, 221, 222, 224, 225, 226, 228, 229, 231, 232, 233, 235, 236, 238, 239, 240, 242, 243, 245, 246, 247, 250, 251, 252, 255, 256, 257, 259, 260, 262, 263, 264, 267, 268]
noncomputable abbrev LeftAt (w : World) : Prop := (openEnds treeTable PySem.Challenge.pw_sh0069_01 w 5792).map (fun s => (openSeen VW LL (importedModules PySem.Challenge.pw_sh0069_01.main.body) XT true s, AS.map s.heap.get?)) = some (openGood VW LL, (hd.heap_1 w.params).map fun p => some p.2)
theorem leftF (w : World) : LeftAt (w.withFollow "special-get-raises" false) := by
  delta LeftAt openEnds fencedOpening topFrom
  rw [PySem.W.Fast.te10274390034422433532, PySem.W.Fast.te14289696077712309145, PySem.W.Fast.te1435165496053646825, PySem.W.Fast.te14082659384304107361, PySem.W.Fast.te14364793385576792824]
  kernel_rfl
theorem leftT (w : World) : LeftAt (w.withFollow "special-get-raises" true) := by
  delta LeftAt openEnds fencedOpening topFrom
  rw [PySem.W.Fast.te10274390034422433532, PySem.W.Fast.te14289696077712309145, PySem.W.Fast.te1435165496053646825, PySem.W.Fast.te14082659384304107361, PySem.W.Fast.te14364793385576792824]
  kernel_rfl
theorem left (w : World) : LeftAt w := byRow2 "special-get-raises" leftF leftT w
end Mine
end
section -- BASE
namespace Mine
theorem offBASE : True := by
  w_top off
  exact trivial
noncomputable abbrev PG : Program := PySem.Challenge.rw_sh0069_01.row.prog
noncomputable abbrev KH (w : World) : Frag := hd.heap_1 w.params
noncomputable abbrev LO : List Str := looseW VW LL
end Mine
end
section -- GEN0
namespace Mine
theorem offGEN0 : True := by
  w_top off
  exact trivial
open PySem.W.X

section
variable {prog : Program} {w : World} {A : Around} {c : Code} {fs : List Frame} {P : End → Shared → Prop} {s : Shared} {env : Env}
  {K : Flow → Sem Fin} {H : Value → Sem Fin} {gd : Bool → Bool} {lv : List Value → List Value}

theorem sx_wrap {α : Type} {m : Sem α} {K : α → Sem Fin} {H : Value → Sem Fin} {gd lv}
    (h : wpAny (model prog w) (A.over c fs) m (fun a s' => SegX (model prog w) A c (K a) fs s' P) (fun _ _ => False) s) :
    SegX (model prog w) A c (m.wrap K H gd lv) fs s P := by
  rintro Γ p rfl hΓ
  obtain ⟨e, s', hr, hq⟩ := runs_wrap_of_wp (Φ := fun e s' => e.quiet = true ∧ P e s') K H gd lv m (h (Γ.over fs) p (hΓ.over fs))
    (fun a p' s' h' => h' Γ p' rfl hΓ) (fun x p' s' h' => h'.elim)
  exact ⟨e, s', hr, hq⟩

theorem sx_at {p' : Pos} {k : Unit → Sem Fin} (h : SegX (model prog w) A c (k ()) fs s P) : SegX (model prog w) A c (.at p' k) fs s P :=
  sx_wrap (m := standAt p') (K := k) (H := .raise) (gd := id) (lv := id) (wpAny_standAt h)
theorem sx_point {l : List Value} {k : Unit → Sem Fin} (h : SegX (model prog w) A c (k ()) fs s P) : SegX (model prog w) A c (.point l k) fs s P :=
  sx_wrap (m := point) (K := k) (H := .raise) (gd := id) (lv := fun _ => l) (wpAny_point h)

theorem sx_bind {α β : Type} {m : Sem α} {f : α → Sem β} {K : β → Sem Fin} {H : Value → Sem Fin} {gd lv}
    (h : wpAny (model prog w) (A.over c fs) m (fun a s' => SegX (model prog w) A c ((f a).wrap K H gd lv) fs s' P) (fun _ _ => False) s) :
    SegX (model prog w) A c ((m >>= f).wrap K H gd lv) fs s P := by
  rw [Sem.bind_eq_wrap', Sem.wrap_wrap]; exact sx_wrap h

theorem sx_nil (h : SegX (model prog w) A c (K .next) fs s P) : SegX (model prog w) A c ((execs [] env).wrap K H gd lv) fs s P := h

theorem sx_cons {st : Stmt} {rest : List Stmt}
    (h : SegX (model prog w) A c ((exec st env).wrap (fun f => match f with | .next => (execs rest env).wrap K H gd lv | f => K f) H gd lv) fs s P) :
    SegX (model prog w) A c ((execs (st :: rest) env).wrap K H gd lv) fs s P := by rw [execs_cons_wrap]; exact h

theorem sx_If {test : Expr} {body orelse : List Stmt} {pos : Pos}
    (h : wpAny (model prog w) (A.over c fs) (isTrue test env (eval test env)) (fun b s' => SegX (model prog w) A c ((execs (if b = true then body else orelse) env).wrap K H gd lv) fs s' P) (fun _ _ => False) s) :
    SegX (model prog w) A c ((exec (.If test body orelse pos) env).wrap K H gd lv) fs s P := by
  rw [exec_If]
  show SegX (model prog w) A c (.at pos fun _ => ((isTrue test env (eval test env)) >>= fun b => if b = true then execs body env else execs orelse env).wrap K H gd lv) fs s P
  refine sx_at ?_
  rw [Sem.bind_eq_wrap', Sem.wrap_wrap]
  refine sx_wrap (wpAny_mono h (fun b s' h' => ?_) fun _ _ x => x)
  cases b <;> exact h'

theorem sx_Yield {e : Expr} {ypos pos : Pos} (hfs : splitAtGen fs = none) (hgd : gd false = false) (hfg : fs.any Frame.guarded = false)
    (h : wpAny (model prog w) (A.over c fs) (eval e env) (fun v s' => ∀ l k p, k (.send .none) = K .next → P (.susp v false l k c p fs) s') (fun _ _ => False) s)
    (hco : env.scope.isCoroutine = false := by rfl) (hi : interactive env = false := by rfl) :
    SegX (model prog w) A c ((exec (.Expr (.Yield (some e) ypos) pos) env).wrap K H gd lv) fs s P := by
  rw [exec_Expr env _ pos hi rfl]
  show SegX (model prog w) A c (.at pos fun _ => ((eval e env >>= fun v => (standAt ypos >>= fun _ => yieldOut env v)) >>= fun x =>
    dropValue (.Yield (some e) ypos) pos x).wrap K H gd lv) fs s P
  have hy : ∀ v, yieldOut env v = yieldValue v := fun v => by simp only [yieldOut, hco, Bool.false_eq_true, if_false]
  simp only [hy]
  refine sx_at ?_
  rw [Sem.bind_eq_wrap', Sem.bind_eq_wrap', Sem.wrap_wrap, Sem.wrap_wrap]
  refine sx_wrap (wpAny_mono h (fun v s' h' => ?_) fun _ _ x => x)
  refine sx_at ?_
  show SegX (model prog w) A c (.yield v (gd false) _ _) fs s' P
  rw [hgd]
  exact s_yield prog w A c fs P s' v _ _ hfs hfg fun p => h' _ _ p rfl

/-- the frame that waits for a for loop -/
noncomputable abbrev forFr (K : Flow → Sem Fin) (H : Value → Sem Fin) (gd : Bool → Bool) (lv : List Value → List Value) (env : Env) (c : Code) (p : Pos) : Frame :=
  .ret (fun r => ((match r with | .ok f => (.pure f : Sem Flow) | .error e => .raise e).onRaise fun (x : Value) => do
        if (← field x 1) == Value.none then unsupported "frame.own-activation:exception-without-traceback"
        setFlight x env.frame).wrap K H gd lv) none (gd false) (lv []) c p []

theorem sx_For {target iter : Expr} {body orelse : List Stmt} {pos : Pos}
    (h : wpAny (model prog w) (A.over c fs) (eval iter env) (fun x s₁ => wpAny (model prog w) (A.over c fs) (pyIter x) (fun it s₂ =>
      ∀ p, SegX (model prog w) A (.forLoop target it body orelse env) (denote table (.forLoop target it body orelse env)) (forFr K H gd lv env c p :: fs) s₂ P) (fun _ _ => False) s₁) (fun _ _ => False) s)
    (hs : ∀ x, foldedSetIterable iter env x = pure x := by intro _; rfl) :
    SegX (model prog w) A c ((exec (.For target iter body orelse pos) env).wrap K H gd lv) fs s P := by
  rw [exec_For]
  refine sx_bind (wpAny_standAt (sx_bind (wpAny_mono h (fun x s₁ h₁ => ?_) fun _ _ e => e)))
  refine sx_bind (wpAny_of_eq (hs x) (sx_bind (wpAny_standAt (sx_bind (wpAny_holding (wpAny_mono h₁ (fun it s₂ h₂ => ?_) fun _ _ e => e))))))
  exact s_call prog w A c fs P s₂ _ _ _ _ _ h₂

theorem sx_forTurn {target : Expr} {it : Value} {body orelse : List Stmt}
    (h : wpAny (model prog w) (A.over (.forLoop target it body orelse env) fs) (pyNext it) (fun r s₁ => match r with
      | none => SegX (model prog w) A (.block orelse env) (denote table (.block orelse env)) fs s₁ P
      | some v => wpAny (model prog w) (A.over (.forLoop target it body orelse env) fs) (letOwnedTupleGo target it v) (fun _ s₂ =>
          wpAny (model prog w) (A.over (.forLoop target it body orelse env) fs) (assign target env v) (fun _ s₃ =>
            ∀ H gd lv, gd false = false → SegX (model prog w) A (.forLoop target it body orelse env) ((execs body env).wrap (fun f => match f with
              | .next | .cont => .pure (.again (.forLoop target it body orelse env))
              | .brk => .pure (.done .next)
              | .ret v => .pure (.done (.ret v))) H gd lv) fs s₃ P) (fun _ _ => False) s₂) (fun _ _ => False) s₁) (fun _ _ => False) s) :
    SegX (model prog w) A (.forLoop target it body orelse env) (denote table (.forLoop target it body orelse env)) fs s P := by
  show SegX _ A _ ((forTurn target it body orelse env).onRaise (fun x => do noteFrame x env; theTreesLotGoes x)) fs s P
  unfold forTurn
  rw [Sem.onRaise_eq_wrap]
  refine sx_bind (wpAny_standAt (sx_bind (wpAny_onRaise (wpAny_mono h (fun r s₁ h₁ => ?_) fun _ _ e => e.elim))))
  cases r with
  | none => exact s_again prog w A _ fs P s₁ _ rfl h₁
  | some v =>
    refine sx_bind (wpAny_mono h₁ (fun _ s₂ h₂ => sx_bind (wpAny_mono h₂ (fun _ s₃ h₃ => ?_) fun _ _ e => e)) fun _ _ e => e)
    rw [Sem.bind_eq_wrap', Sem.wrap_wrap]
    have z := h₃ (fun e => ((Sem.raise e : Sem Fin).wrap .pure (fun e => (do noteFrame e env; theTreesLotGoes e : Sem Unit).bind fun _ => .raise e) id id)) (fun g => id (id g)) (fun l => id (id l)) rfl
    rw [Sem.wrap_congr (execs body env) _ _ (K' := fun f => match f with
              | .next | .cont => .pure (.again (.forLoop target it body orelse env))
              | .brk => .pure (.done .next)
              | .ret v => .pure (.done (.ret v)))  (fun f => by cases f <;> rfl) (fun e => rfl)]
    exact z

theorem sx_blockNil {k hd g l c₁ p₁ kp} (h : SegX (model prog w) A c₁ (k (.ok .next)) fs s P) :
    SegX (model prog w) A (.block [] env) (denote table (.block [] env)) (.ret k hd g l c₁ p₁ kp :: fs) s P :=
  s_pop prog w A _ fs P s (.ok .next) _ rfl k hd g l c₁ p₁ kp h

theorem sx_forEnd {p : Pos} (h : SegX (model prog w) A c (K .next) fs s P) :
    SegX (model prog w) A (.block [] env) (denote table (.block [] env)) (forFr K H gd lv env c p :: fs) s P := sx_blockNil h

theorem sx_func {body : List Stmt}
    (h : ∀ H, SegX (model prog w) A (.func body env) ((execs body env).wrap (fun f => .pure (.done (.ret (match f with | .ret v => v | _ => .none)))) H id id) fs s P) :
    SegX (model prog w) A (.func body env) (denote table (.func body env)) fs s P := by
  show SegX _ A _ (.point [] fun _ => ((execs body env).onRaise (leaving env)) >>= _) fs s P
  refine sx_point ?_
  rw [Sem.onRaise_eq_wrap, Sem.bind_eq_wrap', Sem.wrap_wrap]
  rw [Sem.wrap_congr (execs body env) _ _ (K' := fun f => .pure (.done (.ret (match f with | .ret v => v | _ => .none))))
    (H' := fun e => (leaving env e).wrap (fun _ => .raise e) .raise id id) (fun f => by cases f <;> rfl)
    (fun e => by rw [Sem.bind_eq_wrap, Sem.wrap_wrap]; rfl)]
  exact h _
end
end Mine
end
section -- GEN1
namespace Mine
theorem offGEN1 : True := by
  w_top off
  exact trivial
open PySem.W.X

noncomputable def RoomA (A : Around) : Prop := A.handled = none ∧ A.depth + 8 < recursionLimit ∧ A.units + 64 < cLine
noncomputable def Steps (prog : Program) (w : World) (gs : GenState) (A : Around) (s : Shared) (P : End → Shared → Prop) : Prop :=
  match gs with
  | .fresh c => SegX (model prog w) A c (denote table c) [] s P
  | .suspended k _ c _ fs _ => SegX (model prog w) A c (k (.send .none)) fs s P
  | _ => False
noncomputable def Only (W : List Addr) (s s' : Shared) : Prop := ∃ h' tk, s' = { s with heap := h', toks := tk } ∧ ∀ b o, b ∉ W → s.heap.get? b = some o → h'.get? b = some o
noncomputable def Stays (W : List Addr) (Own : Heap → Prop) : Prop := ∀ h h', Own h → (∀ b ∈ W, ∀ o, h.get? b = some o → h'.get? b = some o) → Own h'
noncomputable abbrev pairO (i : Int) (t1 : Tok) (c : Str) (t2 : Tok) : Obj := { cls := .type "tuple", data := .seq #[.int i t1, .str c t2] }
noncomputable def Stream (prog : Program) (w : World) (hb : Heap) : List (Int × Str) → List Addr → (Heap → Prop) → GenState → Prop
  | [], W, Own, gs => ∀ A s, RoomA A → (∀ b o, hb.get? b = some o → s.heap.get? b = some o) → Own s.heap → Steps prog w gs A s (fun e s' => e = .ret (.ok (.ret .none)) ∧ Only W s s')
  | x :: r, W, Own, gs => ∀ A s, RoomA A → (∀ b o, hb.get? b = some o → s.heap.get? b = some o) → Own s.heap →
      Steps prog w gs A s (fun e s' => ∃ T l k c p fs t1 t2 W' Own', e = .susp (.ref T) false l k c p fs ∧ fs.any Frame.guarded = false ∧ s'.heap.get? T = some (pairO x.1 t1 x.2 t2) ∧
        (∀ b ∈ W', b ∈ W ∨ s.heap.get? b = none) ∧ T ∉ W' ∧ Only W s s' ∧ Own' s'.heap ∧ Stays W' Own' ∧ Stream prog w hb r W' Own' (.suspended k l c p fs false))

section
variable {prog : Program} {w : World} {A : Around} {E : Value → Shared → Prop} {s : Shared}

theorem wpAny_resumeX {α : Type} {g : Nat} {gs : GenState} {l : List Value} {k : GenResult → Sem α} {Q : α → Shared → Prop} (hg : s.gens[g]? = some gs)
    (x : Steps prog w gs A (s.setGen g .running) (fun e s₁ => wpAny (model prog w) A (k e.result) Q E (s₁.setGen g e.genState))) :
    wpAny (model prog w) A (.resume g (.send .none) l k) Q E s := by
  cases gs with
  | running => exact x.elim
  | finished => exact x.elim
  | fresh c => exact wake_any α prog w hg (.inl ⟨rfl, rfl, rfl, rfl⟩) (fun Γ => Γ.In A) (fun _ h => h) (x.mono fun _ _ h Γ p hC => h Γ p hC)
  | suspended k₀ l₀ c₀ p₀ fs₀ cl => exact wake_any α prog w hg (.inr ⟨k₀, l₀, p₀, cl, rfl, rfl⟩) (fun Γ => Γ.In A) (fun _ h => h) (x.mono fun _ _ h Γ p hC => h Γ p hC)

theorem RoomA.in1 (h : RoomA A.in1) : RoomA A := ⟨h.1, h.2.1, by have : A.units + 1 + 64 < cLine := h.2.2; omega⟩

theorem Steps.mono {gs : GenState} {P P' : End → Shared → Prop} (x : Steps prog w gs A s P) (h : ∀ e s', P e s' → P' e s') : Steps prog w gs A s P' := by
  cases gs with
  | running => exact x
  | finished => exact x
  | fresh c => exact SegX.mono x h
  | suspended k₀ l₀ c₀ p₀ fs₀ cl => exact SegX.mono x h

theorem Steps.live {gs : GenState} {P : End → Shared → Prop} (x : Steps prog w gs A s P) : gs.status = .fresh ∨ gs.status = .suspended := by
  cases gs with
  | running => exact x.elim
  | finished => exact x.elim
  | fresh c => exact .inl rfl
  | suspended k₀ l₀ c₀ p₀ fs₀ cl => exact .inr rfl

theorem next_gen {a : Addr} {g : Nat} {gs : GenState} {P : End → Shared → Prop} {Q : Option Value → Shared → Prop} (hA : RoomA A.in1)
    (hl : s.heap.NoLimit) (hg : s.heap.IsGen a g) (hgs : s.gens[g]? = some gs)
    (x : Steps prog w gs A.in1 (s.setGen g .running) P)
    (hY : ∀ v l k c p fs s₁, P (.susp v false l k c p fs) s₁ → Q (some v) (s₁.setGen g (.suspended k l c p fs (false || fs.any Frame.guarded))))
    (hN : ∀ s₁, P (.ret (.ok (.ret .none))) s₁ → ∀ h', (∀ b o, s₁.heap.get? b = some o → h'.get? b = some o) → Q none { s₁.setGen g .finished with heap := h' })
    (hP : ∀ e s₁, P e s₁ → (∃ v l k c p fs, e = .susp v false l k c p fs) ∨ e = .ret (.ok (.ret .none))) :
    wpAny (model prog w) A (pyNext (.ref a)) Q E s := by
  revert hA hl hg hgs x hY hN hP
  revert prog w A E s a g gs P Q
  refine @eps8 _ _ _ _ _ _ _ _ inferInstance neW neA inferInstance neS inferInstance inferInstance neG _ ?_; generalize E8_1 _ _ _ _ _ _ _ _ _ = prog; generalize E8_2 _ _ _ _ _ _ _ _ _ = w; generalize E8_3 _ _ _ _ _ _ _ _ _ = A; generalize E8_4 _ _ _ _ _ _ _ _ _ = E; generalize E8_5 _ _ _ _ _ _ _ _ _ = s; generalize E8_6 _ _ _ _ _ _ _ _ _ = a; generalize E8_7 _ _ _ _ _ _ _ _ _ = g; generalize E8_8 _ _ _ _ _ _ _ _ _ = gs
  refine @eps2 _ _ inferInstance inferInstance _ ?_; generalize E2_1 _ _ _ = P; generalize E2_2 _ _ _ = Q
  intro hA hl hg hgs x hY hN hP
  unfold pyNext
  refine wpAny_bind (wpAny_attempt (wpAny_callSpecial?_slot (name := Str.ofString "__next__") hg.typeIs slot_gen_next
    (wpAny_call_entry slot_gen_next hg.typeIs entry_gen_next ?_ (args_gen_next _))))
  show wpAny _ A.in1 (Builtin.Generator.genWake (.ref a) (.send .none)) _ _ s
  unfold Builtin.Generator.genWake
  refine wpAny_bind (wpAny_holding (wpAny_genNumber hg (wpAny_bind (wpAny_genState hgs ?_))))
  cases gs with
  | running => exact x.elim
  | finished => exact x.elim
  | _ =>
    refine wpAny_bind (wpAny_roomToWake hl (by have := hA.2.1; omega) ?_)
    show wpAny _ A.in1 (.resume g (.send .none) [] _) _ _ s
    refine wpAny_resumeX hgs (Steps.mono x fun e s₁ hx => ?_)
    rcases hP e s₁ hx with ⟨v, l, k, c, p, fs, rfl⟩ | rfl
    · exact wpAny_pure ⟨v, rfl, wpAny_pure (hY v l k c p fs s₁ hx)⟩
    · show wpAny _ A.in1 (newExc (.type "StopIteration") [] >>= _) _ _ _
      refine wpAny_bind ?_
      simp only [newExc, newTuple]
      refine wpAny_bind (wpAny_newObj_type ?_ (by size_fits))
      refine wpAny_bind (m := firstArgMember _ _) (wpAny_of_eq (a := Value.none) (by first | rfl | (simp only [firstArgMember]; rfl)) ?_)
      refine wpAny_newObj_type ?_ (by size_fits)
      simp only [raiseNew]
      refine wpAny_bind (wpAny_bind (wpAny_handled ?_))
      rw [hA.1]
      refine wpAny_throw ?_
      refine wpAny_bind (wpAny_isInstance (T := "StopIteration") (b := true) ⟨_, Heap.get?_push_size _ rfl, rfl⟩ isSubtype_stop ?_)
      exact wpAny_pure (hN s₁ hx _ fun b o hb => Heap.get?_push_of_some _ (Heap.get?_push_of_some _ hb))
end

/-- gens may grow, what stood stands -/
noncomputable def GMore (a b : Array GenState) : Prop := (∀ (i : Nat) (x : GenState), a[i]? = some x → b[i]? = some x) ∧ (AllBare a → AllBare b)
theorem GMore.refl (a : Array GenState) : GMore a a := ⟨fun _ _ h => h, id⟩
theorem GMore.trans {a b c : Array GenState} (x : GMore a b) (y : GMore b c) : GMore a c := ⟨fun i z h => y.1 i z (x.1 i z h), fun h => y.2 (x.2 h)⟩
theorem GMore.push {a : Array GenState} {g : GenState} (h : g.bare = true) : GMore a (a.push g) :=
  ⟨fun i x e => by rw [Array.getElem?_push]; split <;> simp_all, fun x => x.push h⟩
theorem AllBare.set {a : Array GenState} {g : Nat} {x : GenState} (h : AllBare a) (hx : x.bare = true) : AllBare (a.setIfInBounds g x) := fun y hy => by
  rcases Array.mem_or_eq_of_mem_setIfInBounds hy with h' | rfl
  · exact h y h'
  · exact hx
theorem GMore.set {a b : Array GenState} {g : Nat} {x : GenState} (h : GMore a b) (hg : a.size ≤ g) (hx : x.bare = true) : GMore a (b.setIfInBounds g x) :=
  ⟨fun i y e => by
    have hi : i < a.size := (Array.getElem?_eq_some_iff.mp e).1
    rw [Array.getElem?_setIfInBounds]
    have : g ≠ i := by omega
    simp [this, h.1 i y e], fun q => AllBare.set (h.2 q) hx⟩

section
variable {prog : Program} {w : World} {A : Around} {s : Shared} {env : Env} {h₀ : Heap}

theorem letGo_gen {elts : List Expr} {k : Nat} {pos : Pos} {a T : Addr} {g : Nat} {Q : Unit → Shared → Prop} {E : Value → Shared → Prop} (hg : s.heap.IsGen a g) (h : Q () s) :
    wpAny (model prog w) A (letOwnedTupleGo (.Tuple elts k pos) (.ref a) (.ref T)) Q E s := by
  obtain ⟨o, nm, qn, ho, hc, hd, hsl⟩ := hg
  unfold letOwnedTupleGo
  refine wpAny_bind (wpAny_load ho ?_)
  rw [hc, hd]
  exact wpAny_pure h

structure GenSt (prog : Program) (w : World) (h₀ : Heap) (L : Addr) (G₀ : Array GenState) (nw : List (Addr × Obj)) (a : Addr) (g : Nat) (items : List (Int × Str)) (s : Shared) : Prop where
  gen : s.heap.IsGen a g
  size : G₀.size ≤ g
  more : GMore G₀ s.gens
  off : (∀ p ∈ nw, p.1 ≠ a) ∧ a ≠ L ∧ h₀.get? a = none
  st : ∃ gs W Own, s.gens[g]? = some gs ∧ Own s.heap ∧ Stays W Own ∧ (∀ b ∈ W, (∀ p ∈ nw, p.1 ≠ b) ∧ b ≠ L ∧ b ≠ a ∧ h₀.get? b = none) ∧ Stream prog w h₀ items W Own gs

/-- how a turn ends -/
noncomputable def TurnEnd (h₀ : Heap) (L : Addr) (own nw : List (Addr × Obj)) (J : (Str → Option Value) → List (Addr × Obj) → Prop) (s₁ s₂ : Shared) : Prop :=
  ∃ h' tk g' m' nw', s₂ = { s₁ with heap := h', toks := tk, gens := g' } ∧ Fr h₀ L h' m' ∧ News h₀ L h' (nw' ++ own) ∧ nw'.map (·.1) = nw.map (·.1) ∧ GMore s₁.gens g' ∧ J m' nw'

theorem for_stream {xi xc : Str} {pk pv pt : Pos} {x1 : Nat} {body : List Stmt} {m : Str → Option Value} {nw : List (Addr × Obj)} {G₀ : Array GenState} {a : Addr} {g : Nat} {items : List (Int × Str)} {Q : Flow → Shared → Prop} {RE : Value → Shared → Prop}
    (hA : RoomA A.in1) (hlim : h₀.NoLimit)
    (hxi : env.kindOf xi = some .local) (hxc : env.kindOf xc = some .local)
    (hp : (env.scope.kind == .class || (env.scope.kind == .module && env.locals != env.globals)) = false)
    (F : Fr h₀ env.locals s.heap m) (N : News h₀ env.locals s.heap nw) (G : GenSt prog w h₀ env.locals G₀ nw a g items s)
    (J : List (Int × Str) → (Str → Option Value) → List (Addr × Obj) → Prop) (hj : J items m nw)
    (turn : ∀ i c rest m₁ nw₁ own h₁ tk₁ g₁ ti tc (E' : Value → Shared → Prop), nw₁.map (·.1) = nw.map (·.1) → OwnOff own (nw.map (·.1)) → J ((i, c) :: rest) m₁ nw₁ → GMore G₀ g₁ →
      Fr h₀ env.locals h₁ (fun y => if y = xc then some (.str c tc) else if y = xi then some (.int i ti) else m₁ y) → News h₀ env.locals h₁ (nw₁ ++ own) →
      wpAny (model prog w) A (execs body env) (fun f s₂ => match f with
        | .ret v => Q (.ret v) s₂
        | .brk => Q .next s₂
        | _ => TurnEnd h₀ env.locals own nw (J rest) { s with heap := h₁, toks := tk₁, gens := g₁ } s₂) E' { s with heap := h₁, toks := tk₁, gens := g₁ })
    (done : ∀ m' nw' h' tk' g', J [] m' nw' → nw'.map (·.1) = nw.map (·.1) → GMore G₀ g' → Fr h₀ env.locals h' m' → News h₀ env.locals h' nw' → Q .next { s with heap := h', toks := tk', gens := g' }) :
    codeAny (model prog w) A (.forLoop (.Tuple [.Name xi pk, .Name xc pv] x1 pt) (.ref a) body [] env) (fun r s' => match r with | .ok f => Q f s' | .error e => RE e s') s := by
  revert hA hlim hxi hxc hp F N G hj turn done
  revert prog w A s env h₀ xi xc pk pv pt x1 body m nw G₀ a g items Q RE J
  refine @eps8 _ _ _ _ _ _ _ _ inferInstance neW neA neS inferInstance inferInstance inferInstance inferInstance _ ?_; generalize E8_1 _ _ _ _ _ _ _ _ _ = prog; generalize E8_2 _ _ _ _ _ _ _ _ _ = w; generalize E8_3 _ _ _ _ _ _ _ _ _ = A; generalize E8_4 _ _ _ _ _ _ _ _ _ = s; generalize E8_5 _ _ _ _ _ _ _ _ _ = env; generalize E8_6 _ _ _ _ _ _ _ _ _ = h₀; generalize E8_7 _ _ _ _ _ _ _ _ _ = xi; generalize E8_8 _ _ _ _ _ _ _ _ _ = xc
  refine @eps8 _ _ _ _ _ _ _ _ inferInstance inferInstance inferInstance inferInstance inferInstance inferInstance inferInstance inferInstance _ ?_; generalize E8_1 _ _ _ _ _ _ _ _ _ = pk; generalize E8_2 _ _ _ _ _ _ _ _ _ = pv; generalize E8_3 _ _ _ _ _ _ _ _ _ = pt; generalize E8_4 _ _ _ _ _ _ _ _ _ = x1; generalize E8_5 _ _ _ _ _ _ _ _ _ = body; generalize E8_6 _ _ _ _ _ _ _ _ _ = m; generalize E8_7 _ _ _ _ _ _ _ _ _ = nw; generalize E8_8 _ _ _ _ _ _ _ _ _ = G₀
  refine @eps6 _ _ _ _ _ _ inferInstance inferInstance inferInstance inferInstance inferInstance inferInstance _ ?_; generalize E6_1 _ _ _ _ _ _ _ = a; generalize E6_2 _ _ _ _ _ _ _ = g; generalize E6_3 _ _ _ _ _ _ _ = items; generalize E6_4 _ _ _ _ _ _ _ = Q; generalize E6_5 _ _ _ _ _ _ _ = RE; generalize E6_6 _ _ _ _ _ _ _ = J
  intro hA hlim hxi hxc hp F N G hj turn done
  have hh : A.handled = none := hA.1
  refine codeAny_forLoop_any
    (fun k s' => ∃ h' tk g' m' nw' its, s' = { s with heap := h', toks := tk, gens := g' } ∧ k = its.length ∧ Fr h₀ env.locals h' m' ∧ News h₀ env.locals h' nw' ∧ nw'.map (·.1) = nw.map (·.1) ∧ J its m' nw' ∧
      GenSt prog w h₀ env.locals G₀ nw a g its s') ?_ items.length ⟨s.heap, s.toks, s.gens, m, nw, items, rfl, rfl, F, N, rfl, hj, G⟩
  rintro k s' ⟨H, tk, g', m', nw', its, rfl, rfl, F', N', ha', hJ, G'⟩
  have adr : ∀ (l : List (Addr × Obj)), l.map (·.1) = nw.map (·.1) → ∀ b : Addr, (∀ p ∈ nw, p.1 ≠ b) → ∀ p ∈ l, p.1 ≠ b := fun l hl b hb p hp => by
    have : p.1 ∈ nw.map (·.1) := hl ▸ List.mem_map.mpr ⟨p, hp, rfl⟩
    obtain ⟨q, hq, e⟩ := List.mem_map.mp this
    exact e ▸ hb q hq
  obtain ⟨hgen, hsz, hmore, hoff, gs, W, Own, hgs, hown, hst, hW, hS⟩ := G'
  have hlim' : H.NoLimit := hlim.keeps F'.keep
  have next : ∀ (V : List Addr) (h₁ : Heap), (∀ b ∈ V, (∀ p ∈ nw, p.1 ≠ b) ∧ b ≠ env.locals ∧ h₀.get? b = none) → (∀ b o, b ∉ V → H.get? b = some o → h₁.get? b = some o) → Fr h₀ env.locals h₁ m' ∧ News h₀ env.locals h₁ nw' := fun V h₁ hV hk₁ =>
    ⟨⟨F'.ns.at' fun o e => hk₁ _ o (fun hb => (hV _ hb).2.1 rfl) e, fun b o e => hk₁ b o (fun hb => by rw [(hV _ hb).2.2] at e; cases e) (F'.keep b o e), F'.above⟩,
      fun p hp => ⟨hk₁ _ _ (fun hb => adr nw' ha' _ (hV _ hb).1 p hp rfl) (N' p hp).1, (N' p hp).2⟩⟩
  have hV : ∀ b ∈ W, (∀ p ∈ nw, p.1 ≠ b) ∧ b ≠ env.locals ∧ h₀.get? b = none := fun b hb => ⟨(hW b hb).1, (hW b hb).2.1, (hW b hb).2.2.2⟩
  cases its with
  | nil =>
    refine next_gen hA hlim' hgen hgs (hS A.in1 (Shared.setGen _ g .running) hA F'.keep hown) (fun v l k c p fs s₁ h => ?_) (fun s₁ h h' hk => ?_) (fun e s₁ h => .inr h.1)
    · exact absurd h.1 (by nofun)
    · obtain ⟨_, h₁, tk₁, rfl, hk₁⟩ := h
      refine wpAny_execs_nil ?_
      obtain ⟨F₁, N₁⟩ := next W h' hV fun b o hb e => hk b o (hk₁ b o hb e)
      refine done m' nw' h' tk₁ _ hJ ha' ?_ F₁ N₁
      exact (GMore.set (GMore.set hmore hsz rfl) hsz rfl)
  | cons x rest =>
    refine next_gen hA hlim' hgen hgs (hS A.in1 (Shared.setGen _ g .running) hA F'.keep hown) (fun v l k c p fs s₁ h => ?_) (fun s₁ h h' hk => ?_) (fun e s₁ h => ?_)
    · obtain ⟨T, l', k', c', p', fs', t1, t2, W', Own', e, hfg, hT, hW', hTW, ⟨h₁, tk₁, rfl, hk₁⟩, hown', hst', hS'⟩ := h
      cases e
      replace hk₁ : ∀ b o, b ∉ W → H.get? b = some o → h₁.get? b = some o := hk₁
      replace hT : h₁.get? T = some (pairO x.1 t1 x.2 t2) := hT
      replace hW' : ∀ b ∈ W', b ∈ W ∨ H.get? b = none := hW'
      have haW : a ∉ W := fun h => (hW a h).2.2.1 rfl
      have hgen₁ : h₁.IsGen a g := let ⟨o, nm, qn, ho, r⟩ := hgen; ⟨o, nm, qn, hk₁ a o haW ho, r⟩
      obtain ⟨F₁, N₁⟩ := next W h₁ hV hk₁
      rw [hfg]
      show wpAny _ A (letOwnedTupleGo _ _ _) _ _ _
      refine letGo_gen (s := Shared.setGen _ _ _) hgen₁ ?_
      refine wpAny_assign_Tuple hh (s := Shared.setGen _ _ _) (t := T) (items := #[.int x.1 t1, .str x.2 t2]) ⟨_, hT, rfl, _, rfl⟩ rfl rfl fun h₃ hx₃ => ?_
      replace hx₃ : Heap.ExtBut h₁.objs.size h₁ h₃ := hx₃
      have up₃ : ∀ b o, h₁.get? b = some o → h₃.get? b = some o := fun b o x => hx₃ b o (Nat.ne_of_lt (Heap.lt_size x)) x
      have F₃ : Fr h₀ env.locals h₃ m' := F₁.keeps up₃
      have N₃ : News h₀ env.locals h₃ nw' := N₁.grown up₃
      show wpAny _ A (do holding [.str x.2 t2] (assign (.Name xi pk) env (.int x.1 t1)); do holding [] (assign (.Name xc pv) env (.str x.2 t2)); pure ()) _ _ _
      refine wpAny_bind (wpAny_holding (wpAny_assign_Name (wpAny_storeName_local hxi F₃.ns (fun h₄ hn₄ hs₄ => ?_) hp)))
      replace hs₄ : Heap.SameBut env.locals h₃ h₄ := hs₄
      have F₄ := F₃.set hn₄ hs₄
      refine wpAny_bind (wpAny_holding (wpAny_assign_Name (wpAny_storeName_local hxc F₄.ns (fun h₅ hn₅ hs₅ => wpAny_pure ?_) hp)))
      replace hs₅ : Heap.SameBut env.locals h₄ h₅ := hs₅
      have F₅ := F₄.set hn₅ hs₅
      have N₅ : News h₀ env.locals h₅ nw' := (N₃.set hs₄).set hs₅
      have up₅ : ∀ b o, b ≠ env.locals → h₁.get? b = some o → h₅.get? b = some o := fun b o hb e => hs₅.extBut b o hb (hs₄.extBut b o hb (up₃ b o e))
      have hgen₅ : h₅.IsGen a g := let ⟨o, nm, qn, ho, r⟩ := hgen₁; ⟨o, nm, qn, up₅ a o hoff.2.1 ho, r⟩
      have hV' : ∀ b ∈ W', (∀ p ∈ nw, p.1 ≠ b) ∧ b ≠ env.locals ∧ b ≠ a ∧ h₀.get? b = none := fun b hb => by
        rcases hW' b hb with h | h
        · exact hW b h
        · refine ⟨fun p hp => ?_, fun e => ?_, fun e => ?_, ?_⟩
          · have : p.1 ∈ nw'.map (·.1) := ha' ▸ List.mem_map.mpr ⟨p, hp, rfl⟩
            obtain ⟨q, hq, e⟩ := List.mem_map.mp this
            intro z
            have y := (N' q hq).1
            rw [e, z, h] at y; cases y
          · subst e
            obtain ⟨o, _, _, ho, _⟩ := F'.ns
            rw [h] at ho; cases ho
          · subst e
            obtain ⟨o, nm, qn, ho, r⟩ := hgen
            replace ho : H.get? b = some o := ho
            rw [h] at ho; cases ho
          · cases q : h₀.get? b with
            | none => rfl
            | some o => have y := F'.keep b o q; rw [h] at y; cases y
      have hown₅ : Own' h₅ := hst' _ _ hown' fun b hb o e => up₅ b o (hV' b hb).2.1 e
      let own := ownOf h₀ (a :: W') h₅
      have hLf : env.locals ∉ a :: W' := fun h => by
        rcases List.mem_cons.mp h with e | h
        · exact hoff.2.1 e.symm
        · exact (hV' _ h).2.1 rfl
      have N₆ : News h₀ env.locals h₅ (nw' ++ own) := N₅.append (news_ownOf hLf)
      have hoo : OwnOff own (nw.map (·.1)) := fun p hp b hb e => by
        obtain ⟨q, hq, rfl⟩ := List.mem_map.mp hb
        rcases List.mem_cons.mp (ownOf_sub p hp) with h | h
        · exact hoff.1 q hq (e.symm.trans h)
        · exact (hV' _ h).1 q hq e.symm
      refine wpAny_mono (turn x.1 x.2 rest m' nw' own h₅ _ _ t1 t2 _ ha' hoo hJ (GMore.set (GMore.set hmore hsz rfl) hsz rfl) F₅ N₆) (fun f s₃ h₆ => ?_) fun _ _ e => e
      have fin : ∀ tk₅, TurnEnd h₀ env.locals own nw (J rest) { s with heap := h₅, toks := tk₅, gens := (g'.setIfInBounds g .running).setIfInBounds g (.suspended k l c p fs (false || false)) } s₃ → ∃ m_1, m_1 < (x :: rest).length ∧ ∃ h' tk g' m' nw' its, s₃ = { s with heap := h', toks := tk, gens := g' } ∧ m_1 = its.length ∧ Fr h₀ env.locals h' m' ∧ News h₀ env.locals h' nw' ∧ nw'.map (·.1) = nw.map (·.1) ∧ J its m' nw' ∧ GenSt prog w h₀ env.locals G₀ nw a g its s₃ := by
        rintro tk₅ ⟨h₆', tk₆, g₆, m₂, nw₂, rfl, F₆, N₆', ha₆, hG₆, hJ₆⟩
        have old : ∀ b o, (b ∈ a :: W') → h₅.get? b = some o → h₆'.get? b = some o := fun b o hb e =>
          (N₆' _ (List.mem_append_right _ (mem_ownOf hb (by
            rcases List.mem_cons.mp hb with rfl | hb
            · exact hoff.2.2
            · exact (hV' _ hb).2.2.2) e))).1
        refine ⟨rest.length, by simp, h₆', tk₆, g₆, m₂, nw₂, rest, rfl, rfl, F₆, fun p hp => N₆' p (List.mem_append_left _ hp), ha₆, hJ₆, ?_, hsz, ?_, hoff, ?_⟩
        · exact let ⟨o, nm, qn, ho, r⟩ := hgen₅; ⟨o, nm, qn, old a o (List.mem_cons_self ..) ho, r⟩
        · exact (GMore.set (GMore.set hmore hsz rfl) hsz rfl).trans hG₆
        · refine ⟨_, W', Own', hG₆.1 g _ (setGen_self (gs := .running) (setGen_self hgs)), hst' _ _ hown₅ fun b hb o e => old b o (List.mem_cons_of_mem _ hb) e, hst', hV', hS'⟩
      cases f with
      | ret v => exact h₆
      | brk => exact h₆
      | cont => exact fin _ h₆
      | next => exact fin _ h₆
    · exact absurd h (by rintro ⟨T, l', k', c', p', fs', t1, t2, W', Own', e, _⟩; cases e)
    · obtain ⟨T, l', k', c', p', fs', t1, t2, W', Own', e, _⟩ := h
      exact .inl ⟨_, _, _, _, _, _, e⟩
end
end Mine
end
section -- GEN2
namespace Mine
theorem offGEN2 : True := by
  w_top off
  exact trivial
open PySem.W.X

noncomputable def esc : Bool → Nat → List Nat → List (Int × Str)
  | false, _, [] => []
  | true, i, [] => [((i : Int) - 1, ⟨#[92]⟩)]
  | true, i, c :: cs => ((i : Int), ⟨#[92, c]⟩) :: esc false (i + 1) cs
  | false, i, c :: cs => if c = 92 then esc true (i + 1) cs else ((i : Int), ⟨#[c]⟩) :: esc false (i + 1) cs

noncomputable abbrev mp (ch pos esc : Option Value) (x : Str) (t : Tok) : Str → Option Value := fun y => if y = Str.ofString "ch" then ch else if y = Str.ofString "pos" then pos else if y = Str.ofString "escape" then esc else if y = Str.ofString "addr" then some (.str x t) else none
theorem mp_ch {ch pos e : Option Value} {x : Str} {t : Tok} {v : Option Value} : (fun y => if y = Str.ofString "ch" then v else mp ch pos e x t y) = mp v pos e x t := by
  funext y; unfold mp; by_cases h : y = Str.ofString "ch" <;> simp [h]
theorem mp_pos {ch pos e : Option Value} {x : Str} {t : Tok} {v : Option Value} : (fun y => if y = Str.ofString "pos" then v else mp ch pos e x t y) = mp ch v e x t := by
  funext y; unfold mp
  have n1 : ¬ Str.ofString "pos" = Str.ofString "ch" := by decide
  by_cases h : y = Str.ofString "pos"
  · subst h; simp [n1]
  · simp [h]
theorem mp_escape {ch pos e : Option Value} {x : Str} {t : Tok} {v : Option Value} : (fun y => if y = Str.ofString "escape" then v else mp ch pos e x t y) = mp ch pos v x t := by
  funext y; unfold mp
  have n1 : ¬ Str.ofString "escape" = Str.ofString "ch" := by decide
  have n2 : ¬ Str.ofString "escape" = Str.ofString "pos" := by decide
  by_cases h : y = Str.ofString "escape"
  · subst h; simp [n1, n2]
  · simp [h]
theorem mp_two {ch pos e : Option Value} {x : Str} {t : Tok} {v u : Option Value} : (fun y => if y = Str.ofString "ch" then v else if y = Str.ofString "pos" then u else mp ch pos e x t y) = mp v u e x t := by
  funext y; unfold mp
  have n1 : ¬ Str.ofString "pos" = Str.ofString "ch" := by decide
  by_cases h : y = Str.ofString "ch"
  · simp [h]
  · by_cases h2 : y = Str.ofString "pos"
    · subst h2; simp [n1]
    · simp [h, h2]

noncomputable def EndP (prog : Program) (w : World) (hb : Heap) (items : List (Int × Str)) (W : List Addr) (s : Shared) : End → Shared → Prop := match items with
  | [] => fun e s' => e = .ret (.ok (.ret .none)) ∧ Only W s s'
  | x :: r => fun e s' => ∃ T l k c p fs t1 t2 W' Own', e = .susp (.ref T) false l k c p fs ∧ fs.any Frame.guarded = false ∧ s'.heap.get? T = some (pairO x.1 t1 x.2 t2) ∧
        (∀ b ∈ W', b ∈ W ∨ s.heap.get? b = none) ∧ T ∉ W' ∧ Only W s s' ∧ Own' s'.heap ∧ Stays W' Own' ∧ Stream prog w hb r W' Own' (.suspended k l c p fs false)
theorem stream_of {prog : Program} {w : World} {hb : Heap} {items : List (Int × Str)} {W : List Addr} {Own : Heap → Prop} {gs : GenState}
    (h : ∀ A s, RoomA A → (∀ b o, hb.get? b = some o → s.heap.get? b = some o) → Own s.heap → Steps prog w gs A s (EndP prog w hb items W s)) : Stream prog w hb items W Own gs := by
  cases items <;> exact h

/-- all else stands -/
noncomputable abbrev But (L : Addr) (h h' : Heap) : Prop := ∀ b o, b ≠ L → h.get? b = some o → h'.get? b = some o
noncomputable abbrev AllBut (hb h : Heap) (L : Addr) : List (Addr × Obj) := ownOf hb ((List.range h.objs.size).filter fun b => decide (b ≠ L)) h
theorem allBut_news {hb h : Heap} {L : Addr} : News hb L h (AllBut hb h L) := news_ownOf (by simp)
theorem allBut_keep {hb h h' : Heap} {L : Addr} {m m' : Str → Option Value} (F : Fr hb L h m) (F' : Fr hb L h' m') (N' : News hb L h' (AllBut hb h L)) : But L h h' := fun b o hbL e => by
  cases hn : hb.get? b with
  | some o₀ =>
    have : o₀ = o := by have q := F.keep b o₀ hn; rw [e] at q; exact (Option.some.inj q).symm
    exact this ▸ F'.keep b o₀ hn
  | none => exact (N' _ (mem_ownOf (by simp [Heap.lt_size e, hbL]) hn e)).1

section
variable {prog : Program} {w : World} {hb : Heap} {L' : Addr} {x : Str} {t : Tok}

theorem gstep {A : Around} {c : Code} {fs : List Frame} {P : End → Shared → Prop} {s : Shared} {env : Env} {K : Flow → Sem Fin} {H : Value → Sem Fin} {gd : Bool → Bool} {lv : List Value → List Value} {m : Str → Option Value} {st : Stmt}
    (M : (Str → Option Value) → Prop) (F : Fr hb L' s.heap m)
    (run : ∀ (rest : List (Addr × Obj)) (Q : Flow → Shared → Prop) (E : Value → Shared → Prop), News hb L' s.heap rest → (∀ h' tk m', M m' → Fr hb L' h' m' → News hb L' h' rest → Q .next { s with heap := h', toks := tk }) → wpAny (model prog w) (A.over c fs) (exec st env) Q E s)
    (next : ∀ h' tk m', M m' → Fr hb L' h' m' → But L' s.heap h' → SegX (model prog w) A c (K .next) fs { s with heap := h', toks := tk } P) :
    SegX (model prog w) A c ((exec st env).wrap K H gd lv) fs s P := by
  refine sx_wrap (wpAny_mono (run (AllBut hb s.heap L') (fun f s' => SegX (model prog w) A c (K f) fs s' P) _ allBut_news ?_) (fun _ _ h => h) fun _ _ h => h)
  intro h' tk m' hm F' N'
  exact next h' tk m' hm F' (allBut_keep F F' N')

theorem gtest {A : Around} {c : Code} {fs : List Frame} {P : End → Shared → Prop} {s : Shared} {env : Env} {K : Flow → Sem Fin} {H : Value → Sem Fin} {gd : Bool → Bool} {lv : List Value → List Value} {m : Str → Option Value} {test : Expr} {body orelse : List Stmt} {pos : Pos}
    (r : Bool) (F : Fr hb L' s.heap m)
    (run : ∀ (rest : List (Addr × Obj)) (Q : Bool → Shared → Prop) (E : Value → Shared → Prop), News hb L' s.heap rest → (∀ h' tk, Fr hb L' h' m → News hb L' h' rest → Q r { s with heap := h', toks := tk }) → wpAny (model prog w) (A.over c fs) (isTrue test env (eval test env)) Q E s)
    (next : ∀ h' tk, Fr hb L' h' m → But L' s.heap h' → SegX (model prog w) A c ((execs (if r = true then body else orelse) env).wrap K H gd lv) fs { s with heap := h', toks := tk } P) :
    SegX (model prog w) A c ((exec (.If test body orelse pos) env).wrap K H gd lv) fs s P := by
  refine sx_If (wpAny_mono (run (AllBut hb s.heap L') (fun r s' => SegX (model prog w) A c ((execs (if r = true then body else orelse) env).wrap K H gd lv) fs s' P) _ allBut_news ?_) (fun _ _ h => h) fun _ _ h => h)
  intro h' tk F' N'
  exact next h' tk F' (allBut_keep F F' N')

theorem gyield {A : Around} {c : Code} {fs : List Frame} {P : End → Shared → Prop} {s : Shared} {env : Env} {K : Flow → Sem Fin} {H : Value → Sem Fin} {gd : Bool → Bool} {lv : List Value → List Value} {m : Str → Option Value} {e : Expr} {ypos pos : Pos} {i : Int} {cc : Str}
    (hfs : splitAtGen fs = none) (hgd : gd false = false) (hfg : fs.any Frame.guarded = false) (F : Fr hb L' s.heap m)
    (run : ∀ (rest : List (Addr × Obj)) (Q : Value → Shared → Prop) (E : Value → Shared → Prop), News hb L' s.heap rest → (∀ T t1 t2 h' tk, Fr hb L' h' m → News hb L' h' ((T, pairO i t1 cc t2) :: rest) → (∀ p ∈ rest, p.1 < T) → Q (.ref T) { s with heap := h', toks := tk }) → wpAny (model prog w) (A.over c fs) (eval e env) Q E s)
    (next : ∀ T t1 t2 h' tk, h'.get? T = some (pairO i t1 cc t2) → s.heap.get? T = none → Fr hb L' h' m → But L' s.heap h' → ∀ l k p, k (.send .none) = K .next → P (.susp (.ref T) false l k c p fs) { s with heap := h', toks := tk })
    (hco : env.scope.isCoroutine = false := by rfl) (hi : interactive env = false := by rfl) :
    SegX (model prog w) A c ((exec (.Expr (.Yield (some e) ypos) pos) env).wrap K H gd lv) fs s P := by
  refine sx_Yield hfs hgd hfg (wpAny_mono (run (AllBut hb s.heap L') (fun v s' => ∀ l k p, k (.send .none) = K .next → P (.susp v false l k c p fs) s') _ allBut_news ?_) (fun _ _ h => h) fun _ _ h => h) hco hi
  intro T t1 t2 h' tk F' N' lt
  have n := N' _ (List.mem_cons_self ..)
  refine next T t1 t2 h' tk n.1 ?_ F' (allBut_keep F F' fun p hp => N' p (List.mem_cons_of_mem _ hp))
  cases q : s.heap.get? T with
  | none => rfl
  | some o => exact absurd (lt (T, o) (mem_ownOf (by have := Heap.lt_size q; simp [this]; exact n.2.1) n.2.2 q)) (Nat.lt_irrefl _)

/-- a turn of the generator's own loop -/
noncomputable def Turn (prog : Program) (w : World) (hb : Heap) (L' : Addr) (x : Str) (t : Tok) (c0 : Code) (fs : List Frame) (body : List Stmt) (env : Env) : Prop :=
  ∀ (A : Around) (s : Shared) (P : End → Shared → Prop) (K : Flow → Sem Fin) (H : Value → Sem Fin) (gd : Bool → Bool) (lv : List Value → List Value) (b : Bool) (i : Int) (cc : Nat) (ti tc : Tok),
    RoomA A → gd false = false → Fr hb L' s.heap (mp (some (.str ⟨#[cc]⟩ tc)) (some (.int i ti)) (some (.bool b)) x t) →
    (b = true ∨ cc ≠ 92 → ∀ T t1 t2 h' tk, h'.get? T = some (pairO i t1 (if b = true then ⟨#[92, cc]⟩ else ⟨#[cc]⟩) t2) → s.heap.get? T = none → Fr hb L' h' (mp (some (.str ⟨#[cc]⟩ tc)) (some (.int i ti)) (some (.bool b)) x t) → But L' s.heap h' →
      ∀ l k p, (∀ A2 s2 P2, RoomA A2 → Fr hb L' s2.heap (mp (some (.str ⟨#[cc]⟩ tc)) (some (.int i ti)) (some (.bool b)) x t) →
          (∀ h2 tk2, Fr hb L' h2 (mp (some (.str ⟨#[cc]⟩ tc)) (some (.int i ti)) (some (.bool false)) x t) → But L' s2.heap h2 → SegX (model prog w) A2 c0 (K .next) fs { s2 with heap := h2, toks := tk2 } P2) →
          SegX (model prog w) A2 c0 (k (.send .none)) fs s2 P2) → P (.susp (.ref T) false l k c0 p fs) { s with heap := h', toks := tk }) →
    (b = false ∧ cc = 92 → ∀ h' tk, Fr hb L' h' (mp (some (.str ⟨#[cc]⟩ tc)) (some (.int i ti)) (some (.bool true)) x t) → But L' s.heap h' → SegX (model prog w) A c0 (K .next) fs { s with heap := h', toks := tk } P) →
    SegX (model prog w) A c0 ((execs body env).wrap K H gd lv) fs s P

theorem iter_loop {K : Flow → Sem Fin} {H : Value → Sem Fin} {gd : Bool → Bool} {lv : List Value → List Value} {env : Env} {c0 : Code} {p0 : Pos} {body : List Stmt} {e it : Addr} {ty : String} {pk pv pt : Pos} {x1 : Nat}
    (hL : env.locals = L') (hxi : env.kindOf (Str.ofString "pos") = some .local) (hxc : env.kindOf (Str.ofString "ch") = some .local)
    (hp : (env.scope.kind == .class || (env.scope.kind == .module && env.locals != env.globals)) = false) (hgd : gd false = false)
    (D : ∀ A : Around, A.handled = none → Draws prog w A it [it] x.cps.size (fun i v => ∃ c u, x.cps[i]? = some c ∧ v = .str ⟨#[c]⟩ u) (fun i h => h.IsStrIter it ty x t i))
    (hei : e ≠ it) (heL : e ≠ L') (hiL : it ≠ L') (hLe : hb.objs.size ≤ e) (hLi : hb.objs.size ≤ it)
    (turn : Turn prog w hb L' x t (.forLoop (.Tuple [.Name (Str.ofString "pos") pk, .Name (Str.ofString "ch") pv] x1 pt) (.ref e) body [] env) [forFr K H gd lv env c0 p0] body env)
    (hend : ∀ A s0 s W b ch pos i, RoomA A → L' ∈ W → Fr hb L' s.heap (mp ch pos (some (.bool b)) x t) → (b = true → ∃ tp, pos = some (.int ((i : Nat) - 1 : Int) tp)) → Only W s0 s → SegX (model prog w) A c0 (K .next) [] s (EndP prog w hb (esc b i []) W s0)) :
    ∀ cs i b A s0 s W ch pos old, x.cps.toList.drop i = cs → i ≤ x.cps.size → RoomA A → L' ∈ W → (e ∈ W ∨ s0.heap.get? e = none) → (it ∈ W ∨ s0.heap.get? it = none) → Only W s0 s → Fr hb L' s.heap (mp ch pos (some (.bool b)) x t) → (b = true → ∃ tp, pos = some (.int ((i : Nat) - 1 : Int) tp)) →
      IsEnum s.heap e it (i : Nat) old → s.heap.IsStrIter it ty x t i →
      SegX (model prog w) A (.forLoop (.Tuple [.Name (Str.ofString "pos") pk, .Name (Str.ofString "ch") pv] x1 pt) (.ref e) body [] env)
        (denote table (.forLoop (.Tuple [.Name (Str.ofString "pos") pk, .Name (Str.ofString "ch") pv] x1 pt) (.ref e) body [] env)) [forFr K H gd lv env c0 p0] s (EndP prog w hb (esc b i cs) W s0) := by
  revert hL hxi hxc hp hgd D hei heL hiL hLe hLi turn hend
  revert prog w hb L' x t K H gd lv env c0 p0 body e it ty pk pv pt x1
  refine @eps8 _ _ _ _ _ _ _ _ inferInstance neW inferInstance inferInstance inferInstance inferInstance inferInstance inferInstance _ ?_; generalize E8_1 _ _ _ _ _ _ _ _ _ = prog; generalize E8_2 _ _ _ _ _ _ _ _ _ = w; generalize E8_3 _ _ _ _ _ _ _ _ _ = hb; generalize E8_4 _ _ _ _ _ _ _ _ _ = L'; generalize E8_5 _ _ _ _ _ _ _ _ _ = x; generalize E8_6 _ _ _ _ _ _ _ _ _ = t; generalize E8_7 _ _ _ _ _ _ _ _ _ = K; generalize E8_8 _ _ _ _ _ _ _ _ _ = H
  refine @eps8 _ _ _ _ _ _ _ _ inferInstance inferInstance inferInstance inferInstance inferInstance inferInstance inferInstance inferInstance _ ?_; generalize E8_1 _ _ _ _ _ _ _ _ _ = gd; generalize E8_2 _ _ _ _ _ _ _ _ _ = lv; generalize E8_3 _ _ _ _ _ _ _ _ _ = env; generalize E8_4 _ _ _ _ _ _ _ _ _ = c0; generalize E8_5 _ _ _ _ _ _ _ _ _ = p0; generalize E8_6 _ _ _ _ _ _ _ _ _ = body; generalize E8_7 _ _ _ _ _ _ _ _ _ = e; generalize E8_8 _ _ _ _ _ _ _ _ _ = it
  refine @eps5 _ _ _ _ _ inferInstance inferInstance inferInstance inferInstance inferInstance _ ?_; generalize E5_1 _ _ _ _ _ _ = ty; generalize E5_2 _ _ _ _ _ _ = pk; generalize E5_3 _ _ _ _ _ _ = pv; generalize E5_4 _ _ _ _ _ _ = pt; generalize E5_5 _ _ _ _ _ _ = x1
  intro hL hxi hxc hp hgd D hei heL hiL hLe hLi turn hend
  subst hL
  intro cs
  induction cs with
  | nil =>
    intro i b A s0 s W ch pos old hdrop hile hA hLW heW hiW hO F hpos he hit
    have hi : i = x.cps.size := by
      have := List.drop_eq_nil_iff.mp hdrop
      have e : x.cps.toList.length = x.cps.size := by simp
      omega
    subst hi
    refine sx_forTurn (wpAny_pyNext_enum_endD (D _ hA.1) he hit fun h' hx => ?_)
    obtain ⟨h0, tk0, rfl, hk0⟩ := hO
    have hlt := F.ns.lt
    have F' : Fr hb env.locals h' (mp ch pos (some (.bool b)) x t) :=
      ⟨F.ns.extBut hx (Ne.symm hiL), fun b o e => hx b o (Nat.ne_of_lt (Nat.lt_of_lt_of_le (Heap.lt_size e) hLi)) (F.keep b o e), F.above⟩
    refine sx_forEnd (hend A s0 _ W b ch pos _ hA hLW F' hpos ⟨h', _, rfl, fun b o hb e => hx b o (fun q => ?_) (hk0 b o hb e)⟩)
    subst q
    rcases hiW with h | h
    · exact hb h
    · rw [h] at e; cases e
  | cons cc cs ih =>
    intro i b A s0 s W ch pos old hdrop hile hA hLW heW hiW hO F hpos he hit
    have hlt : i < x.cps.size := by
      have h1 : (x.cps.toList.drop i).length = (cc :: cs).length := by rw [hdrop]
      rw [List.length_drop] at h1
      simp at h1
      omega
    have hcc : x.cps[i]? = some cc := by
      have h1 : (x.cps.toList.drop i)[0]? = some cc := by rw [hdrop]; rfl
      rw [List.getElem?_drop] at h1
      simpa using h1
    have hdrop' : x.cps.toList.drop (i + 1) = cs := by
      have h1 : (x.cps.toList.drop i).drop 1 = cs := by rw [hdrop]; rfl
      rw [List.drop_drop] at h1
      exact h1
    obtain ⟨h0, tk0, rfl, hk0⟩ := hO
    replace he : IsEnum h0 e it i old := he
    have hL0 : env.locals < h0.objs.size := F.ns.lt
    have he0 : e < h0.objs.size := Heap.lt_size he
    refine sx_forTurn (wpAny_pyNext_enum_itemD (D _ hA.1) he hit hlt hei (by simpa using hei) fun v h1 tk hP hOut hit1 hT hsz1 hk1 => ?_)
    replace hk1 : ∀ b o, b ≠ e → b ≠ it → h0.get? b = some o → h1.get? b = some o := hk1
    replace hsz1 : h1.objs.size = h0.objs.size + 1 := hsz1
    replace hT : h1.get? h0.objs.size = some _ := hT
    replace hOut : IsEnumOut h1 e it (↑i + 1) v h0.objs.size := hOut
    obtain ⟨c', u, hc', rfl⟩ := hP
    rw [hcc] at hc'
    cases hc'
    refine wpAny_letOwnedTupleGo_enum hOut fun h2 he2 hs2 => ?_
    replace hs2 : Heap.SameBut e h1 h2 := hs2
    have hT2 : h2.IsTuple h0.objs.size #[.int i tk, .str ⟨#[cc]⟩ u] := ⟨_, hs2.extBut _ _ (Nat.ne_of_gt he0) hT, rfl, _, rfl⟩
    refine wpAny_assign_Tuple hA.1 hT2 rfl rfl fun h3 hx3 => ?_
    replace hx3 : Heap.ExtBut h2.objs.size h2 h3 := hx3
    have up3 : ∀ b o, h2.get? b = some o → h3.get? b = some o := fun b o q => hx3 b o (Nat.ne_of_lt (Heap.lt_size q)) q
    have up03 : ∀ b o, b ≠ e → b ≠ it → h0.get? b = some o → h3.get? b = some o := fun b o n1 n2 q => up3 b o (hs2.extBut b o n1 (hk1 b o n1 n2 q))
    have F3 : Fr hb env.locals h3 (mp ch pos (some (.bool b)) x t) :=
      ⟨F.ns.at' fun o q => up03 _ o (Ne.symm heL) (Ne.symm hiL) q, fun b o q => up03 b o (Nat.ne_of_lt (Nat.lt_of_lt_of_le (Heap.lt_size q) hLe)) (Nat.ne_of_lt (Nat.lt_of_lt_of_le (Heap.lt_size q) hLi)) (F.keep b o q), F.above⟩
    show wpAny _ _ (do holding [.str ⟨#[cc]⟩ u] (assign (.Name (Str.ofString "pos") pk) env (.int i tk)); do holding [] (assign (.Name (Str.ofString "ch") pv) env (.str ⟨#[cc]⟩ u)); pure ()) _ _ _
    refine wpAny_bind (wpAny_holding (wpAny_assign_Name (wpAny_storeName_local hxi F3.ns (fun h4 hn4 hs4 => ?_) hp)))
    replace hs4 : Heap.SameBut env.locals h3 h4 := hs4
    have F4 := F3.set hn4 hs4
    refine wpAny_bind (wpAny_holding (wpAny_assign_Name (wpAny_storeName_local hxc F4.ns (fun h5 hn5 hs5 => wpAny_pure ?_) hp)))
    replace hs5 : Heap.SameBut env.locals h4 h5 := hs5
    have F5 := F4.set hn5 hs5
    rw [mp_two] at F5
    have up35 : But env.locals h3 h5 := fun b o n q => hs5.extBut b o n (hs4.extBut b o n q)
    have he5 : IsEnum h5 e it (↑(i + 1) : Int) (.str ⟨#[cc]⟩ u) := by
      have := up35 _ _ heL (up3 _ _ he2)
      simpa using this
    have hit5 : h5.IsStrIter it ty x t (i + 1) := by
      obtain ⟨o, ho, r⟩ := hit1
      exact ⟨o, up35 _ _ hiL (up3 _ _ (hs2.extBut _ _ (Ne.symm hei) ho)), r⟩
    have keep5 : ∀ b o, b ∉ W → s0.heap.get? b = some o → h5.get? b = some o := fun b o hbW q => by
      have n1 : b ≠ e := fun z => by
        subst z
        rcases heW with h | h
        · exact hbW h
        · rw [h] at q; cases q
      have n2 : b ≠ it := fun z => by
        subst z
        rcases hiW with h | h
        · exact hbW h
        · rw [h] at q; cases q
      exact up35 b o (fun z => hbW (z ▸ hLW)) (up03 b o n1 n2 (hk0 b o hbW q))
    intro H' gd' lv' hgd'
    refine turn A _ _ _ H' gd' lv' b i cc _ _ hA hgd' F5 (fun hy T t1 t2 h6 tk6 hT6 hTs F6 hB6 l k p hres => ?_) (fun hy h6 tk6 F6 hB6 => ?_)
    · replace hTs : h5.get? T = none := hTs
      have he6 := hB6 _ _ heL he5
      have hit6 : h6.IsStrIter it ty x t (i + 1) := by
        obtain ⟨o, ho, r⟩ := hit5
        exact ⟨o, hB6 _ _ hiL ho, r⟩
      have hstr : Stream prog w hb (esc false (i + 1) cs) [env.locals, e, it] (fun h => h.Ns env.locals (mp (some (.str ⟨#[cc]⟩ u)) (some (.int i tk)) (some (.bool b)) x t) ∧ (∃ old, IsEnum h e it (↑(i + 1) : Int) old) ∧ h.IsStrIter it ty x t (i + 1))
          (.suspended k l (.forLoop (.Tuple [.Name (Str.ofString "pos") pk, .Name (Str.ofString "ch") pv] x1 pt) (.ref e) body [] env) p [forFr K H gd lv env c0 p0] false) := by
        refine stream_of fun A2 s2 hA2 hk2 ⟨hn2, ⟨old2, he2'⟩, hit2'⟩ => ?_
        refine hres A2 s2 _ hA2 ⟨hn2, hk2, F6.above⟩ fun h7 tk7 F7 hB7 => ?_
        refine s_again prog w A2 _ _ _ _ _ rfl ?_
        refine ih (i + 1) false A2 s2 _ [env.locals, e, it] _ _ old2 hdrop' hlt hA2 (by simp) (.inl (by simp)) (.inl (by simp)) ⟨h7, tk7, rfl, fun b o n q => hB7 b o (fun z => n (by simp [z])) q⟩ F7 (fun z => nomatch z) (hB7 _ _ heL he2') ?_
        obtain ⟨o, ho, r⟩ := hit2'
        exact ⟨o, hB7 _ _ hiL ho, r⟩
      have fin : EndP prog w hb ((↑i, if b = true then ⟨#[92, cc]⟩ else ⟨#[cc]⟩) :: esc false (i + 1) cs) W s0 (.susp (.ref T) false l k (.forLoop (.Tuple [.Name (Str.ofString "pos") pk, .Name (Str.ofString "ch") pv] x1 pt) (.ref e) body [] env) p [forFr K H gd lv env c0 p0]) { s0 with heap := h6, toks := tk6 } := by
        refine ⟨T, l, k, _, p, _, t1, t2, [env.locals, e, it], _, rfl, by simp [Frame.guarded, hgd], hT6, ?_, ?_, ⟨h6, tk6, rfl, fun b o n q => hB6 b o (fun z => n (z ▸ hLW)) (keep5 b o n q)⟩, ⟨F6.ns, ⟨_, he6⟩, hit6⟩, ?_, hstr⟩
        · intro b hb
          simp at hb
          rcases hb with rfl | rfl | rfl
          · exact .inl hLW
          · exact heW
          · exact hiW
        · intro hb
          obtain ⟨o, ho, _⟩ := hit5
          simp at hb
          rcases hb with z | z | z
          · obtain ⟨o2, _, _, ho2, _⟩ := F5.ns
            rw [← z, hTs] at ho2; cases ho2
          · replace he5 : h5.get? e = some _ := he5
            rw [← z, hTs] at he5; cases he5
          · rw [← z, hTs] at ho; cases ho
        · rintro h h' ⟨a1, ⟨o2, a2⟩, o, a3, r⟩ hk
          exact ⟨a1.at' fun o q => hk _ (by simp) o q, ⟨o2, hk _ (by simp) _ a2⟩, o, hk _ (by simp) o a3, r⟩
      cases b with
      | true => exact fin
      | false =>
        have hne : cc ≠ 92 := hy.resolve_left (by simp)
        have : esc false i (cc :: cs) = (↑i, ⟨#[cc]⟩) :: esc false (i + 1) cs := by rw [esc, if_neg hne]
        rw [this]; exact fin
    · obtain ⟨rfl, rfl⟩ := hy
      have : esc false i (92 :: cs) = esc true (i + 1) cs := by rw [esc, if_pos rfl]
      rw [this]
      refine s_again prog w A _ _ _ _ _ rfl ?_
      have hit6 : h6.IsStrIter it ty x t (i + 1) := by
        obtain ⟨o, ho, r⟩ := hit5
        exact ⟨o, hB6 _ _ hiL ho, r⟩
      refine ih (i + 1) true A s0 _ W _ _ _ hdrop' hlt hA hLW heW hiW ⟨h6, tk6, rfl, fun b o n q => hB6 b o (fun z => n (z ▸ hLW)) (keep5 b o n q)⟩ F6 (fun _ => ⟨tk, by simp⟩) (hB6 _ _ heL he5) hit6
end
end Mine
end
section -- GEN3
namespace Mine
theorem offGEN3 : True := by
  w_top off
  exact trivial
open PySem.W.X

theorem bs_app (cc : Nat) : Str.ofString "\\" ++ (⟨#[cc]⟩ : Str) = ⟨#[92, cc]⟩ := by
  have e : Str.ofString "\\" = ⟨#[92]⟩ := by decide +kernel
  rw [e]; rfl
theorem bs_eq (cc : Nat) : ((⟨#[cc]⟩ : Str) == Str.ofString "\\") = decide (cc = 92) := by
  have e : Str.ofString "\\" = ⟨#[92]⟩ := by decide +kernel
  rw [e]
  by_cases h : cc = 92
  · subst h; rfl
  · simp [h]
theorem bs_one : Str.ofString "\\" = ⟨#[92]⟩ := by decide +kernel
theorem But.trans {L : Addr} {h h' h'' : Heap} (x : But L h h') (y : But L h' h'') : But L h h'' := fun b o n e => y b o n (x b o n e)
theorem But.back {hb h h' : Heap} {L T : Addr} {m : Str → Option Value} (x : But L h h') (F : Fr hb L h' m) (hn : h'.get? T = none) : h.get? T = none := by
  cases q : h.get? T with
  | none => rfl
  | some o =>
    by_cases e : T = L
    · subst e
      obtain ⟨o2, _, _, ho, _⟩ := F.ns
      rw [hn] at ho; cases ho
    · have := x T o e q
      rw [hn] at this; cases this
theorem drawsStr {prog : Program} {w : World} (it : Addr) (x : Str) (t : Tok) : ∀ A : Around, A.handled = none → Draws prog w A it [it] x.cps.size (fun i v => ∃ c u, x.cps[i]? = some c ∧ v = .str ⟨#[c]⟩ u) (fun i h => h.IsStrIter it (strIterType x) x t i) := by
  intro A hA
  cases ha : x.cps.all (· < 128)
  · have e : strIterType x = "str_iterator" := by simp [strIterType, ha]
    rw [e]; exact Draws.strWide hA it x t
  · have e : strIterType x = "str_ascii_iterator" := by simp [strIterType, ha]
    rw [e]; exact Draws.strAscii hA it x t

section
variable {w : World} {mean : ExcName → Option Value} {mg mb : Str → Option Value}  {A : Around} {h₀ : Heap} {L : Addr} {m : Str → Option Value} {news : List (Addr × Obj)} {s : Shared} {Q E : Value → Shared → Prop} {x : Str} {t : Tok}

theorem code_gen {prog : Program} {K : Frag} {R : Result → Shared → Prop} {name qual : Str} {params : Arguments} {body : List Stmt} {scope : Scope} {dV kV doc pm cdv ct oc : Value} {an od : Option Addr} {osl : Array (Option Value)} {f : Addr} {args : Args} {binds : List (Str × Value)}
    (X : K.In s.heap) (hlim : s.heap.NoLimit) (ho : K.lookup f = some ⟨oc, od, .func (fnOf name qual params body scope dV kV doc pm an cdv ct), osl⟩) (hcd : codeIn K cdv qual = true) (hroom : A.depth < recursionLimit)
    (hbind : BindsTo s (fnOf name qual params body scope dV kV doc pm an cdv ct) args binds) (hloc : ∀ y ∈ binds, scope.names.lookup y.1 = some .local)
    (hco : scope.isCoroutine = false) (hgen : scope.isGenerator = true) (hk : scope.kind = .function) (hcell : ∀ x ∈ scope.names, x.2 ≠ .cell)
    (h : ∀ h₁ : Heap, h₁.Ns s.heap.objs.size (fun y => binds.reverse.lookup y) → h₁.objs.size = s.heap.objs.size + 1 → (∀ b o, s.heap.get? b = some o → h₁.get? b = some o) →
      R (.ok (.ret (.ref (s.heap.objs.size + 1)))) { s with gens := s.gens.push (.fresh (.func body (envOf qual scope s.heap.objs.size f cdv))), toks := s.toks + binds.length + 1 + 1, heap := h₁.push { cls := .type "generator", data := .fields #[.int s.gens.size 0, .str name (s.toks + binds.length), .str qual (s.toks + binds.length + 1)] } }) :
    codeAny (model prog w) A (.call (.ref f) args) R s := by
  refine codeAny_call_generator (fd := fnOf name qual params body scope dV kV doc pm an cdv ct) hroom (X _ _ ho) rfl hco hgen rfl (codeRec_of X hcd) (hbind _ _ _ _ ?_)
  refine wpAny_newFunctionEnv hcell hloc (fun h₁ hn hs => ?_) hk
  have hz : h₁.objs.size = s.heap.objs.size + 1 := by rw [hs.1, Heap.size_push]
  have up : ∀ b o, s.heap.get? b = some o → h₁.get? b = some o := fun b o e => hs.extBut b o (Nat.ne_of_lt (Heap.lt_size e)) (Heap.get?_push_of_some _ e)
  refine ⟨hlim.keeps up, ?_⟩
  have z := h h₁ hn hz up
  rw [← hz] at z
  exact z

theorem iter_call (hA : RoomA A.in1) (F : Fr h₀ L s.heap m) (X : (hd.heap_1 w.params).In h₀) (N : News h₀ L s.heap news) (T : Top VW LO mean mg mb h₀)
    (h : ∀ a L' h' tk gs Own, Fr h₀ L h' m → News h₀ L h' news → h'.IsGen a s.gens.size → s.heap.objs.size ≤ L' → s.heap.objs.size ≤ a → L' ≠ a → Own h' → Stays [L'] Own → gs.bare = true →
      Stream PG w h₀ (esc false 0 x.cps.toList) [L'] Own gs → Q (.ref a) { s with heap := h', toks := tk, gens := s.gens.push gs }) :
    wpAny (model PG w) A (call (.ref 45) [.str x t]) Q E s := by
  revert hA F X N T h
  revert w mean mg mb A h₀ L m news s Q E x t
  refine @eps8 _ _ _ _ _ _ _ _ neW inferInstance inferInstance inferInstance neA inferInstance inferInstance inferInstance _ ?_; generalize E8_1 _ _ _ _ _ _ _ _ _ = w; generalize E8_2 _ _ _ _ _ _ _ _ _ = mean; generalize E8_3 _ _ _ _ _ _ _ _ _ = mg; generalize E8_4 _ _ _ _ _ _ _ _ _ = mb; generalize E8_5 _ _ _ _ _ _ _ _ _ = A; generalize E8_6 _ _ _ _ _ _ _ _ _ = h₀; generalize E8_7 _ _ _ _ _ _ _ _ _ = L; generalize E8_8 _ _ _ _ _ _ _ _ _ = m
  refine @eps6 _ _ _ _ _ _ inferInstance neS inferInstance inferInstance inferInstance inferInstance _ ?_; generalize E6_1 _ _ _ _ _ _ _ = news; generalize E6_2 _ _ _ _ _ _ _ = s; generalize E6_3 _ _ _ _ _ _ _ = Q; generalize E6_4 _ _ _ _ _ _ _ = E; generalize E6_5 _ _ _ _ _ _ _ = x; generalize E6_6 _ _ _ _ _ _ _ = t
  intro hA F X N T h
  w_top off
  have X' := X.keeps F.keep
  refine wpAny_call ?_
  have hroom : A.depth < recursionLimit := by have : A.depth + 8 < recursionLimit := hA.2.1; omega
  have hlim := T.nolimit.keeps F.keep
  k_dflt (refine' code_gen X' hlim ?k6 ?k7 hroom ?k9 ?kB ?c2 ?c3 ?c4 ?c5 ?_; (case k6 => k_is); (case k7 => k_is); (case k9 => exact BindsTo.of_eq rfl); (case c5 => decide); (case kB => exact locs rfl); (case c2 => exact rfl); (case c3 => exact rfl); (case c4 => exact rfl))
  intro h₁ hn hz up
  dsimp only
  have hb : h₀.objs.size ≤ s.heap.objs.size := Nat.le_trans F.above (Nat.le_of_lt F.ns.lt)
  refine h _ s.heap.objs.size _ _ _ (fun H => H.Ns s.heap.objs.size (mp none none none x t)) ?gF ?gN ?gG (Nat.le_refl _) (Nat.le_succ _) (Nat.ne_of_lt (Nat.lt_succ_self _)) ?gO ?gS rfl ?gT
  case gF => exact (F.keeps up).push _
  case gN => exact (N.grown up).grown fun b o e => Heap.get?_push_of_some _ e
  case gG => exact ⟨_, _, _, by rw [← hz]; exact Heap.get?_push_size _ rfl, rfl, rfl, rfl⟩
  case gO =>
    refine Heap.Ns.push ?_ _
    have e : (fun y => List.lookup y (List.reverse [(Str.ofString "addr", Value.str x t)])) = mp none none none x t := by
      funext y
      unfold mp
      by_cases h1 : y = Str.ofString "addr"
      · subst h1; rfl
      · have h2 : (y == Str.ofString "addr") = false := by simpa using h1
        simp [List.lookup, h2, h1]
    rw [← e]; exact hn
  case gS =>
    intro H H' hN hk
    exact hN.at' fun o e => hk _ (List.mem_singleton.mpr rfl) o e
  case gT =>
    clear h hn up N F
    generalize hLdef : s.heap.objs.size = L' at *
    have hbL : h₀.objs.size ≤ L' := hb
    refine stream_of fun A' s0 hA' hk hO => ?_
    have F0 : Fr h₀ L' s0.heap (mp none none none x t) := ⟨hO, hk, hbL⟩
    show SegX _ _ _ (denote table (.func _ _)) _ _ _
    refine sx_func fun H => ?_
    refine sx_cons (gstep (fun m' => ∃ tp, m' = mp none (some (.int 0 tp)) none x t) F0 (fun rest Q E N hret => ?_) ?_)
    · k_steps
      all_goals exact hret _ _ _ ⟨_, mp_pos⟩ (by k_asm) (by k_asm)
    rintro h1 tk1 _ ⟨tp, rfl⟩ F1 B1
    refine sx_cons (gstep (fun m' => m' = mp none (some (.int 0 tp)) (some (.bool false)) x t) F1 (fun rest Q E N hret => ?_) ?_)
    · k_steps
      all_goals exact hret _ _ _ mp_escape (by k_asm) (by k_asm)
    rintro h2 tk2 _ rfl F2 B2
    refine sx_cons (sx_For (wpAny_mono (Q := fun v s₁ => ∃ h3 tk3, v = .ref (h2.objs.size + 1) ∧ s₁ = { s0 with heap := h3, toks := tk3 } ∧ IsEnum h3 (h2.objs.size + 1) h2.objs.size 0 .none ∧ h3.IsStrIter h2.objs.size (strIterType x) x t 0 ∧ (∀ b o, h2.get? b = some o → h3.get? b = some o)) ?_ ?_ (fun _ _ e => e)))
    · have N2 : News h₀ L' h2 [] := News.nil
      (repeat' (first | (k_here; (with_reducible show wpAny _ _ (call (Value.type "enumerate") [Value.str _ _]) _ _ _); refine call_enumerate_str ?_; intro hE heE hitE hszE hkE; exact ⟨_, _, rfl, rfl, heE, hitE, hkE⟩) | (k_unfold; (try dsimp only)) | walk1 | (dsimp only; walk1) | (leave1; (try dsimp only))))
    rintro v s₁ ⟨h3, tk3, rfl, rfl, he3, hit3, hk3⟩
    have hL2 : L' < h2.objs.size := F2.ns.lt
    have hb2 : h₀.objs.size ≤ h2.objs.size := Nat.le_trans hbL (Nat.le_of_lt hL2)
    have hs2 : ∀ b, h2.objs.size ≤ b → s0.heap.get? b = none := fun b hb => by
      cases q : s0.heap.get? b with
      | none => rfl
      | some o =>
        have n : b ≠ L' := fun z => absurd hL2 (Nat.not_lt.mpr (z ▸ hb))
        exact absurd (Heap.lt_size (B2 b o n (B1 b o n q))) (Nat.not_lt.mpr hb)
    refine wpAny_pyIter_enum he3 ?_
    intro p
    refine iter_loop (hb := h₀) (x := x) (t := t) (L' := L') rfl rfl rfl rfl rfl (drawsStr h2.objs.size x t) (Nat.succ_ne_self _) (Nat.ne_of_gt (Nat.lt_succ_of_lt hL2)) (Nat.ne_of_gt hL2) (Nat.le_succ_of_le hb2) hb2 ?turn ?hend _ 0 false A' s0 _ [L'] none _ .none rfl (Nat.zero_le _) hA' (by simp) (.inr (hs2 _ (Nat.le_succ _))) (.inr (hs2 _ (Nat.le_refl _)))
      ⟨h3, tk3, rfl, fun b o n q => hk3 b o (B2 b o (by simpa using n) (B1 b o (by simpa using n) q))⟩ (F2.keeps hk3) (fun z => nomatch z) he3 hit3
    case turn =>
      intro A s P K H gd lv b i cc ti tc hA hgd F hy hs
      refine sx_cons (gtest b F (fun rest Q E N hret => ?_) fun h1 tk1 F1 B1 => ?_)
      · k_steps
        all_goals exact hret _ _ (by k_asm) (by k_asm)
      cases b with
      | true =>
        simp only [if_true]
        refine sx_cons (gyield rfl hgd rfl F1 (i := i) (cc := ⟨#[92, cc]⟩) (fun rest Q E N hret => ?_) fun T t1 t2 h2 tk2 hT hn F2 B2 l k p hkk => ?_)
        · k_steps
          all_goals (simp only [bs_app] at *; exact hret _ _ _ _ _ (by k_asm) (by k_asm) (by assumption))
        refine hy (.inl rfl) T t1 t2 h2 tk2 hT (B1.back F1 hn) F2 (B1.trans B2) l k p fun A2 s2 P2 hA2 Fa hcont => ?_
        rw [hkk]
        show SegX _ A2 _ ((execs _ _).wrap _ _ _ _) _ _ _
        refine sx_cons (gstep (fun m' => m' = mp (some (.str ⟨#[cc]⟩ tc)) (some (.int i ti)) (some (.bool false)) x t) Fa (fun rest Q E N hret => ?_) ?_)
        · k_steps
          all_goals exact hret _ _ _ mp_escape (by k_asm) (by k_asm)
        rintro h3 tk3 _ rfl F3 B3
        exact hcont h3 tk3 F3 B3
      | false =>
        simp only [Bool.false_eq_true, if_false]
        refine sx_cons (gtest (decide (cc = 92)) F1 (fun rest Q E N hret => ?_) fun h2 tk2 F2 B2 => ?_)
        · k_steps
          all_goals (simp only [bs_eq]; exact hret _ _ (by k_asm) (by k_asm))
        by_cases hc : cc = 92
        · subst hc
          simp only [decide_true, if_true]
          refine sx_cons (gstep (fun m' => m' = mp (some (.str ⟨#[92]⟩ tc)) (some (.int i ti)) (some (.bool true)) x t) F2 (fun rest Q E N hret => ?_) ?_)
          · k_steps
            all_goals exact hret _ _ _ mp_escape (by k_asm) (by k_asm)
          rintro h3 tk3 _ rfl F3 B3
          exact hs ⟨rfl, rfl⟩ h3 tk3 F3 ((B1.trans B2).trans B3)
        · simp only [hc, decide_false, Bool.false_eq_true, if_false]
          refine sx_cons (gyield rfl hgd rfl F2 (i := i) (cc := ⟨#[cc]⟩) (fun rest Q E N hret => ?_) fun T t1 t2 h3 tk3 hT hn F3 B3 l k p hkk => ?_)
          · k_steps
            all_goals exact hret _ _ _ _ _ (by k_asm) (by k_asm) (by assumption)
          refine hy (.inr hc) T t1 t2 h3 tk3 hT ((B1.trans B2).back F2 hn) F3 ((B1.trans B2).trans B3) l k p fun A2 s2 P2 hA2 Fa hcont => ?_
          rw [hkk]
          exact hcont s2.heap s2.toks Fa (fun _ _ _ e => e)
    case hend =>
      intro A s0 s W b ch pos i hA hW F hpos hO
      show SegX _ A _ ((execs _ _).wrap _ _ _ _) _ _ _
      refine sx_cons (gtest b F (fun rest Q E N hret => ?_) fun h1 tk1 F1 B1 => ?_)
      · k_steps
        all_goals exact hret _ _ (by k_asm) (by k_asm)
      obtain ⟨h0, tk0, rfl, hk0⟩ := hO
      cases b with
      | false =>
        simp only [Bool.false_eq_true, if_false]
        refine s_end _ _ _ _ _ _ (.ok (.ret .none)) _ rfl ⟨rfl, h1, tk1, rfl, fun b o n q => B1 b o (fun z => n (z ▸ hW)) (hk0 b o n q)⟩
      | true =>
        obtain ⟨tp, rfl⟩ := hpos rfl
        simp only [if_true]
        refine sx_cons (gyield rfl rfl rfl F1 (i := (i : Int) - 1) (cc := ⟨#[92]⟩) (fun rest Q E N hret => ?_) fun T t1 t2 h3 tk3 hT hn F3 B3 l k p hkk => ?_)
        · k_steps
          all_goals (simp only [bs_one] at *; exact hret _ _ _ _ _ (by k_asm) (by k_asm) (by assumption))
        refine ⟨T, l, k, _, p, _, t1, t2, [L'], (fun H => H.Ns L' (mp ch (some (.int ((i : Int) - 1) tp)) (some (.bool true)) x t)), rfl, rfl, hT, ?_, ?_, ⟨h3, tk3, rfl, fun b o n q => (B1.trans B3) b o (fun z => n (z ▸ hW)) (hk0 b o n q)⟩, F3.ns, ?_, ?_⟩
        · intro b hb
          exact .inl (by rw [List.mem_singleton.mp hb]; exact hW)
        · intro hb
          rw [List.mem_singleton.mp hb] at hn
          obtain ⟨o2, _, _, ho, _⟩ := F1.ns
          replace hn : h1.get? L' = none := hn
          rw [hn] at ho; cases ho
        · intro H H' hN hk
          exact hN.at' fun o e => hk _ (List.mem_singleton.mpr rfl) o e
        · refine stream_of fun A2 s2 hA2 hk2 hn2 => ?_
          show SegX _ A2 _ (k (.send .none)) _ _ _
          rw [hkk]
          exact s_end _ _ _ _ _ _ (.ok (.ret .none)) _ rfl ⟨rfl, s2.heap, s2.toks, rfl, fun _ _ _ e => e⟩
end
end Mine
end
section -- CTX
namespace Mine
theorem offCTX : True := by
  w_top off
  exact trivial
noncomputable abbrev GRet (h₀ : Heap) (L : Addr) (m : Str → Option Value) (news : List (Addr × Obj)) (s : Shared) (Q : Value → Shared → Prop) (R : Tok → Value) : Prop :=
  ∀ (t : Tok) (h' : Heap) (tk' : Nat) (g' : Array GenState), Fr h₀ L h' m → News h₀ L h' news → GMore s.gens g' → Q (R t) { s with heap := h', toks := tk', gens := g' }
noncomputable abbrev GClaim (w : World) (mean : ExcName → Option Value) (mg mb : Str → Option Value) (f : Addr) (D U : Nat) (vs : List Value) (R : Tok → Value) : Prop :=
  ∀ (dp un : Nat) (gd : Option (List Code)) (cn : Str) (cs : Scope) (a : Addr) (ccd : Value) (cl : List (Str × Addr)) (outer : List Env) (A₀ : Around) (base h₀ : Heap) (L : Addr) (m : Str → Option Value) (news : List (Addr × Obj)) (s : Shared) (Q E : Value → Shared → Prop),
    Below A₀ base outer h₀ → Fr h₀ L s.heap m → (hd.heap_1 w.params).In h₀ → News h₀ L s.heap news → Top VW LO mean mg mb h₀ → cs.kind = .function → dp + D < recursionLimit → un + U < cLine →
    GRet h₀ L m news s Q R → wpAny (model PG w) (ktrTop dp un gd cn cs L a ccd cl outer) (call (.ref f) vs) Q E s
theorem roomTop {dp un : Nat} {gd : Option (List Code)} {cn : Str} {cs : Scope} {L a : Addr} {ccd : Value} {cl : List (Str × Addr)} {outer : List Env} {env : Env} (hd : dp + 16 < recursionLimit) (hu : un + 128 < cLine) :
    RoomA ((ktrTop dp un gd cn cs L a ccd cl outer).deeper env).in1 := ⟨rfl, by show dp + 1 + 8 < recursionLimit; omega, by show un + 3 + 1 + 64 < cLine; omega⟩
theorem roomTop' {dp un : Nat} {gd : Option (List Code)} {cn : Str} {cs : Scope} {L a : Addr} {ccd : Value} {cl : List (Str × Addr)} {outer : List Env} {env : Env} (hd : dp + 16 < recursionLimit) (hu : un + 128 < cLine) :
    RoomA ((ktrTop dp un gd cn cs L a ccd cl outer).deeper env) := ⟨rfl, by show dp + 1 + 8 < recursionLimit; omega, by show un + 3 + 64 < cLine; omega⟩
section
variable {w : World} {mean : ExcName → Option Value} {mg mb : Str → Option Value}  {A : Around} {h₀ : Heap} {L : Addr} {m : Str → Option Value} {news : List (Addr × Obj)} {s : Shared} {Q E : Value → Shared → Prop} {x : Str} {t : Tok}
theorem iter_call2 (hA : RoomA A.in1) (F : Fr h₀ L s.heap m) (X : (hd.heap_1 w.params).In h₀) (N : News h₀ L s.heap news) (T : Top VW LO mean mg mb h₀)
    (h : ∀ a h' tk gs, Fr h₀ L h' m → News h₀ L h' news → h'.IsGen a s.gens.size → GenSt PG w h₀ L s.gens news a s.gens.size (esc false 0 x.cps.toList) { s with heap := h', toks := tk, gens := s.gens.push gs } →
      Q (.ref a) { s with heap := h', toks := tk, gens := s.gens.push gs }) :
    wpAny (model PG w) A (call (.ref 45) [.str x t]) Q E s := by
  refine iter_call hA F X N T fun a L' h' tk gs Own F' N' hgen hL ha hne hown hst hb hS => h a h' tk gs F' N' hgen ?_
  have lt : ∀ p ∈ news, p.1 < s.heap.objs.size := fun p hp => Heap.lt_size (N p hp).1
  have hLs : L < s.heap.objs.size := F.ns.lt
  have none : ∀ b, s.heap.objs.size ≤ b → h₀.get? b = Option.none := fun b hb => Heap.get?_none_of_le (Nat.le_trans F.above (Nat.le_trans (Nat.le_of_lt hLs) hb))
  refine ⟨hgen, Nat.le_refl _, GMore.push hb, ⟨fun p hp => Nat.ne_of_lt (Nat.lt_of_lt_of_le (lt p hp) ha), Nat.ne_of_gt (Nat.lt_of_lt_of_le hLs ha), none _ ha⟩, gs, [L'], Own, ?_, hown, hst, fun b hb => ?_, hS⟩
  · show (s.gens.push gs)[s.gens.size]? = some gs
    simp
  · rw [List.mem_singleton.mp hb]
    exact ⟨fun p hp => Nat.ne_of_lt (Nat.lt_of_lt_of_le (lt p hp) hL), Nat.ne_of_gt (Nat.lt_of_lt_of_le hLs hL), hne, none _ hL⟩
end
theorem lookup1 (a : Str) (v : Value) (y : Str) : List.lookup y [(a, v)] = if y = a then some v else none := by
  by_cases h : y = a
  · subst h; simp [List.lookup]
  · have h2 : (y == a) = false := by simpa using h
    simp [List.lookup, h2, h]
theorem lookup2 (a b : Str) (v u : Value) (y : Str) : List.lookup y [(a, v), (b, u)] = if y = a then some v else if y = b then some u else none := by
  by_cases h : y = a
  · subst h; simp [List.lookup]
  · have h2 : (y == a) = false := by simpa using h
    rw [if_neg h, ← lookup1]
    simp only [List.lookup, h2]
theorem lookup3 (a b c : Str) (v u z : Value) (y : Str) : List.lookup y [(a, v), (b, u), (c, z)] = if y = a then some v else if y = b then some u else if y = c then some z else none := by
  by_cases h : y = a
  · subst h; simp [List.lookup]
  · have h2 : (y == a) = false := by simpa using h
    rw [if_neg h, ← lookup2]
    simp only [List.lookup, h2]
section
variable {h₀ h : Heap} {L : Addr}
theorem fr_map {m m' : Str → Option Value} (F : Fr h₀ L h m) (e : m = m') : Fr h₀ L h m' := e ▸ F
theorem fr1 {a : Str} {v : Value} (F : Fr h₀ L h (fun y => List.lookup y [(a, v)])) : Fr h₀ L h (fun y => if y = a then some v else none) := fr_map F (funext fun y => lookup1 a v y)
theorem fr2 {a b : Str} {v u : Value} (F : Fr h₀ L h (fun y => List.lookup y [(a, v), (b, u)])) : Fr h₀ L h (fun y => if y = a then some v else if y = b then some u else none) := fr_map F (funext fun y => lookup2 a b v u y)
theorem fr3 {a b c : Str} {v u z : Value} (F : Fr h₀ L h (fun y => List.lookup y [(a, v), (b, u), (c, z)])) : Fr h₀ L h (fun y => if y = a then some v else if y = b then some u else if y = c then some z else none) := fr_map F (funext fun y => lookup3 a b c v u z y)
end
theorem nameL {h₀ h : Heap} {L l : Addr} {o : Obj} {r : List (Addr × Obj)} (_ : News h₀ L h ((l, o) :: r)) : ∃ l', l' = l := ⟨_, rfl⟩
end Mine
end
section -- STRIP
namespace Mine
theorem offSTRIP : True := by
  w_top off
  exact trivial
local macro_rules | `(tactic| k_all) => `(tactic| assumption)
noncomputable abbrev mpS (ch pos op : Option Value) (l : Addr) (st : Int) (ts : Tok) (x : Str) (t : Tok) : Str → Option Value := fun y => if y = Str.ofString "ch" then ch else if y = Str.ofString "pos" then pos else if y = Str.ofString "result" then some (.ref l) else if y = Str.ofString "open_pos" then op else if y = Str.ofString "start" then some (.int st ts) else if y = Str.ofString "addr" then some (.str x t) else none
noncomputable abbrev SState := Int × Option Int × List Str
noncomputable def sliceS (x : Str) (a b : Int) : Str := Txt.slice x (some a) (some b)
noncomputable def stepS (x : Str) (S : SState) (p : Int × Str) : SState :=
  if p.2 = ⟨#[34]⟩ then match S.2.1 with
    | none => (S.1, some p.1, S.2.2)
    | some o => (p.1 + 1, none, if S.1 = o then S.2.2 else S.2.2 ++ [sliceS x S.1 o])
  else S
inductive OpIs : Option Value → Option Int → Prop
  | none : OpIs (some .none) none
  | some (o : Int) (u : Tok) : OpIs (some (.int o u)) (some o)
theorem strsAre_snoc {vs : List Value} {ss : List Str} {s : Str} {t : Tok} (h : StrsAre vs ss) : StrsAre (vs ++ [.str s t]) (ss ++ [s]) := by
  induction h with
  | nil => exact .cons s t .nil
  | cons y u _ ih => exact .cons y u ih
theorem strsAre_len {vs : List Value} {ss : List Str} (h : StrsAre vs ss) : vs.length = ss.length := by
  induction h with
  | nil => rfl
  | cons _ _ _ ih => simp [ih]
noncomputable def sliceA (x : Str) (a : Int) : Str := Txt.slice x (some a) none
noncomputable def stripS (x : Str) : Str := Txt.join (Str.ofString "") (let S := (esc false 0 x.cps.toList).foldl (stepS x) (0, none, []); if S.1 < (x.length : Int) then S.2.2 ++ [sliceA x S.1] else S.2.2)
noncomputable def stripX (x : Str) : Str := if (Builtin.Str.occurrences x (Str.ofString "\"") 0 x.length 1).isEmpty = true then x else stripS x
theorem q_one : Str.ofString "\"" = ⟨#[34]⟩ := by decide +kernel
theorem sum_le (B : Nat) : ∀ (l : List Str), (∀ s ∈ l, s.length ≤ B) → (l.map (·.length)).sum ≤ B * l.length
  | [], _ => by simp
  | a :: l, h => by
    have h1 := h a (by simp)
    have h2 := sum_le B l fun s hs => h s (by simp [hs])
    simp only [List.map_cons, List.sum_cons, List.length_cons, Nat.mul_add, Nat.mul_one]
    omega
theorem join_N {prog : Program} {w : World} {A : Around} {E : Value → Shared → Prop} {s : Shared} {x : Str} {t : Tok} {Q : Value → Shared → Prop} {h₀ : Heap} {L D : Addr} {items : Array Value} {n : Nat} {r : List (Addr × Obj)} {ys : List Str}
    (N : News h₀ L s.heap ((D, listOf items n) :: r)) (hi : StrsAre items.toList ys) (hx : x.length = 0) (hb : ∀ s ∈ ys, s.length ≤ 1000) (hl : ys.length ≤ 1001)
    (h : ∀ t' k, Q (.str (Txt.join x ys) t') { s with toks := k }) : wpAny (model prog w) A (call (.builtin "str.join") [.str x t, .ref D]) Q E s := by
  refine join_list ⟨_, (N _ (List.mem_cons_self ..)).1, rfl, _, rfl⟩ hi ?_ h
  have := sum_le 1000 ys hb
  rw [hx]
  omega
noncomputable def JS (x : Str) (t : Tok) (l : Addr) (news : List (Addr × Obj)) (S : SState) (m : Str → Option Value) (nw : List (Addr × Obj)) : Prop :=
  ∃ ch pos op ts vs n, m = mpS ch pos op l S.1 ts x t ∧ OpIs op S.2.1 ∧ StrsAre vs S.2.2 ∧ nw = (l, listOf vs.toArray n) :: news
theorem esc_len : ∀ (cs : List Nat) (b : Bool) (i : Nat), (esc b i cs).length ≤ cs.length + (if b = true then 1 else 0)
  | [], false, _ => by simp [esc]
  | [], true, _ => by simp [esc]
  | c :: cs, true, i => by have := esc_len cs false (i + 1); simp [esc] at *; omega
  | c :: cs, false, i => by
    unfold esc
    split
    · have := esc_len cs true (i + 1); simp at *; omega
    · have := esc_len cs false (i + 1); simp at *; omega
theorem mpS_two {ch pos op : Option Value} {l : Addr} {st : Int} {ts : Tok} {x : Str} {t : Tok} {v u : Option Value} : (fun y => if y = Str.ofString "ch" then v else if y = Str.ofString "pos" then u else mpS ch pos op l st ts x t y) = mpS v u op l st ts x t := by
  funext y; unfold mpS
  have n1 : ¬ Str.ofString "pos" = Str.ofString "ch" := by decide
  by_cases h : y = Str.ofString "ch"
  · simp [h]
  · by_cases h2 : y = Str.ofString "pos"
    · subst h2; simp [n1]
    · simp [h, h2]
theorem mpS_op {ch pos op : Option Value} {l : Addr} {st : Int} {ts : Tok} {x : Str} {t : Tok} {v : Option Value} : (fun y => if y = Str.ofString "open_pos" then v else mpS ch pos op l st ts x t y) = mpS ch pos v l st ts x t := by
  funext y; unfold mpS
  have n1 : ¬ Str.ofString "open_pos" = Str.ofString "ch" := by decide
  have n2 : ¬ Str.ofString "open_pos" = Str.ofString "pos" := by decide
  have n3 : ¬ Str.ofString "open_pos" = Str.ofString "result" := by decide
  by_cases h : y = Str.ofString "open_pos"
  · subst h; simp [n1, n2, n3]
  · simp [h]
theorem mpS_start {ch pos op : Option Value} {l : Addr} {st st' : Int} {ts ts' : Tok} {x : Str} {t : Tok} : (fun y => if y = Str.ofString "start" then some (.int st' ts') else mpS ch pos op l st ts x t y) = mpS ch pos op l st' ts' x t := by
  funext y; unfold mpS
  have n1 : ¬ Str.ofString "start" = Str.ofString "ch" := by decide
  have n2 : ¬ Str.ofString "start" = Str.ofString "pos" := by decide
  have n3 : ¬ Str.ofString "start" = Str.ofString "result" := by decide
  have n4 : ¬ Str.ofString "start" = Str.ofString "open_pos" := by decide
  by_cases h : y = Str.ofString "start"
  · subst h; simp [n1, n2, n3, n4]
  · simp [h]
theorem mpS_os {ch pos op : Option Value} {l : Addr} {st st' : Int} {ts ts' : Tok} {x : Str} {t : Tok} {v : Option Value} : (fun y => if y = Str.ofString "open_pos" then v else if y = Str.ofString "start" then some (.int st' ts') else mpS ch pos op l st ts x t y) = mpS ch pos v l st' ts' x t := by
  have h := mpS_op (ch := ch) (pos := pos) (op := op) (l := l) (st := st') (ts := ts') (x := x) (t := t) (v := v)
  rw [← h]
  funext y
  by_cases h1 : y = Str.ofString "open_pos"
  · simp [h1]
  · rw [if_neg h1, if_neg h1]
    exact congrFun (mpS_start (st := st) (ts := ts)) y
theorem strip_c (w : World) (mean : ExcName → Option Value) (mg mb : Str → Option Value) (x : Str) (t : Tok) (hx : x.length ≤ 1000) : GClaim w mean mg mb 52 16 128 [.str x t] (fun t => .str (stripX x) t) := by
  w_top off
  revert w mean mg mb x t
  refine eps6 neW inferInstance inferInstance inferInstance inferInstance inferInstance ?_; generalize E6_1 _ _ _ _ _ _ _ = w; generalize E6_2 _ _ _ _ _ _ _ = mean; generalize E6_3 _ _ _ _ _ _ _ = mg; generalize E6_4 _ _ _ _ _ _ _ = mb; generalize E6_5 _ _ _ _ _ _ _ = x; generalize E6_6 _ _ _ _ _ _ _ = t
  intro hx
  refine eps8 inferInstance inferInstance inferInstance inferInstance inferInstance inferInstance inferInstance inferInstance ?_; generalize E8_1 _ _ _ _ _ _ _ _ _ = dp; generalize E8_2 _ _ _ _ _ _ _ _ _ = un; generalize E8_3 _ _ _ _ _ _ _ _ _ = gd; generalize E8_4 _ _ _ _ _ _ _ _ _ = cn; generalize E8_5 _ _ _ _ _ _ _ _ _ = cs; generalize E8_6 _ _ _ _ _ _ _ _ _ = a; generalize E8_7 _ _ _ _ _ _ _ _ _ = ccd; generalize E8_8 _ _ _ _ _ _ _ _ _ = cl
  refine eps8 inferInstance neA inferInstance inferInstance inferInstance inferInstance inferInstance neS ?_; generalize E8_1 _ _ _ _ _ _ _ _ _ = outer; generalize E8_2 _ _ _ _ _ _ _ _ _ = A₀; generalize E8_3 _ _ _ _ _ _ _ _ _ = base; generalize E8_4 _ _ _ _ _ _ _ _ _ = h₀; generalize E8_5 _ _ _ _ _ _ _ _ _ = L; generalize E8_6 _ _ _ _ _ _ _ _ _ = m; generalize E8_7 _ _ _ _ _ _ _ _ _ = news; generalize E8_8 _ _ _ _ _ _ _ _ _ = s
  refine eps2 inferInstance inferInstance ?_; generalize E2_1 _ _ _ = Q; generalize E2_2 _ _ _ = E
  intro hB hF hX hN hT hk hdp hu hret
  refine wpAny_call ?_
  k_dflt cell_enter
  (with_reducible rename Fr _ _ _ (fun y => List.lookup y _) => FE0); have FE := fr1 FE0; clear FE0; dsimp only at FE
  (repeat' (first | (k_unfold; (try dsimp only)) | (first | (k_here; (with_reducible show wpAny _ _ (call (Value.ref 45) [Value.str _ _]) _ _ _); (refine' iter_call2 ?k1 ?k2 ?k3 ?k4 ?k5 ?_; (case k1 => exact roomTop (by assumption) (by assumption)); (case k2 => k_asm); (case k3 => k_asm); (case k4 => k_asm); (case k5 => k_asm)); intro aG hG tkG gsG FG NG hgenG GG; refine wpAny_pyIter_gen hgenG ?_) | (k_here; (with_reducible show wpAny _ _ (exec (Stmt.For (Expr.Tuple _ _ _) _ _ _ _) _) _ _ _); refine wpAny_For ?_) | walk1) | (dsimp only; (first | (k_here; (with_reducible show wpAny _ _ (call (Value.ref 45) [Value.str _ _]) _ _ _); (refine' iter_call2 ?k1 ?k2 ?k3 ?k4 ?k5 ?_; (case k1 => exact roomTop (by assumption) (by assumption)); (case k2 => k_asm); (case k3 => k_asm); (case k4 => k_asm); (case k5 => k_asm)); intro aG hG tkG gsG FG NG hgenG GG; refine wpAny_pyIter_gen hgenG ?_) | (k_here; (with_reducible show wpAny _ _ (exec (Stmt.For (Expr.Tuple _ _ _) _ _ _ _) _) _ _ _); refine wpAny_For ?_) | walk1)) | (leave1; (try dsimp only))))
  · rename_i hocc _ _ _ _
    have e : stripX x = x := by unfold stripX; rw [if_pos (by assumption)]
    rw [e] at hret
    exact hret _ _ _ _ (by k_asm) (by k_asm) (GMore.refl _)
  have hsx : stripX x = stripS x := by unfold stripX; rw [if_neg (by simp only [Bool.not_eq_true]; assumption)]
  rw [hsx] at hret
  obtain ⟨l, hl⟩ := nameL NG
  subst hl
  have hl1 : ∀ p ∈ news, p.1 < l := by assumption
  have hadr1 : ∀ p ∈ news, p.1 ≠ l := fun p hp => Nat.ne_of_lt (hl1 p hp)
  have hel : (esc false 0 x.cps.toList).length ≤ 1000 := by
    have := esc_len x.cps.toList false 0
    have e : x.cps.toList.length = x.length := by simp [Str.length]
    simp only [Bool.false_eq_true, if_false] at this
    omega
  refine for_stream (roomTop hdp hu) ?hl rfl rfl rfl FG NG GG (fun its m nw => ∃ S, JS x t l news S m nw ∧ S.2.2.length + its.length ≤ 1000 ∧ (∀ s ∈ S.2.2, s.length ≤ 1000) ∧ its.foldl (stepS x) S = ((esc false 0 x.cps.toList).foldl (stepS x) (0, none, []))) ?J ?turn ?done
  case hl => exact Top.nolimit (by assumption)
  case J =>
    refine' ⟨(0, none, []), ⟨none, none, _, _, [], 0, ?eq, .none, .nil, rfl⟩, by simpa using hel, by simp, rfl⟩
    case eq => (funext y; (try dsimp only [mpS]); (repeat' split) <;> first | rfl | (simp_all (config := { decide := true }); done))
  case done =>
    rintro m' nw' h' tk' g' ⟨⟨st, opS, res⟩, ⟨ch, pos, op, ts, vs, n, rfl, hop, hvs, rfl⟩, hlen, hres, hS⟩ hadr hG F1 N1
    have hvl : vs.length ≤ 1000 := by have := strsAre_len hvs; simp at *; omega
    dsimp only
    replace hS : (st, opS, res) = List.foldl (stepS x) (0, none, []) (esc false 0 x.cps.toList) := hS
    (repeat' (first | (k_unfold; (try dsimp only)) | (first | (k_here; (with_reducible show wpAny _ _ (call (Value.ref 45) [Value.str _ _]) _ _ _); (refine' iter_call2 ?k1 ?k2 ?k3 ?k4 ?k5 ?_; (case k1 => exact roomTop (by assumption) (by assumption)); (case k2 => k_asm); (case k3 => k_asm); (case k4 => k_asm); (case k5 => k_asm)); intro aG hG tkG gsG FG NG hgenG GG; refine wpAny_pyIter_gen hgenG ?_) | (k_here; (with_reducible show wpAny _ _ (exec (Stmt.For (Expr.Tuple _ _ _) _ _ _ _) _) _ _ _); refine wpAny_For ?_) | walk1) | (dsimp only; (first | (k_here; (with_reducible show wpAny _ _ (call (Value.ref 45) [Value.str _ _]) _ _ _); (refine' iter_call2 ?k1 ?k2 ?k3 ?k4 ?k5 ?_; (case k1 => exact roomTop (by assumption) (by assumption)); (case k2 => k_asm); (case k3 => k_asm); (case k4 => k_asm); (case k5 => k_asm)); intro aG hG tkG gsG FG NG hgenG GG; refine wpAny_pyIter_gen hgenG ?_) | (k_here; (with_reducible show wpAny _ _ (exec (Stmt.For (Expr.Tuple _ _ _) _ _ _ _) _) _ _ _); refine wpAny_For ?_) | walk1)) | (leave1; (try dsimp only))))
    · refine join_N (by k_asm) (ys := res ++ [Txt.slice x (some st) none]) (by simpa using strsAre_snoc hvs) rfl ?_ ?_ fun t' k => ?_
      · intro s hs
        rcases List.mem_append.mp hs with h | h
        · exact hres s h
        · rw [List.mem_singleton.mp h]; exact Nat.le_trans (Txt.slice_le x _ _) hx
      · simp at *; omega
      · (repeat' (first | (k_unfold; (try dsimp only)) | (first | (k_here; (with_reducible show wpAny _ _ (call (Value.ref 45) [Value.str _ _]) _ _ _); (refine' iter_call2 ?k1 ?k2 ?k3 ?k4 ?k5 ?_; (case k1 => exact roomTop (by assumption) (by assumption)); (case k2 => k_asm); (case k3 => k_asm); (case k4 => k_asm); (case k5 => k_asm)); intro aG hG tkG gsG FG NG hgenG GG; refine wpAny_pyIter_gen hgenG ?_) | (k_here; (with_reducible show wpAny _ _ (exec (Stmt.For (Expr.Tuple _ _ _) _ _ _ _) _) _ _ _); refine wpAny_For ?_) | walk1) | (dsimp only; (first | (k_here; (with_reducible show wpAny _ _ (call (Value.ref 45) [Value.str _ _]) _ _ _); (refine' iter_call2 ?k1 ?k2 ?k3 ?k4 ?k5 ?_; (case k1 => exact roomTop (by assumption) (by assumption)); (case k2 => k_asm); (case k3 => k_asm); (case k4 => k_asm); (case k5 => k_asm)); intro aG hG tkG gsG FG NG hgenG GG; refine wpAny_pyIter_gen hgenG ?_) | (k_here; (with_reducible show wpAny _ _ (exec (Stmt.For (Expr.Tuple _ _ _) _ _ _ _) _) _ _ _); refine wpAny_For ?_) | walk1)) | (leave1; (try dsimp only))))
        have e : stripS x = Txt.join (Str.ofString "") (res ++ [Txt.slice x (some st) none]) := by
          unfold stripS
          rw [← hS]
          have : st < (x.length : Int) := by assumption
          simp [this, sliceA]
        rw [← e]
        (rename News h₀ L _ _ => kN2)
        exact hret _ _ _ _ (by k_asm) (fun p hp => kN2 p (List.mem_cons_of_mem _ hp)) hG
    · refine join_N (by k_asm) (ys := res) (by simpa using hvs) rfl hres (by simp at *; omega) fun t' k => ?_
      (repeat' (first | (k_unfold; (try dsimp only)) | (first | (k_here; (with_reducible show wpAny _ _ (call (Value.ref 45) [Value.str _ _]) _ _ _); (refine' iter_call2 ?k1 ?k2 ?k3 ?k4 ?k5 ?_; (case k1 => exact roomTop (by assumption) (by assumption)); (case k2 => k_asm); (case k3 => k_asm); (case k4 => k_asm); (case k5 => k_asm)); intro aG hG tkG gsG FG NG hgenG GG; refine wpAny_pyIter_gen hgenG ?_) | (k_here; (with_reducible show wpAny _ _ (exec (Stmt.For (Expr.Tuple _ _ _) _ _ _ _) _) _ _ _); refine wpAny_For ?_) | walk1) | (dsimp only; (first | (k_here; (with_reducible show wpAny _ _ (call (Value.ref 45) [Value.str _ _]) _ _ _); (refine' iter_call2 ?k1 ?k2 ?k3 ?k4 ?k5 ?_; (case k1 => exact roomTop (by assumption) (by assumption)); (case k2 => k_asm); (case k3 => k_asm); (case k4 => k_asm); (case k5 => k_asm)); intro aG hG tkG gsG FG NG hgenG GG; refine wpAny_pyIter_gen hgenG ?_) | (k_here; (with_reducible show wpAny _ _ (exec (Stmt.For (Expr.Tuple _ _ _) _ _ _ _) _) _ _ _); refine wpAny_For ?_) | walk1)) | (leave1; (try dsimp only))))
      have e : stripS x = Txt.join (Str.ofString "") res := by
        unfold stripS
        rw [← hS]
        have : ¬ st < (x.length : Int) := by assumption
        simp [this]
      rw [← e]
      (rename News h₀ L _ _ => kN2)
      exact hret _ _ _ _ (by k_asm) (fun p hp => kN2 p (List.mem_cons_of_mem _ hp)) hG
  case turn =>
    rintro i c rest _ _ own h1 tk1 g1 ti tc E' hadr hoff ⟨⟨st, opS, res⟩, ⟨ch, pos, op, ts, vs, n, rfl, hop, hvs, rfl⟩, hlen, hres, hS⟩ hG F1 N1
    simp only [List.cons_append] at N1
    rw [mpS_two] at F1
    have hvl : vs.length ≤ 1000 := by have := strsAre_len hvs; simp at *; omega
    have hall : ∀ p ∈ news ++ own, p.1 ≠ l := fun p hp => (List.mem_append.mp hp).elim (hadr1 p) (hoff p · l (by simp))
    cases hop with
    | none =>
      (repeat' (first | (k_unfold; (try dsimp only)) | (first | (k_here; (with_reducible show wpAny _ _ (call (Value.ref 45) [Value.str _ _]) _ _ _); (refine' iter_call2 ?k1 ?k2 ?k3 ?k4 ?k5 ?_; (case k1 => exact roomTop (by assumption) (by assumption)); (case k2 => k_asm); (case k3 => k_asm); (case k4 => k_asm); (case k5 => k_asm)); intro aG hG tkG gsG FG NG hgenG GG; refine wpAny_pyIter_gen hgenG ?_) | (k_here; (with_reducible show wpAny _ _ (exec (Stmt.For (Expr.Tuple _ _ _) _ _ _ _) _) _ _ _); refine wpAny_For ?_) | walk1) | (dsimp only; (first | (k_here; (with_reducible show wpAny _ _ (call (Value.ref 45) [Value.str _ _]) _ _ _); (refine' iter_call2 ?k1 ?k2 ?k3 ?k4 ?k5 ?_; (case k1 => exact roomTop (by assumption) (by assumption)); (case k2 => k_asm); (case k3 => k_asm); (case k4 => k_asm); (case k5 => k_asm)); intro aG hG tkG gsG FG NG hgenG GG; refine wpAny_pyIter_gen hgenG ?_) | (k_here; (with_reducible show wpAny _ _ (exec (Stmt.For (Expr.Tuple _ _ _) _ _ _ _) _) _ _ _); refine wpAny_For ?_) | walk1)) | (leave1; (try dsimp only))))
      · have hc : c = ⟨#[34]⟩ := by rw [← q_one]; exact eq_of_beq (by assumption)
        have e : stepS x (st, none, res) (i, c) = (st, some i, res) := by simp [stepS, hc]
        refine ⟨_, _, _, _, (l, listOf vs.toArray n) :: news, rfl, by k_asm, by k_asm, rfl, GMore.refl _, (st, some i, res), ⟨_, _, _, _, vs, n, mpS_op, .some i ti, hvs, rfl⟩, by simp at *; omega, hres, by rw [← hS, List.foldl_cons, e]⟩
      · have hc : ¬ c = ⟨#[34]⟩ := by rw [← q_one]; intro z; simp [z] at *
        have e : stepS x (st, none, res) (i, c) = (st, none, res) := by simp [stepS, hc]
        refine ⟨_, _, _, _, (l, listOf vs.toArray n) :: news, rfl, by k_asm, by k_asm, rfl, GMore.refl _, (st, none, res), ⟨_, _, _, _, vs, n, rfl, .none, hvs, rfl⟩, by simp at *; omega, hres, by rw [← hS, List.foldl_cons, e]⟩
    | some o u =>
      (repeat' (first | (k_unfold; (try dsimp only)) | (first | (k_here; (with_reducible show wpAny _ _ (call (Value.ref 45) [Value.str _ _]) _ _ _); (refine' iter_call2 ?k1 ?k2 ?k3 ?k4 ?k5 ?_; (case k1 => exact roomTop (by assumption) (by assumption)); (case k2 => k_asm); (case k3 => k_asm); (case k4 => k_asm); (case k5 => k_asm)); intro aG hG tkG gsG FG NG hgenG GG; refine wpAny_pyIter_gen hgenG ?_) | (k_here; (with_reducible show wpAny _ _ (exec (Stmt.For (Expr.Tuple _ _ _) _ _ _ _) _) _ _ _); refine wpAny_For ?_) | walk1) | (dsimp only; (first | (k_here; (with_reducible show wpAny _ _ (call (Value.ref 45) [Value.str _ _]) _ _ _); (refine' iter_call2 ?k1 ?k2 ?k3 ?k4 ?k5 ?_; (case k1 => exact roomTop (by assumption) (by assumption)); (case k2 => k_asm); (case k3 => k_asm); (case k4 => k_asm); (case k5 => k_asm)); intro aG hG tkG gsG FG NG hgenG GG; refine wpAny_pyIter_gen hgenG ?_) | (k_here; (with_reducible show wpAny _ _ (exec (Stmt.For (Expr.Tuple _ _ _) _ _ _ _) _) _ _ _); refine wpAny_For ?_) | walk1)) | (leave1; (try dsimp only))))
      · have hc : c = ⟨#[34]⟩ := by rw [← q_one]; exact eq_of_beq (by assumption)
        have hne : ¬ st = o := by assumption
        have e : stepS x (st, some o, res) (i, c) = (i + 1, none, res ++ [sliceS x st o]) := by simp [stepS, hc, hne]
        refine' ⟨_, _, _, _, (l, listOf (vs ++ [Value.str (Txt.slice x (some st) (some o)) ?tv]).toArray (n + 1)) :: news, rfl, ?kF, ?kN, rfl, GMore.refl _, (i + 1, none, res ++ [sliceS x st o]), ⟨_, _, _, _, _, n + 1, ?km, .none, strsAre_snoc hvs, rfl⟩, by simp at *; omega, ?kr, by rw [← hS, List.foldl_cons, e]⟩
        case kF => k_asm
        case kN => rw [← List.push_toArray]; k_asm
        case km => exact mpS_os
        case kr =>
          intro s hs
          rcases List.mem_append.mp hs with h | h
          · exact hres s h
          · rw [List.mem_singleton.mp h]; exact Nat.le_trans (Txt.slice_le x _ _) hx
      · have hc : c = ⟨#[34]⟩ := by rw [← q_one]; exact eq_of_beq (by assumption)
        have heq : st = o := by assumption
        have e : stepS x (st, some o, res) (i, c) = (i + 1, none, res) := by simp [stepS, hc, heq]
        refine' ⟨_, _, _, _, (l, listOf vs.toArray n) :: news, rfl, ?kF, ?kN, rfl, GMore.refl _, (i + 1, none, res), ⟨_, _, _, _, vs, n, ?km, .none, hvs, rfl⟩, by simp at *; omega, hres, by rw [← hS, List.foldl_cons, e]⟩
        case kF => k_asm
        case kN => k_asm
        case km => exact mpS_os
      · have hc : ¬ c = ⟨#[34]⟩ := by rw [← q_one]; intro z; simp [z] at *
        have e : stepS x (st, some o, res) (i, c) = (st, some o, res) := by simp [stepS, hc]
        refine ⟨_, _, _, _, (l, listOf vs.toArray n) :: news, rfl, by k_asm, by k_asm, rfl, GMore.refl _, (st, some o, res), ⟨_, _, _, _, vs, n, rfl, .some o u, hvs, rfl⟩, by simp at *; omega, hres, by rw [← hS, List.foldl_cons, e]⟩
end Mine
end
section -- CHECKP
namespace Mine
theorem offCHECKP : True := by
  w_top off
  exact trivial
noncomputable abbrev mpC (ch pos : Option Value) (k : Int) (tk : Tok) (x : Str) (t : Tok) : Str → Option Value := fun y => if y = Str.ofString "ch" then ch else if y = Str.ofString "pos" then pos else if y = Str.ofString "opens" then some (.int k tk) else if y = Str.ofString "addr" then some (.str x t) else none
theorem mpC_opens {ch pos : Option Value} {k k' : Int} {tk tk' : Tok} {x : Str} {t : Tok} : (fun y => if y = Str.ofString "opens" then some (.int k' tk') else mpC ch pos k tk x t y) = mpC ch pos k' tk' x t := by
  funext y; unfold mpC
  have n1 : ¬ Str.ofString "opens" = Str.ofString "ch" := by decide
  have n2 : ¬ Str.ofString "opens" = Str.ofString "pos" := by decide
  by_cases h : y = Str.ofString "opens"
  · subst h; simp [n1, n2]
  · simp [h]
theorem l_one : Str.ofString "(" = ⟨#[40]⟩ := by decide +kernel
theorem r_one : Str.ofString ")" = ⟨#[41]⟩ := by decide +kernel
noncomputable def chk : List (Int × Str) → Int → Bool
  | [], k => k == 0
  | p :: r, k => if p.2 = ⟨#[40]⟩ then chk r (k + 1) else if p.2 = ⟨#[41]⟩ then (if k - 1 < 0 then false else chk r (k - 1)) else chk r k
noncomputable def checkS (x : Str) : Bool := chk (esc false 0 (stripX x).cps.toList) 0
theorem check_c (w : World) (mean : ExcName → Option Value) (mg mb : Str → Option Value) (x : Str) (t : Tok) (hx : x.length ≤ 1000) : GClaim w mean mg mb 59 20 160 [.str x t] (fun _ => .bool (checkS x)) := by
  w_top off
  revert w mean mg mb x t
  refine eps6 neW inferInstance inferInstance inferInstance inferInstance inferInstance ?_; generalize E6_1 _ _ _ _ _ _ _ = w; generalize E6_2 _ _ _ _ _ _ _ = mean; generalize E6_3 _ _ _ _ _ _ _ = mg; generalize E6_4 _ _ _ _ _ _ _ = mb; generalize E6_5 _ _ _ _ _ _ _ = x; generalize E6_6 _ _ _ _ _ _ _ = t
  intro hx
  refine eps8 inferInstance inferInstance inferInstance inferInstance inferInstance inferInstance inferInstance inferInstance ?_; generalize E8_1 _ _ _ _ _ _ _ _ _ = dp; generalize E8_2 _ _ _ _ _ _ _ _ _ = un; generalize E8_3 _ _ _ _ _ _ _ _ _ = gd; generalize E8_4 _ _ _ _ _ _ _ _ _ = cn; generalize E8_5 _ _ _ _ _ _ _ _ _ = cs; generalize E8_6 _ _ _ _ _ _ _ _ _ = a; generalize E8_7 _ _ _ _ _ _ _ _ _ = ccd; generalize E8_8 _ _ _ _ _ _ _ _ _ = cl
  refine eps8 inferInstance neA inferInstance inferInstance inferInstance inferInstance inferInstance neS ?_; generalize E8_1 _ _ _ _ _ _ _ _ _ = outer; generalize E8_2 _ _ _ _ _ _ _ _ _ = A₀; generalize E8_3 _ _ _ _ _ _ _ _ _ = base; generalize E8_4 _ _ _ _ _ _ _ _ _ = h₀; generalize E8_5 _ _ _ _ _ _ _ _ _ = L; generalize E8_6 _ _ _ _ _ _ _ _ _ = m; generalize E8_7 _ _ _ _ _ _ _ _ _ = news; generalize E8_8 _ _ _ _ _ _ _ _ _ = s
  refine eps2 inferInstance inferInstance ?_; generalize E2_1 _ _ _ = Q; generalize E2_2 _ _ _ = E
  intro hB hF hX hN hT hk hdp hu hret
  refine wpAny_call ?_
  k_dflt cell_enter
  (with_reducible rename Fr _ _ _ (fun y => List.lookup y _) => FE0); have FE := fr1 FE0; clear FE0; dsimp only at FE
  (repeat' (first | (k_unfold; (try dsimp only)) | (first | (k_here; (with_reducible show wpAny _ _ (call (Value.ref 52) [Value.str _ _]) _ _ _); (refine' strip_c _ _ _ _ _ _ ?hx (_ + 1) (_ + 3) _ _ _ _ _ _ _ _ _ _ _ _ _ _ _ _ ?k1 ?k2 ?k3 ?k4 ?k5 ?kK ?kd ?ku ?_; (case hx => assumption); (case k1 => k_asm); (case k2 => k_asm); (case k3 => k_asm); (case k4 => k_asm); (case k5 => k_asm); (case kK => exact rfl); (case kd => (dsimp only [Around.deeper]; omega)); (case ku => (dsimp only [Around.deeper]; omega))); intro tS hS tkS gS FS NS GS) | (k_here; (with_reducible show wpAny _ _ (call (Value.ref 45) [Value.str _ _]) _ _ _); (refine' iter_call2 ?k1 ?k2 ?k3 ?k4 ?k5 ?_; (case k1 => exact roomTop (by omega) (by omega)); (case k2 => k_asm); (case k3 => k_asm); (case k4 => k_asm); (case k5 => k_asm)); intro aG hG tkG gsG FG NG hgenG GG; refine wpAny_pyIter_gen hgenG ?_) | (k_here; (with_reducible show wpAny _ _ (exec (Stmt.For (Expr.Tuple _ _ _) _ _ _ _) _) _ _ _); refine wpAny_For ?_) | walk1) | (dsimp only; (first | (k_here; (with_reducible show wpAny _ _ (call (Value.ref 52) [Value.str _ _]) _ _ _); (refine' strip_c _ _ _ _ _ _ ?hx (_ + 1) (_ + 3) _ _ _ _ _ _ _ _ _ _ _ _ _ _ _ _ ?k1 ?k2 ?k3 ?k4 ?k5 ?kK ?kd ?ku ?_; (case hx => assumption); (case k1 => k_asm); (case k2 => k_asm); (case k3 => k_asm); (case k4 => k_asm); (case k5 => k_asm); (case kK => exact rfl); (case kd => (dsimp only [Around.deeper]; omega)); (case ku => (dsimp only [Around.deeper]; omega))); intro tS hS tkS gS FS NS GS) | (k_here; (with_reducible show wpAny _ _ (call (Value.ref 45) [Value.str _ _]) _ _ _); (refine' iter_call2 ?k1 ?k2 ?k3 ?k4 ?k5 ?_; (case k1 => exact roomTop (by omega) (by omega)); (case k2 => k_asm); (case k3 => k_asm); (case k4 => k_asm); (case k5 => k_asm)); intro aG hG tkG gsG FG NG hgenG GG; refine wpAny_pyIter_gen hgenG ?_) | (k_here; (with_reducible show wpAny _ _ (exec (Stmt.For (Expr.Tuple _ _ _) _ _ _ _) _) _ _ _); refine wpAny_For ?_) | walk1)) | (leave1; (try dsimp only))))
  refine for_stream (roomTop (by omega) (by omega)) ?hl rfl rfl rfl FG NG GG (fun its m nw => ∃ ch pos k tk, nw = news ∧ m = mpC ch pos k tk (stripX x) tS ∧ chk its k = checkS x) ?J ?turn ?done
  case hl => exact Top.nolimit (by assumption)
  case J =>
    refine' ⟨none, none, 0, _, rfl, ?eq, rfl⟩
    case eq => (funext y; (try dsimp only [mpC]); (repeat' split) <;> first | rfl | (simp_all (config := { decide := true }); done))
  case done =>
    rintro m' nw' h' tk' g' ⟨ch, pos, k, tk, hnw, rfl, hc⟩ hadr hG F1 N1
    rw [hnw] at N1
    dsimp only
    (repeat' (first | (k_unfold; (try dsimp only)) | (first | (k_here; (with_reducible show wpAny _ _ (call (Value.ref 52) [Value.str _ _]) _ _ _); (refine' strip_c _ _ _ _ _ _ ?hx (_ + 1) (_ + 3) _ _ _ _ _ _ _ _ _ _ _ _ _ _ _ _ ?k1 ?k2 ?k3 ?k4 ?k5 ?kK ?kd ?ku ?_; (case hx => assumption); (case k1 => k_asm); (case k2 => k_asm); (case k3 => k_asm); (case k4 => k_asm); (case k5 => k_asm); (case kK => exact rfl); (case kd => (dsimp only [Around.deeper]; omega)); (case ku => (dsimp only [Around.deeper]; omega))); intro tS hS tkS gS FS NS GS) | (k_here; (with_reducible show wpAny _ _ (call (Value.ref 45) [Value.str _ _]) _ _ _); (refine' iter_call2 ?k1 ?k2 ?k3 ?k4 ?k5 ?_; (case k1 => exact roomTop (by omega) (by omega)); (case k2 => k_asm); (case k3 => k_asm); (case k4 => k_asm); (case k5 => k_asm)); intro aG hG tkG gsG FG NG hgenG GG; refine wpAny_pyIter_gen hgenG ?_) | (k_here; (with_reducible show wpAny _ _ (exec (Stmt.For (Expr.Tuple _ _ _) _ _ _ _) _) _ _ _); refine wpAny_For ?_) | walk1) | (dsimp only; (first | (k_here; (with_reducible show wpAny _ _ (call (Value.ref 52) [Value.str _ _]) _ _ _); (refine' strip_c _ _ _ _ _ _ ?hx (_ + 1) (_ + 3) _ _ _ _ _ _ _ _ _ _ _ _ _ _ _ _ ?k1 ?k2 ?k3 ?k4 ?k5 ?kK ?kd ?ku ?_; (case hx => assumption); (case k1 => k_asm); (case k2 => k_asm); (case k3 => k_asm); (case k4 => k_asm); (case k5 => k_asm); (case kK => exact rfl); (case kd => (dsimp only [Around.deeper]; omega)); (case ku => (dsimp only [Around.deeper]; omega))); intro tS hS tkS gS FS NS GS) | (k_here; (with_reducible show wpAny _ _ (call (Value.ref 45) [Value.str _ _]) _ _ _); (refine' iter_call2 ?k1 ?k2 ?k3 ?k4 ?k5 ?_; (case k1 => exact roomTop (by omega) (by omega)); (case k2 => k_asm); (case k3 => k_asm); (case k4 => k_asm); (case k5 => k_asm)); intro aG hG tkG gsG FG NG hgenG GG; refine wpAny_pyIter_gen hgenG ?_) | (k_here; (with_reducible show wpAny _ _ (exec (Stmt.For (Expr.Tuple _ _ _) _ _ _ _) _) _ _ _); refine wpAny_For ?_) | walk1)) | (leave1; (try dsimp only))))
    have e : checkS x = (k == 0) := hc.symm
    rw [← e]
    exact hret 0 _ _ _ (by k_asm) (by k_asm) (GS.trans hG)
  case turn =>
    rintro i c rest _ nw₁ own h1 tk1 g1 ti tc E' hadr hoff ⟨ch, pos, k, tk, hnw, rfl, hc⟩ hG F1 N1
    rw [hnw] at N1
    have F2 := fr_map F1 (m' := mpC (some (.str c tc)) (some (.int i ti)) k tk (stripX x) tS) (by (funext y; (try dsimp only [mpC]); (repeat' split) <;> first | rfl | (simp_all (config := { decide := true }); done)))
    clear F1
    (repeat' (first | (k_unfold; (try dsimp only)) | (first | (k_here; (with_reducible show wpAny _ _ (call (Value.ref 52) [Value.str _ _]) _ _ _); (refine' strip_c _ _ _ _ _ _ ?hx (_ + 1) (_ + 3) _ _ _ _ _ _ _ _ _ _ _ _ _ _ _ _ ?k1 ?k2 ?k3 ?k4 ?k5 ?kK ?kd ?ku ?_; (case hx => assumption); (case k1 => k_asm); (case k2 => k_asm); (case k3 => k_asm); (case k4 => k_asm); (case k5 => k_asm); (case kK => exact rfl); (case kd => (dsimp only [Around.deeper]; omega)); (case ku => (dsimp only [Around.deeper]; omega))); intro tS hS tkS gS FS NS GS) | (k_here; (with_reducible show wpAny _ _ (call (Value.ref 45) [Value.str _ _]) _ _ _); (refine' iter_call2 ?k1 ?k2 ?k3 ?k4 ?k5 ?_; (case k1 => exact roomTop (by omega) (by omega)); (case k2 => k_asm); (case k3 => k_asm); (case k4 => k_asm); (case k5 => k_asm)); intro aG hG tkG gsG FG NG hgenG GG; refine wpAny_pyIter_gen hgenG ?_) | (k_here; (with_reducible show wpAny _ _ (exec (Stmt.For (Expr.Tuple _ _ _) _ _ _ _) _) _ _ _); refine wpAny_For ?_) | walk1) | (dsimp only; (first | (k_here; (with_reducible show wpAny _ _ (call (Value.ref 52) [Value.str _ _]) _ _ _); (refine' strip_c _ _ _ _ _ _ ?hx (_ + 1) (_ + 3) _ _ _ _ _ _ _ _ _ _ _ _ _ _ _ _ ?k1 ?k2 ?k3 ?k4 ?k5 ?kK ?kd ?ku ?_; (case hx => assumption); (case k1 => k_asm); (case k2 => k_asm); (case k3 => k_asm); (case k4 => k_asm); (case k5 => k_asm); (case kK => exact rfl); (case kd => (dsimp only [Around.deeper]; omega)); (case ku => (dsimp only [Around.deeper]; omega))); intro tS hS tkS gS FS NS GS) | (k_here; (with_reducible show wpAny _ _ (call (Value.ref 45) [Value.str _ _]) _ _ _); (refine' iter_call2 ?k1 ?k2 ?k3 ?k4 ?k5 ?_; (case k1 => exact roomTop (by omega) (by omega)); (case k2 => k_asm); (case k3 => k_asm); (case k4 => k_asm); (case k5 => k_asm)); intro aG hG tkG gsG FG NG hgenG GG; refine wpAny_pyIter_gen hgenG ?_) | (k_here; (with_reducible show wpAny _ _ (exec (Stmt.For (Expr.Tuple _ _ _) _ _ _ _) _) _ _ _); refine wpAny_For ?_) | walk1)) | (leave1; (try dsimp only))))
    · have hcc : c = ⟨#[40]⟩ := by rw [← l_one]; exact eq_of_beq (by assumption)
      rw [chk, if_pos hcc] at hc
      refine' ⟨_, _, _, _, news, rfl, ?kF, ?kN, rfl, GMore.refl _, _, _, k + 1, _, rfl, ?km, hc⟩
      case kF => k_asm
      case kN => k_asm
      case km => exact mpC_opens
    · have h1 : ¬ c = ⟨#[40]⟩ := by rw [← l_one]; intro z; simp [z] at *
      have h2 : c = ⟨#[41]⟩ := by rw [← r_one]; exact eq_of_beq (by assumption)
      rw [chk, if_neg h1, if_pos h2, if_pos (by assumption)] at hc
      rw [← hc] at hret
      (rename News h₀ L _ _ => kN2)
      exact hret 0 _ _ _ (by k_asm) (fun p hp => kN2 p (List.mem_append_left _ hp)) (GS.trans hG)
    · have h1 : ¬ c = ⟨#[40]⟩ := by rw [← l_one]; intro z; simp [z] at *
      have h2 : c = ⟨#[41]⟩ := by rw [← r_one]; exact eq_of_beq (by assumption)
      rw [chk, if_neg h1, if_pos h2, if_neg (by assumption)] at hc
      refine' ⟨_, _, _, _, news, rfl, ?kF, ?kN, rfl, GMore.refl _, _, _, k - 1, _, rfl, ?km, hc⟩
      case kF => k_asm
      case kN => k_asm
      case km => exact mpC_opens
    · have h1 : ¬ c = ⟨#[40]⟩ := by rw [← l_one]; intro z; simp [z] at *
      have h2 : ¬ c = ⟨#[41]⟩ := by rw [← r_one]; intro z; simp [z] at *
      rw [chk, if_neg h1, if_neg h2] at hc
      exact ⟨_, _, _, _, news, rfl, by k_asm, by k_asm, rfl, GMore.refl _, _, _, k, _, rfl, rfl, hc⟩
end Mine
end
section -- TOK
namespace Mine
theorem offTOK : True := by
  w_top off
  exact trivial
open KTD
noncomputable def rowsOf : List DictEntry → List (Str × KTD.Dat) := List.filterMap fun e => match e.key, e.val with | .str x _, .int i _ => some (x, KTD.Dat.flat (.int i)) | _, _ => none
noncomputable def rowOk (e : DictEntry) : Bool := match e.key, e.val with | .str _ _, .int _ _ => true | _, _ => false
theorem rows_of {h : Heap} : ∀ {es : List DictEntry}, es.all rowOk = true → Rows (KTD.Dat.At h) es (rowsOf es)
  | [], _ => .nil
  | e :: es, hh => by
    simp only [List.all_cons, Bool.and_eq_true] at hh
    obtain ⟨h1, h2⟩ := hh
    unfold rowOk at h1
    split at h1
    · rename_i x t i u hk hv
      have e1 : rowsOf (e :: es) = (x, KTD.Dat.flat (.int i)) :: rowsOf es := by
        unfold rowsOf
        simp only [List.filterMap_cons, hk, hv]
      rw [e1]
      exact .cons hk (by rw [hv]; exact .int i u) (rows_of h2)
    · cases h1
noncomputable def tokEs (w : World) : List DictEntry := match (hd.heap_1 w.params).lookup 60 with | some ⟨_, _, .dict es _, _⟩ => es.toList | _ => []
noncomputable def tokD (w : World) : List (Str × KTD.Dat) := rowsOf (tokEs w)
theorem tok_tab {w : World} {h : Heap} (X : (hd.heap_1 w.params).In h) : TextTab h 60 (tokD w) := by
  w_top off
  have hr : (tokEs w).all rowOk = true := by kernel_rfl
  have e : ∃ es ep, (hd.heap_1 w.params).lookup 60 = some { cls := .type "dict", dict := none, data := .dict es ep, slots := #[] } ∧ es.toList = tokEs w := ⟨_, _, by k_is, by kernel_rfl⟩
  obtain ⟨es, ep, e1, e2⟩ := e
  refine ⟨by decide, _, es, ep, X _ _ e1, ⟨rfl, rfl, rfl⟩, rfl, ?_⟩
  rw [e2]
  exact rows_of hr
noncomputable def isOp (k : Str) : Bool := k == ⟨#[38]⟩ || k == ⟨#[124]⟩ || k == ⟨#[94]⟩
noncomputable def datInt : KTD.Dat → Option Int
  | .flat (.int i) => some i
  | _ => none
theorem tok_ops (w : World) : (tokD w).all (fun p => match datInt p.2 with | some n => ((n == 18 || n == 19 || n == 32) == isOp p.1) | none => false) = true := by kernel_rfl
theorem tok_in (w : World) : (inKeys ⟨#[38]⟩ (tokD w) && inKeys ⟨#[124]⟩ (tokD w) && inKeys ⟨#[94]⟩ (tokD w)) = true := by kernel_rfl
inductive TokV (k : Str) : Value → Prop
  | none : isOp k = false → TokV k .none
  | int (n : Int) (u : Tok) : (n == 18 || n == 19 || n == 32) = isOp k → TokV k (.int n u)
theorem mem_of_datum {k : Str} {d : KTD.Dat} : ∀ {D : List (Str × KTD.Dat)}, datumAt k D = some d → (k, d) ∈ D
  | [], h => by simp [datumAt] at h
  | (x, e) :: D, h => by
    unfold datumAt at h
    split at h
    · rename_i hk
      cases h
      have : k = x := by simpa using hk
      rw [this]; exact List.mem_cons_self ..
    · exact List.mem_cons_of_mem _ (mem_of_datum h)
section
variable {w : World} {A : Around} {E : Value → Shared → Prop} {s : Shared} {h₀ : Heap} {k : Str} {tk : Tok} {Q : Value → Shared → Prop} {L : Addr} {m : Str → Option Value}
theorem tok_get1 (F : Fr h₀ L s.heap m) (X : (hd.heap_1 w.params).In h₀) (h : ∀ v, TokV k v → Q v { s with toks := s.toks + 1 }) :
    wpAny (model PG w) A (call (.builtin "dict.get") [.ref 60, .str k tk]) Q E s := by
  have T : Here h₀ s.heap 60 (tokD w) := ⟨tok_tab X, F.keep⟩
  refine call_meetsIn PySem.F.slot_dict_get T.typeIs PySem.F.entry_dict_get (PySem.F.args_dict_get_2 _ _) (meets_get1) ⟨T, fun d v hd hv => h v ?_, fun hn => h _ (.none ?_)⟩
  · have hm := List.all_eq_true.mp (tok_ops w) _ (mem_of_datum hd)
    revert hm hv
    unfold datInt
    cases d with
    | flat p =>
      cases p with
      | int i =>
        intro hv hm
        cases (show Reads s.heap v (PyData.int i) [] from hv s.heap)
        exact .int _ _ (by simpa using hm)
      | _ => intro _ hm; simp at hm
    | _ => intro _ hm; simp at hm
  · have hi := tok_in w
    simp only [Bool.and_eq_true] at hi
    cases ho : isOp k with
    | false => rfl
    | true =>
      exfalso
      unfold isOp at ho
      simp only [Bool.or_eq_true, beq_iff_eq] at ho
      rcases ho with (rfl | rfl) | rfl
      · exact at_of_mem hi.1.1 hn
      · exact at_of_mem hi.1.2 hn
      · exact at_of_mem hi.2 hn
theorem tok_get2 {dv : Value} {r : Option Int} (F : Fr h₀ L s.heap m) (X : (hd.heap_1 w.params).In h₀) (hr : (datumAt k (tokD w)).bind datInt = r) (hr' : (datumAt k (tokD w)).isSome = r.isSome)
    (h : ∀ u, Q (match r with | some n => .int n u | none => dv) { s with toks := s.toks + 1 }) :
    wpAny (model PG w) A (call (.builtin "dict.get") [.ref 60, .str k tk, dv]) Q E s := by
  have T : Here h₀ s.heap 60 (tokD w) := ⟨tok_tab X, F.keep⟩
  refine call_meetsIn PySem.F.slot_dict_get T.typeIs PySem.F.entry_dict_get (PySem.F.args_dict_get_3 _ _ _) (meets_get2) ⟨T, fun d v hd hv => ?_, fun hn => ?_⟩
  · rw [hd] at hr
    have hm := List.all_eq_true.mp (tok_ops w) _ (mem_of_datum hd)
    revert hm hv hr
    show some d >>= datInt = r → _
    unfold datInt
    cases d with
    | flat p =>
      cases p with
      | int i =>
        intro hr hv _
        cases (show Reads s.heap v (PyData.int i) [] from hv s.heap)
        subst hr
        exact h _
      | _ => intro _ _ hm; simp at hm
    | _ => intro _ _ hm; simp at hm
  · rw [hn] at hr
    subst hr
    exact h 0
theorem tok_item {value slice : Expr} {n : Int} (F : Fr h₀ L s.heap m) (X : (hd.heap_1 w.params).In h₀) (hr : (datumAt k (tokD w)).bind datInt = some n)
    (h : ∀ u, Q (.int n u) { s with toks := s.toks + 1 })
    (hs : subscripted slice false (.ref 60) (.str k tk) = operate [.ref 60, .str k tk] (getItem (.ref 60) (.str k tk)) := by with_unfolding_all rfl) :
    wpAny (model PG w) A (subscriptTail value slice (.ref 60) (.str k tk)) Q E s := by
  have T : Here h₀ s.heap 60 (tokD w) := ⟨tok_tab X, F.keep⟩
  have hpl : ((tokD w).all fun p => KTD.plain p.2) = true := by kernel_rfl
  have hin : inKeys k (tokD w) = true := by
    rw [← isSome_datumAt]
    cases hd : datumAt k (tokD w) with
    | none => rw [hd] at hr; cases hr
    | some d => rfl
  refine subscriptTail_builtin_flat T.typeIs slot_dict_getitem.lookup ?_ hs
  unfold getItem
  try with_reducible refine wpAny_holding ?_
  refine wpAny_bind (wpAny_sequenceKey T.typeIs (by decide) ?_)
  refine wpAny_bind (wpAny_callSpecial?_slot (name := Str.ofString "__getitem__") T.typeIs slot_dict_getitem
    (wpAny_call_entry slot_dict_getitem T.typeIs entry_dict_getitem ?_ (args_dict_getitem _ _)))
  show wpAny _ _ (dictGet 60 (.str k tk) >>= _) _ _ s
  refine wpAny_bind (dictGet_text T (fun d v ha hv => wpAny_pure ⟨v, rfl, wpAny_pure ⟨notRef_of_plain (plain_at hpl ha) hv, ?_⟩⟩) fun hn => absurd hn (at_of_mem hin))
  rw [ha] at hr
  revert hr hv
  cases d with
  | flat p =>
    cases p with
    | int i =>
      intro hr hv
      cases (show Reads s.heap v (PyData.int i) [] from hv s.heap)
      cases hr
      exact h _
    | _ => intro hr; cases hr
  | _ => intro hr; cases hr
end
structure TokAt (w : World) (k : Str) (r : Option Int) : Prop where
  at1 : (KTD.datumAt k (tokD w)).bind datInt = r
  at2 : (KTD.datumAt k (tokD w)).isSome = r.isSome
theorem tokAt97 (w : World) (i : Fin 3) : TokAt w ⟨#[97 + i.val]⟩ none := by
  match i with
  | 0 => exact ⟨by kernel_rfl, by kernel_rfl⟩
  | 1 => exact ⟨by kernel_rfl, by kernel_rfl⟩
  | 2 => exact ⟨by kernel_rfl, by kernel_rfl⟩
theorem tokAt126 (w : World) : TokAt w ⟨#[126]⟩ (some 31) := ⟨by kernel_rfl, by kernel_rfl⟩
theorem tokAt40 (w : World) : TokAt w ⟨#[40]⟩ (some 7) := ⟨by kernel_rfl, by kernel_rfl⟩
theorem tokAt38 (w : World) : TokAt w ⟨#[38]⟩ (some 19) := ⟨by kernel_rfl, by kernel_rfl⟩
theorem tokAt124 (w : World) : TokAt w ⟨#[124]⟩ (some 18) := ⟨by kernel_rfl, by kernel_rfl⟩
theorem tokAt94 (w : World) : TokAt w ⟨#[94]⟩ (some 32) := ⟨by kernel_rfl, by kernel_rfl⟩
theorem tok_getT {w : World} {A : Around} {E : Value → Shared → Prop} {s : Shared} {h₀ : Heap} {k : Str} {tk : Tok} {Q : Value → Shared → Prop} {L : Addr} {m : Str → Option Value} {dv : Value} {r : Option Int} (F : Fr h₀ L s.heap m) (X : (hd.heap_1 w.params).In h₀) (hr : TokAt w k r)
    (h : ∀ u, Q (match r with | some n => .int n u | none => dv) { s with toks := s.toks + 1 }) :
    wpAny (model PG w) A (call (.builtin "dict.get") [.ref 60, .str k tk, dv]) Q E s := tok_get2 F X hr.at1 hr.at2 h
theorem tok_itemT {w : World} {A : Around} {E : Value → Shared → Prop} {s : Shared} {h₀ : Heap} {k : Str} {tk : Tok} {Q : Value → Shared → Prop} {L : Addr} {m : Str → Option Value} {value slice : Expr} {n : Int} (F : Fr h₀ L s.heap m) (X : (hd.heap_1 w.params).In h₀) (hr : TokAt w k (some n))
    (h : ∀ u, Q (.int n u) { s with toks := s.toks + 1 })
    (hs : subscripted slice false (.ref 60) (.str k tk) = operate [.ref 60, .str k tk] (getItem (.ref 60) (.str k tk)) := by with_unfolding_all rfl) :
    wpAny (model PG w) A (subscriptTail value slice (.ref 60) (.str k tk)) Q E s := tok_item F X hr.at1 h hs
end Mine
end
section -- TREE
open PySem
namespace Mine
theorem offTREE : True := by
  w_top off
  exact trivial
inductive T where
  | leaf (i : Fin 3)
  | node (k : Fin 3) (tu : Bool) (r : Fin 4) (l rt : T)
theorem neT : Nonempty T := ⟨.leaf 0⟩
noncomputable def rid : Fin 4 → List Nat
  | 0 => []
  | 1 => [34, 40, 34]
  | 2 => [92, 41]
  | 3 => [34, 41, 92, 34, 34]
noncomputable def opc : Fin 3 → Nat
  | 0 => 38
  | 1 => 124
  | 2 => 94
noncomputable def T.core (k : Fin 3) (r : Fin 4) (a b : List Nat) : List Nat := 40 :: (a ++ rid r ++ opc k :: (b ++ [41]))
noncomputable def T.txt : T → List Nat
  | .leaf i => [97 + i.val]
  | .node k tu r l rt => (if tu = true then [126] else []) ++ T.core k r l.txt rt.txt
noncomputable def leafMask : Fin 3 → Nat
  | 0 => 170
  | 1 => 204
  | 2 => 240
noncomputable def opMask (k : Fin 3) (a b : Nat) : Nat := match k with
  | 0 => a &&& b
  | 1 => a ||| b
  | 2 => a ^^^ b
noncomputable def T.mask : T → Nat
  | .leaf i => leafMask i
  | .node k tu r l rt => let m := opMask k l.mask rt.mask; if tu = true then 255 - m else m
noncomputable def T.lv : T → Nat
  | .leaf _ => 1
  | .node _ tu _ l rt => (if tu = true then 2 else 1) + max l.lv rt.lv
noncomputable def T.nodes : T → Nat
  | .leaf _ => 0
  | .node _ _ _ l rt => 1 + l.nodes + rt.nodes
theorem opMask_lt (k : Fin 3) {a b : Nat} (ha : a < 256) (hb : b < 256) : opMask k a b < 256 := by
  unfold opMask
  split
  · exact Nat.lt_of_le_of_lt Nat.and_le_left ha
  · exact Nat.or_lt_two_pow (n := 8) ha hb
  · exact Nat.xor_lt_two_pow (n := 8) ha hb
theorem T.mask_lt : ∀ t : T, t.mask < 256
  | .leaf i => by unfold T.mask leafMask; split <;> decide
  | .node k tu r l rt => by
    unfold T.mask
    have := opMask_lt k l.mask_lt rt.mask_lt
    dsimp only
    split <;> omega
theorem rid_len (r : Fin 4) : (rid r).length ≤ 5 := by
  match r with | 0 => decide | 1 => decide | 2 => decide | 3 => decide
theorem T.txt_len : ∀ t : T, t.txt.length ≤ 1 + 10 * t.nodes
  | .leaf i => by simp [T.txt, T.nodes]
  | .node k tu r l rt => by
    have h1 := l.txt_len
    have h2 := rt.txt_len
    have h3 := rid_len r
    have h4 : (if tu = true then [126] else [] : List Nat).length ≤ 1 := by split <;> decide
    unfold T.txt T.core T.nodes
    simp only [List.length_append, List.length_cons, List.length_nil] at *
    omega
theorem T.lv_le : ∀ t : T, t.lv ≤ 1 + 2 * t.nodes
  | .leaf i => by simp [T.lv, T.nodes]
  | .node k tu r l rt => by
    have h1 := l.lv_le
    have h2 := rt.lv_le
    have h4 : (if tu = true then 2 else 1 : Nat) ≤ 2 := by split <;> decide
    unfold T.lv T.nodes
    have : max l.lv rt.lv ≤ 1 + 2 * l.nodes + 2 * rt.nodes := by omega
    omega
end Mine
end
section -- SL
namespace Mine
theorem offSL : True := by
  w_top off
  exact trivial
theorem str_len (x : Str) : x.cps.toList.length = x.length := by simp [Str.length]
theorem sl_from {x : Str} {i : Nat} (h : i ≤ x.length) : (Txt.slice x (some (i : Int)) none).cps.toList = x.cps.toList.drop i := by
  rw [slice_from_eq (by omega) (by omega) rfl]
  simp only [Int.toNat_natCast]
  have e : (((x.length : Int) - (i : Int)).toNat) = x.length - i := by omega
  rw [e, List.take_of_length_le]
  rw [List.length_drop, str_len]; exact Nat.le_refl _
theorem sl_mid {x : Str} {i j : Nat} (h1 : i ≤ j) (h : j ≤ x.length) : (Txt.slice x (some (i : Int)) (some (j : Int))).cps.toList = (x.cps.toList.drop i).take (j - i) := by
  have e := eq_of_beq (slice_closes (x := x) (i := (i : Int)) (j := (j : Int)) ⟨by omega, by omega, by rw [str_len]; omega⟩)
  rw [e]
  simp only [Int.toNat_natCast]
  have e : (((j : Int) - (i : Int)).toNat) = j - i := by omega
  rw [e]
theorem sl_to {x : Str} {j : Nat} (h : j ≤ x.length) : (Txt.slice x none (some (j : Int))).cps.toList = x.cps.toList.take j := by
  have e := eq_of_beq (slice_closes_to (x := x) (j := (j : Int)) ⟨by omega, by rw [str_len]; omega⟩)
  rw [e]
  simp
theorem it_at {x : Str} {i : Nat} {c : Nat} (h : x.cps.toList[i]? = some c) : Txt.item x (i : Int) = ⟨#[c]⟩ := by
  have hi : i < x.length := by
    obtain ⟨h1, _⟩ := List.getElem?_eq_some_iff.mp h
    rw [str_len] at h1; exact h1
  unfold Txt.item Txt.charAt seqIndex?
  have h' : x.cps[i]? = some c := by simpa using h
  have e : ¬ ((i : Int) < 0) := by omega
  have e2 : (0 ≤ (i : Int) ∧ (i : Int) < x.length) := by omega
  simp only [if_neg e]
  simp [hi, h']
theorem str_ext {x y : Str} (h : x.cps.toList = y.cps.toList) : x = y := by
  cases x; cases y; simp at h; simp [h]
end Mine
end
section -- READ
namespace Mine
theorem offREAD : True := by
  w_top off
  exact trivial
theorem item0 {prog : Program} {w : World} {A : Around} {E : Value → Shared → Prop} {s : Shared} {value slice : Expr} {x : Str} {t u : Tok} {c : Nat} {r : List Nat} {Q : Value → Shared → Prop} (hc : x.cps.toList = c :: r)
    (h : Q (.str ⟨#[c]⟩ s.toks) { s with toks := s.toks + 1 })
    (hs : subscripted slice false (.str x t) (.int 0 u) = operate [.str x t, .int 0 u] (getItem (.str x t) (.int 0 u)) := by with_unfolding_all rfl)
    (ht : ∀ r, letTemporaryGo value (.str x t) r = pure () := by intro _; with_unfolding_all rfl) :
    wpAny (model prog w) A (subscriptTail value slice (.str x t) (.int 0 u)) Q E s := by
  have hl : 0 < x.length := by rw [← str_len, hc]; simp
  refine item_str (by decide) (by omega) (by omega) (fun _ => ?_) hs ht
  have e := it_at (x := x) (i := 0) (c := c) (by rw [hc]; rfl)
  rw [show ((0 : Nat) : Int) = 0 from rfl] at e
  rw [e]; exact h
theorem isn_c (w : World) (mean : ExcName → Option Value) (mg mb : Str → Option Value) (n : Int) (t : Tok) : GClaim w mean mg mb 69 4 16 [.int n t] (fun _ => .bool (decide (256 ≤ n))) := by
  w_top off
  intro dp un gd cn cs a ccd cl outer A₀ base h₀ L m news s Q E hB hF hX hN hT hk hdp hu hret
  refine wpAny_call ?_
  k_dflt cell_enter
  (with_reducible rename Fr _ _ _ (fun y => List.lookup y _) => FE0); have FE := fr1 FE0; clear FE0; dsimp only at FE
  (repeat' (first | (k_unfold; (try dsimp only)) | (first | (k_here; (with_reducible show wpAny _ _ (call (Value.ref 246) [Value.str _ _, _]) _ _ _); (first | refine' IH _ _ hy hyl (_ + 1) (_ + 3) _ _ _ _ _ _ _ _ _ _ _ _ _ _ _ _ ?k1 ?k2 ?k3 ?k4 ?k5 ?kK ?kd ?ku ?_ | refine' IHl _ _ hyl1 hyl2 (_ + 1) (_ + 3) _ _ _ _ _ _ _ _ _ _ _ _ _ _ _ _ ?k1 ?k2 ?k3 ?k4 ?k5 ?kK ?kd ?ku ?_ | refine' IHr _ _ hyr1 hyr2 (_ + 1) (_ + 3) _ _ _ _ _ _ _ _ _ _ _ _ _ _ _ _ ?k1 ?k2 ?k3 ?k4 ?k5 ?kK ?kd ?ku ?_); (case k1 => k_asm); (case k2 => k_asm); (case k3 => k_asm); (case k4 => k_asm); (case k5 => k_asm); (case kK => exact rfl); (case kd => (dsimp only [Around.deeper]; omega)); (case ku => (dsimp only [Around.deeper]; omega)); intro tS hS tkS gS FS NS GS; dsimp only) | (k_here; (with_reducible show wpAny _ _ (call (Value.ref 69) [Value.int _ _]) _ _ _); (refine' isn_c _ _ _ _ _ _ (_ + 1) (_ + 3) _ _ _ _ _ _ _ _ _ _ _ _ _ _ _ _ ?k1 ?k2 ?k3 ?k4 ?k5 ?kK ?kd ?ku ?_; (case k1 => k_asm); (case k2 => k_asm); (case k3 => k_asm); (case k4 => k_asm); (case k5 => k_asm); (case kK => exact rfl); (case kd => (dsimp only [Around.deeper]; omega)); (case ku => (dsimp only [Around.deeper]; omega))); intro tS hS tkS gS FS NS GS; dsimp only) | (k_here; (with_reducible show wpAny _ _ (call (Value.builtin "dict.get") [Value.ref 60, Value.str _ _, _]) _ _ _); (refine' tok_getT ?k1 ?k2 hk1 ?_; (case k1 => k_asm); (case k2 => k_asm)); intro u9; dsimp only) | (k_here; (with_reducible show wpAny _ _ (subscriptTail _ _ (Value.str _ _) (Value.int 0 _)) _ _ _); (k_dflt (refine item0 hc ?_))) | (k_here; (with_reducible show wpAny _ _ (call (Value.ref 45) [Value.str _ _]) _ _ _); (refine' iter_call2 ?k1 ?k2 ?k3 ?k4 ?k5 ?_; (case k1 => exact roomTop (by omega) (by omega)); (case k2 => k_asm); (case k3 => k_asm); (case k4 => k_asm); (case k5 => k_asm)); intro aG hG tkG gsG FG NG hgenG GG; refine wpAny_pyIter_gen hgenG ?_) | (k_here; (with_reducible show wpAny _ _ (exec (Stmt.For (Expr.Tuple _ _ _) _ _ _ _) _) _ _ _); refine wpAny_For ?_) | walk1) | (dsimp only; (first | (k_here; (with_reducible show wpAny _ _ (call (Value.ref 246) [Value.str _ _, _]) _ _ _); (first | refine' IH _ _ hy hyl (_ + 1) (_ + 3) _ _ _ _ _ _ _ _ _ _ _ _ _ _ _ _ ?k1 ?k2 ?k3 ?k4 ?k5 ?kK ?kd ?ku ?_ | refine' IHl _ _ hyl1 hyl2 (_ + 1) (_ + 3) _ _ _ _ _ _ _ _ _ _ _ _ _ _ _ _ ?k1 ?k2 ?k3 ?k4 ?k5 ?kK ?kd ?ku ?_ | refine' IHr _ _ hyr1 hyr2 (_ + 1) (_ + 3) _ _ _ _ _ _ _ _ _ _ _ _ _ _ _ _ ?k1 ?k2 ?k3 ?k4 ?k5 ?kK ?kd ?ku ?_); (case k1 => k_asm); (case k2 => k_asm); (case k3 => k_asm); (case k4 => k_asm); (case k5 => k_asm); (case kK => exact rfl); (case kd => (dsimp only [Around.deeper]; omega)); (case ku => (dsimp only [Around.deeper]; omega)); intro tS hS tkS gS FS NS GS; dsimp only) | (k_here; (with_reducible show wpAny _ _ (call (Value.ref 69) [Value.int _ _]) _ _ _); (refine' isn_c _ _ _ _ _ _ (_ + 1) (_ + 3) _ _ _ _ _ _ _ _ _ _ _ _ _ _ _ _ ?k1 ?k2 ?k3 ?k4 ?k5 ?kK ?kd ?ku ?_; (case k1 => k_asm); (case k2 => k_asm); (case k3 => k_asm); (case k4 => k_asm); (case k5 => k_asm); (case kK => exact rfl); (case kd => (dsimp only [Around.deeper]; omega)); (case ku => (dsimp only [Around.deeper]; omega))); intro tS hS tkS gS FS NS GS; dsimp only) | (k_here; (with_reducible show wpAny _ _ (call (Value.builtin "dict.get") [Value.ref 60, Value.str _ _, _]) _ _ _); (refine' tok_getT ?k1 ?k2 hk1 ?_; (case k1 => k_asm); (case k2 => k_asm)); intro u9; dsimp only) | (k_here; (with_reducible show wpAny _ _ (subscriptTail _ _ (Value.str _ _) (Value.int 0 _)) _ _ _); (k_dflt (refine item0 hc ?_))) | (k_here; (with_reducible show wpAny _ _ (call (Value.ref 45) [Value.str _ _]) _ _ _); (refine' iter_call2 ?k1 ?k2 ?k3 ?k4 ?k5 ?_; (case k1 => exact roomTop (by omega) (by omega)); (case k2 => k_asm); (case k3 => k_asm); (case k4 => k_asm); (case k5 => k_asm)); intro aG hG tkG gsG FG NG hgenG GG; refine wpAny_pyIter_gen hgenG ?_) | (k_here; (with_reducible show wpAny _ _ (exec (Stmt.For (Expr.Tuple _ _ _) _ _ _ _) _) _ _ _); refine wpAny_For ?_) | walk1)) | (leave1; (try dsimp only))))
  exact hret 0 _ _ _ (by k_asm) (by k_asm) (GMore.refl _)
theorem leaf_val (i : _root_.Fin 3) : ([170, 204, 240].getD (256 + ((97 + i.val : Nat) : Int) - 256 - 97).toNat 0 : Int) = (leafMask i : Int) := by
  match i with | 0 => rfl | 1 => rfl | 2 => rfl
theorem read_leaf (w : World) (mean : ExcName → Option Value) (mg mb : Str → Option Value) (i : Fin 3) (x : Str) (sfx : List Nat) (hc : x.cps.toList = (97 + i.val) :: sfx) (t : Tok) (fv : Value) : GClaim w mean mg mb 246 20 160 [.str x t, fv] (fun t => .int (leafMask i) t) := by
  w_top off
  revert w mean mg mb i x sfx t fv
  refine eps7 neW inferInstance inferInstance inferInstance inferInstance inferInstance inferInstance ?_; generalize E7_1 _ _ _ _ _ _ _ _ = w; generalize E7_2 _ _ _ _ _ _ _ _ = mean; generalize E7_3 _ _ _ _ _ _ _ _ = mg; generalize E7_4 _ _ _ _ _ _ _ _ = mb; generalize E7_5 _ _ _ _ _ _ _ _ = i; generalize E7_6 _ _ _ _ _ _ _ _ = x; generalize E7_7 _ _ _ _ _ _ _ _ = sfx
  intro hc
  refine eps2 inferInstance inferInstance ?_; generalize E2_1 _ _ _ = t; generalize E2_2 _ _ _ = fv
  have hk1 := tokAt97 w i
  refine eps8 inferInstance inferInstance inferInstance inferInstance inferInstance inferInstance inferInstance inferInstance ?_; generalize E8_1 _ _ _ _ _ _ _ _ _ = dp; generalize E8_2 _ _ _ _ _ _ _ _ _ = un; generalize E8_3 _ _ _ _ _ _ _ _ _ = gd; generalize E8_4 _ _ _ _ _ _ _ _ _ = cn; generalize E8_5 _ _ _ _ _ _ _ _ _ = cs; generalize E8_6 _ _ _ _ _ _ _ _ _ = a; generalize E8_7 _ _ _ _ _ _ _ _ _ = ccd; generalize E8_8 _ _ _ _ _ _ _ _ _ = cl
  refine eps8 inferInstance neA inferInstance inferInstance inferInstance inferInstance inferInstance neS ?_; generalize E8_1 _ _ _ _ _ _ _ _ _ = outer; generalize E8_2 _ _ _ _ _ _ _ _ _ = A₀; generalize E8_3 _ _ _ _ _ _ _ _ _ = base; generalize E8_4 _ _ _ _ _ _ _ _ _ = h₀; generalize E8_5 _ _ _ _ _ _ _ _ _ = L; generalize E8_6 _ _ _ _ _ _ _ _ _ = m; generalize E8_7 _ _ _ _ _ _ _ _ _ = news; generalize E8_8 _ _ _ _ _ _ _ _ _ = s
  refine eps2 inferInstance inferInstance ?_; generalize E2_1 _ _ _ = Q; generalize E2_2 _ _ _ = E
  intro hB hF hX hN hT hk hdp hu hret
  refine wpAny_call ?_
  k_dflt cell_enter
  (with_reducible rename Fr _ _ _ (fun y => List.lookup y _) => FE0); have FE := fr2 FE0; clear FE0; dsimp only at FE
  (repeat' (first | (k_unfold; (try dsimp only)) | (first | (k_here; (with_reducible show wpAny _ _ (call (Value.ref 246) [Value.str _ _, _]) _ _ _); (first | refine' IH _ _ hy hyl (_ + 1) (_ + 3) _ _ _ _ _ _ _ _ _ _ _ _ _ _ _ _ ?k1 ?k2 ?k3 ?k4 ?k5 ?kK ?kd ?ku ?_ | refine' IHl _ _ hyl1 hyl2 (_ + 1) (_ + 3) _ _ _ _ _ _ _ _ _ _ _ _ _ _ _ _ ?k1 ?k2 ?k3 ?k4 ?k5 ?kK ?kd ?ku ?_ | refine' IHr _ _ hyr1 hyr2 (_ + 1) (_ + 3) _ _ _ _ _ _ _ _ _ _ _ _ _ _ _ _ ?k1 ?k2 ?k3 ?k4 ?k5 ?kK ?kd ?ku ?_); (case k1 => k_asm); (case k2 => k_asm); (case k3 => k_asm); (case k4 => k_asm); (case k5 => k_asm); (case kK => exact rfl); (case kd => (dsimp only [Around.deeper]; omega)); (case ku => (dsimp only [Around.deeper]; omega)); intro tS hS tkS gS FS NS GS; dsimp only) | (k_here; (with_reducible show wpAny _ _ (call (Value.ref 69) [Value.int _ _]) _ _ _); (refine' isn_c _ _ _ _ _ _ (_ + 1) (_ + 3) _ _ _ _ _ _ _ _ _ _ _ _ _ _ _ _ ?k1 ?k2 ?k3 ?k4 ?k5 ?kK ?kd ?ku ?_; (case k1 => k_asm); (case k2 => k_asm); (case k3 => k_asm); (case k4 => k_asm); (case k5 => k_asm); (case kK => exact rfl); (case kd => (dsimp only [Around.deeper]; omega)); (case ku => (dsimp only [Around.deeper]; omega))); intro tS hS tkS gS FS NS GS; dsimp only) | (k_here; (with_reducible show wpAny _ _ (call (Value.builtin "dict.get") [Value.ref 60, Value.str _ _, _]) _ _ _); (refine' tok_getT ?k1 ?k2 hk1 ?_; (case k1 => k_asm); (case k2 => k_asm)); intro u9; dsimp only) | (k_here; (with_reducible show wpAny _ _ (subscriptTail _ _ (Value.str _ _) (Value.int 0 _)) _ _ _); (k_dflt (refine item0 hc ?_))) | (k_here; (with_reducible show wpAny _ _ (call (Value.ref 45) [Value.str _ _]) _ _ _); (refine' iter_call2 ?k1 ?k2 ?k3 ?k4 ?k5 ?_; (case k1 => exact roomTop (by omega) (by omega)); (case k2 => k_asm); (case k3 => k_asm); (case k4 => k_asm); (case k5 => k_asm)); intro aG hG tkG gsG FG NG hgenG GG; refine wpAny_pyIter_gen hgenG ?_) | (k_here; (with_reducible show wpAny _ _ (exec (Stmt.For (Expr.Tuple _ _ _) _ _ _ _) _) _ _ _); refine wpAny_For ?_) | walk1) | (dsimp only; (first | (k_here; (with_reducible show wpAny _ _ (call (Value.ref 246) [Value.str _ _, _]) _ _ _); (first | refine' IH _ _ hy hyl (_ + 1) (_ + 3) _ _ _ _ _ _ _ _ _ _ _ _ _ _ _ _ ?k1 ?k2 ?k3 ?k4 ?k5 ?kK ?kd ?ku ?_ | refine' IHl _ _ hyl1 hyl2 (_ + 1) (_ + 3) _ _ _ _ _ _ _ _ _ _ _ _ _ _ _ _ ?k1 ?k2 ?k3 ?k4 ?k5 ?kK ?kd ?ku ?_ | refine' IHr _ _ hyr1 hyr2 (_ + 1) (_ + 3) _ _ _ _ _ _ _ _ _ _ _ _ _ _ _ _ ?k1 ?k2 ?k3 ?k4 ?k5 ?kK ?kd ?ku ?_); (case k1 => k_asm); (case k2 => k_asm); (case k3 => k_asm); (case k4 => k_asm); (case k5 => k_asm); (case kK => exact rfl); (case kd => (dsimp only [Around.deeper]; omega)); (case ku => (dsimp only [Around.deeper]; omega)); intro tS hS tkS gS FS NS GS; dsimp only) | (k_here; (with_reducible show wpAny _ _ (call (Value.ref 69) [Value.int _ _]) _ _ _); (refine' isn_c _ _ _ _ _ _ (_ + 1) (_ + 3) _ _ _ _ _ _ _ _ _ _ _ _ _ _ _ _ ?k1 ?k2 ?k3 ?k4 ?k5 ?kK ?kd ?ku ?_; (case k1 => k_asm); (case k2 => k_asm); (case k3 => k_asm); (case k4 => k_asm); (case k5 => k_asm); (case kK => exact rfl); (case kd => (dsimp only [Around.deeper]; omega)); (case ku => (dsimp only [Around.deeper]; omega))); intro tS hS tkS gS FS NS GS; dsimp only) | (k_here; (with_reducible show wpAny _ _ (call (Value.builtin "dict.get") [Value.ref 60, Value.str _ _, _]) _ _ _); (refine' tok_getT ?k1 ?k2 hk1 ?_; (case k1 => k_asm); (case k2 => k_asm)); intro u9; dsimp only) | (k_here; (with_reducible show wpAny _ _ (subscriptTail _ _ (Value.str _ _) (Value.int 0 _)) _ _ _); (k_dflt (refine item0 hc ?_))) | (k_here; (with_reducible show wpAny _ _ (call (Value.ref 45) [Value.str _ _]) _ _ _); (refine' iter_call2 ?k1 ?k2 ?k3 ?k4 ?k5 ?_; (case k1 => exact roomTop (by omega) (by omega)); (case k2 => k_asm); (case k3 => k_asm); (case k4 => k_asm); (case k5 => k_asm)); intro aG hG tkG gsG FG NG hgenG GG; refine wpAny_pyIter_gen hgenG ?_) | (k_here; (with_reducible show wpAny _ _ (exec (Stmt.For (Expr.Tuple _ _ _) _ _ _ _) _) _ _ _); refine wpAny_For ?_) | walk1)) | (leave1; (try dsimp only))))
  rw [leaf_val i]
  (rename News h₀ L _ _ => kN2)
  exact hret _ _ _ _ (by k_asm) (fun p hp => kN2 p (List.mem_cons_of_mem _ hp)) GS
theorem read_tilde (w : World) (mean : ExcName → Option Value) (mg mb : Str → Option Value) (x : Str) (r : List Nat) (hc : x.cps.toList = 126 :: r) (hx : x.length ≤ 1000) (t : Tok) (fv : Value) (D U mk : Nat) (hmk : mk < 256) (hD : 4 ≤ D) (hU : 16 ≤ U)
    (IH : ∀ (y : Str) (t : Tok), y.cps.toList = r → y.length ≤ 1000 → GClaim w mean mg mb 246 D U [.str y t, fv] (fun t => .int mk t)) : GClaim w mean mg mb 246 (D + 1) (U + 3) [.str x t, fv] (fun t => .int ((255 - mk : Nat) : Int) t) := by
  w_top off
  revert w mean mg mb x r t fv D U mk
  refine eps6 neW inferInstance inferInstance inferInstance inferInstance inferInstance ?_; generalize E6_1 _ _ _ _ _ _ _ = w; generalize E6_2 _ _ _ _ _ _ _ = mean; generalize E6_3 _ _ _ _ _ _ _ = mg; generalize E6_4 _ _ _ _ _ _ _ = mb; generalize E6_5 _ _ _ _ _ _ _ = x; generalize E6_6 _ _ _ _ _ _ _ = r
  intro hc hx
  refine eps5 inferInstance inferInstance inferInstance inferInstance inferInstance ?_; generalize E5_1 _ _ _ _ _ _ = t; generalize E5_2 _ _ _ _ _ _ = fv; generalize E5_3 _ _ _ _ _ _ = D; generalize E5_4 _ _ _ _ _ _ = U; generalize E5_5 _ _ _ _ _ _ = mk
  intro hmk hD hU IH
  have hk1 := tokAt126 w
  have hl : x.length = r.length + 1 := by rw [← str_len, hc]; simp
  have hy : (Txt.slice x (some 1) none).cps.toList = r := by
    have := sl_from (x := x) (i := 1) (by omega)
    rw [hc] at this; exact this
  have hyl : (Txt.slice x (some 1) none).length ≤ 1000 := Nat.le_trans (Txt.slice_le x _ _) hx
  refine eps8 inferInstance inferInstance inferInstance inferInstance inferInstance inferInstance inferInstance inferInstance ?_; generalize E8_1 _ _ _ _ _ _ _ _ _ = dp; generalize E8_2 _ _ _ _ _ _ _ _ _ = un; generalize E8_3 _ _ _ _ _ _ _ _ _ = gd; generalize E8_4 _ _ _ _ _ _ _ _ _ = cn; generalize E8_5 _ _ _ _ _ _ _ _ _ = cs; generalize E8_6 _ _ _ _ _ _ _ _ _ = a; generalize E8_7 _ _ _ _ _ _ _ _ _ = ccd; generalize E8_8 _ _ _ _ _ _ _ _ _ = cl
  refine eps8 inferInstance neA inferInstance inferInstance inferInstance inferInstance inferInstance neS ?_; generalize E8_1 _ _ _ _ _ _ _ _ _ = outer; generalize E8_2 _ _ _ _ _ _ _ _ _ = A₀; generalize E8_3 _ _ _ _ _ _ _ _ _ = base; generalize E8_4 _ _ _ _ _ _ _ _ _ = h₀; generalize E8_5 _ _ _ _ _ _ _ _ _ = L; generalize E8_6 _ _ _ _ _ _ _ _ _ = m; generalize E8_7 _ _ _ _ _ _ _ _ _ = news; generalize E8_8 _ _ _ _ _ _ _ _ _ = s
  refine eps2 inferInstance inferInstance ?_; generalize E2_1 _ _ _ = Q; generalize E2_2 _ _ _ = E
  intro hB hF hX hN hT hk hdp hu hret
  refine wpAny_call ?_
  k_dflt cell_enter
  (with_reducible rename Fr _ _ _ (fun y => List.lookup y _) => FE0); have FE := fr2 FE0; clear FE0; dsimp only at FE
  (repeat' (first | (k_unfold; (try dsimp only)) | (first | (k_here; (with_reducible show wpAny _ _ (call (Value.ref 246) [Value.str _ _, _]) _ _ _); (first | refine' IH _ _ hy hyl (_ + 1) (_ + 3) _ _ _ _ _ _ _ _ _ _ _ _ _ _ _ _ ?k1 ?k2 ?k3 ?k4 ?k5 ?kK ?kd ?ku ?_ | refine' IHl _ _ hyl1 hyl2 (_ + 1) (_ + 3) _ _ _ _ _ _ _ _ _ _ _ _ _ _ _ _ ?k1 ?k2 ?k3 ?k4 ?k5 ?kK ?kd ?ku ?_ | refine' IHr _ _ hyr1 hyr2 (_ + 1) (_ + 3) _ _ _ _ _ _ _ _ _ _ _ _ _ _ _ _ ?k1 ?k2 ?k3 ?k4 ?k5 ?kK ?kd ?ku ?_); (case k1 => k_asm); (case k2 => k_asm); (case k3 => k_asm); (case k4 => k_asm); (case k5 => k_asm); (case kK => exact rfl); (case kd => (dsimp only [Around.deeper]; omega)); (case ku => (dsimp only [Around.deeper]; omega)); intro tS hS tkS gS FS NS GS; dsimp only) | (k_here; (with_reducible show wpAny _ _ (call (Value.ref 69) [Value.int _ _]) _ _ _); (refine' isn_c _ _ _ _ _ _ (_ + 1) (_ + 3) _ _ _ _ _ _ _ _ _ _ _ _ _ _ _ _ ?k1 ?k2 ?k3 ?k4 ?k5 ?kK ?kd ?ku ?_; (case k1 => k_asm); (case k2 => k_asm); (case k3 => k_asm); (case k4 => k_asm); (case k5 => k_asm); (case kK => exact rfl); (case kd => (dsimp only [Around.deeper]; omega)); (case ku => (dsimp only [Around.deeper]; omega))); intro tS hS tkS gS FS NS GS; dsimp only) | (k_here; (with_reducible show wpAny _ _ (call (Value.builtin "dict.get") [Value.ref 60, Value.str _ _, _]) _ _ _); (refine' tok_getT ?k1 ?k2 hk1 ?_; (case k1 => k_asm); (case k2 => k_asm)); intro u9; dsimp only) | (k_here; (with_reducible show wpAny _ _ (subscriptTail _ _ (Value.str _ _) (Value.int 0 _)) _ _ _); (k_dflt (refine item0 hc ?_))) | (k_here; (with_reducible show wpAny _ _ (call (Value.ref 45) [Value.str _ _]) _ _ _); (refine' iter_call2 ?k1 ?k2 ?k3 ?k4 ?k5 ?_; (case k1 => exact roomTop (by omega) (by omega)); (case k2 => k_asm); (case k3 => k_asm); (case k4 => k_asm); (case k5 => k_asm)); intro aG hG tkG gsG FG NG hgenG GG; refine wpAny_pyIter_gen hgenG ?_) | (k_here; (with_reducible show wpAny _ _ (exec (Stmt.For (Expr.Tuple _ _ _) _ _ _ _) _) _ _ _); refine wpAny_For ?_) | walk1) | (dsimp only; (first | (k_here; (with_reducible show wpAny _ _ (call (Value.ref 246) [Value.str _ _, _]) _ _ _); (first | refine' IH _ _ hy hyl (_ + 1) (_ + 3) _ _ _ _ _ _ _ _ _ _ _ _ _ _ _ _ ?k1 ?k2 ?k3 ?k4 ?k5 ?kK ?kd ?ku ?_ | refine' IHl _ _ hyl1 hyl2 (_ + 1) (_ + 3) _ _ _ _ _ _ _ _ _ _ _ _ _ _ _ _ ?k1 ?k2 ?k3 ?k4 ?k5 ?kK ?kd ?ku ?_ | refine' IHr _ _ hyr1 hyr2 (_ + 1) (_ + 3) _ _ _ _ _ _ _ _ _ _ _ _ _ _ _ _ ?k1 ?k2 ?k3 ?k4 ?k5 ?kK ?kd ?ku ?_); (case k1 => k_asm); (case k2 => k_asm); (case k3 => k_asm); (case k4 => k_asm); (case k5 => k_asm); (case kK => exact rfl); (case kd => (dsimp only [Around.deeper]; omega)); (case ku => (dsimp only [Around.deeper]; omega)); intro tS hS tkS gS FS NS GS; dsimp only) | (k_here; (with_reducible show wpAny _ _ (call (Value.ref 69) [Value.int _ _]) _ _ _); (refine' isn_c _ _ _ _ _ _ (_ + 1) (_ + 3) _ _ _ _ _ _ _ _ _ _ _ _ _ _ _ _ ?k1 ?k2 ?k3 ?k4 ?k5 ?kK ?kd ?ku ?_; (case k1 => k_asm); (case k2 => k_asm); (case k3 => k_asm); (case k4 => k_asm); (case k5 => k_asm); (case kK => exact rfl); (case kd => (dsimp only [Around.deeper]; omega)); (case ku => (dsimp only [Around.deeper]; omega))); intro tS hS tkS gS FS NS GS; dsimp only) | (k_here; (with_reducible show wpAny _ _ (call (Value.builtin "dict.get") [Value.ref 60, Value.str _ _, _]) _ _ _); (refine' tok_getT ?k1 ?k2 hk1 ?_; (case k1 => k_asm); (case k2 => k_asm)); intro u9; dsimp only) | (k_here; (with_reducible show wpAny _ _ (subscriptTail _ _ (Value.str _ _) (Value.int 0 _)) _ _ _); (k_dflt (refine item0 hc ?_))) | (k_here; (with_reducible show wpAny _ _ (call (Value.ref 45) [Value.str _ _]) _ _ _); (refine' iter_call2 ?k1 ?k2 ?k3 ?k4 ?k5 ?_; (case k1 => exact roomTop (by omega) (by omega)); (case k2 => k_asm); (case k3 => k_asm); (case k4 => k_asm); (case k5 => k_asm)); intro aG hG tkG gsG FG NG hgenG GG; refine wpAny_pyIter_gen hgenG ?_) | (k_here; (with_reducible show wpAny _ _ (exec (Stmt.For (Expr.Tuple _ _ _) _ _ _ _) _) _ _ _); refine wpAny_For ?_) | walk1)) | (leave1; (try dsimp only))))
  have e : (255 - (mk : Int)) = ((255 - mk : Nat) : Int) := by omega
  rw [e]
  exact hret _ _ _ _ (by k_asm) (by k_asm) (GMore.trans (by assumption) GS)
end Mine
end
section -- INOPS
namespace Mine
theorem offINOPS : True := by
  w_top off
  exact trivial
open PySem.SeqAt PySem.MeetsSeq
section
variable {w : World} {A : Around} {E : Value → Shared → Prop} {s : Shared} {h₀ : Heap} {k : Str} {Q : Value → Shared → Prop} {L l : Addr} {rest : List (Addr × Obj)} {t1 t2 t3 : Tok} {n : Nat} {v : Value} {o : Obj}
theorem in_ops (N : News h₀ L s.heap ((l, o) :: rest)) (hc : o.cls = .type "tuple") (hd : o.data = .seq #[.int 18 t1, .int 19 t2, .int 32 t3] n) (hv : TokV k v) (h : Q (.bool (isOp k)) s) :
    wpAny (model PG w) A (compareOp .In v (.ref l)) Q E s := by
  have hl : s.heap.IsTuple l #[.int 18 t1, .int 19 t2, .int 32 t3] := ⟨o, (N _ (List.mem_cons_self ..)).1, hc, n, hd⟩
  cases hv with
  | none hk =>
    refine in_tupleAt (fun _ => false) hl ?_ ?_
    · intro y hy
      simp only [List.mem_toArray, List.mem_cons, List.not_mem_nil, or_false] at hy
      rcases hy with rfl | rfl | rfl <;> exact EqAt.int_none _ _
    · have : (#[Value.int 18 t1, Value.int 19 t2, Value.int 32 t3].any fun _ => false) = isOp k := by rw [hk]; simp
      rw [this]; exact h
  | int n u hk =>
    refine in_tupleAt (fun y => match y with | .int a _ => a == n | _ => false) hl ?_ ?_
    · intro y hy
      simp only [List.mem_toArray, List.mem_cons, List.not_mem_nil, or_false] at hy
      rcases hy with rfl | rfl | rfl <;> exact (EqGives.int _ _ _ _).at _ _
    · have : (#[Value.int 18 t1, Value.int 19 t2, Value.int 32 t3].any (fun y => match y with | .int a _ => a == n | _ => false)) = isOp k := by
        rw [← hk]
        simp only [← Array.any_toList, List.any_cons, List.any_nil, Bool.or_false, Bool.or_assoc]
        rw [Bool.beq_comm (a := (18:Int)), Bool.beq_comm (a := (19:Int)), Bool.beq_comm (a := (32:Int))]
      rw [this]; exact h
end
end Mine
end
section -- BITS
namespace Mine
theorem offBITS : True := by
  w_top off
  exact trivial
theorem or_xor : ∀ (a b : Nat), a ||| b = (a ^^^ b) + (a &&& b) := by
  intro a
  induction a using Nat.strongRecOn with
  | _ a ih =>
    intro b
    by_cases h0 : a = 0
    · subst h0; simp
    · have h := ih (a / 2) (by omega) (b / 2)
      have e1 : (a ||| b) / 2 = a / 2 ||| b / 2 := Nat.or_div_two
      have e2 : (a ^^^ b) / 2 = a / 2 ^^^ b / 2 := Nat.xor_div_two
      have e3 : (a &&& b) / 2 = a / 2 &&& b / 2 := Nat.and_div_two
      have m1 : (a ||| b) % 2 = a % 2 ||| b % 2 := by simpa using Nat.or_mod_two_pow (a := a) (b := b) (n := 1)
      have m2 : (a ^^^ b) % 2 = a % 2 ^^^ b % 2 := by simpa using Nat.xor_mod_two_pow (a := a) (b := b) (n := 1)
      have m3 : (a &&& b) % 2 = a % 2 &&& b % 2 := by simpa using Nat.and_mod_two_pow (a := a) (b := b) (n := 1)
      have hm : a % 2 ||| b % 2 = (a % 2 ^^^ b % 2) + (a % 2 &&& b % 2) := by
        rcases Nat.mod_two_eq_zero_or_one a with h1 | h1 <;> rcases Nat.mod_two_eq_zero_or_one b with h2 | h2 <;> rw [h1, h2] <;> decide
      omega
theorem bAnd (a b : Nat) : Builtin.bitAnd (a : Int) (b : Int) = ((a &&& b : Nat) : Int) := by
  unfold Builtin.bitAnd
  rw [decide_eq_true (Int.natCast_nonneg a), decide_eq_true (Int.natCast_nonneg b)]
  rfl
theorem bOr (a b : Nat) : Builtin.bitOr (a : Int) (b : Int) = ((a ||| b : Nat) : Int) := by
  unfold Builtin.bitOr Builtin.bitAnd
  have h1 : ¬ 0 ≤ Builtin.bitNot (a : Int) := by unfold Builtin.bitNot; omega
  have h2 : ¬ 0 ≤ Builtin.bitNot (b : Int) := by unfold Builtin.bitNot; omega
  rw [decide_eq_false h1, decide_eq_false h2]
  have e : ∀ z : Int, Builtin.bitNot (Builtin.bitNot z) = z := by intro z; unfold Builtin.bitNot; omega
  simp only [e, Int.toNat_natCast]
theorem bXor (a b : Nat) : Builtin.bitXor (a : Int) (b : Int) = ((a ^^^ b : Nat) : Int) := by
  unfold Builtin.bitXor
  rw [bOr, bAnd, or_xor]
  omega
end Mine
end
section -- READN
namespace Mine
theorem offREADN : True := by
  w_top off
  exact trivial
theorem anyTok {α : Type} {M : Model} {A : Around} {t : Sem α} {Q : α → Shared → Prop} {E : Value → Shared → Prop} {h : Heap} {g : Array GenState} {d : Drawn} {tk : Nat} {os : OsState} (H : ∀ tk, wpAny M A t Q E ⟨h, g, d, tk, os⟩) : wpAny M A t Q E ⟨h, g, d, tk, os⟩ := H tk
theorem itemK {prog : Program} {w : World} {A : Around} {E : Value → Shared → Prop} {s : Shared} {value slice : Expr} {x : Str} {t u : Tok} {c i : Nat} {Q : Value → Shared → Prop} (hx : x.length ≤ 1000) (hl : i < x.length) (hat : Txt.item x (i : Int) = ⟨#[c]⟩)
    (h : Q (.str ⟨#[c]⟩ s.toks) { s with toks := s.toks + 1 })
    (hs : subscripted slice false (.str x t) (.int (i : Int) u) = operate [.str x t, .int (i : Int) u] (getItem (.str x t) (.int (i : Int) u)) := by with_unfolding_all rfl)
    (ht : ∀ r, letTemporaryGo value (.str x t) r = pure () := by intro _; with_unfolding_all rfl) :
    wpAny (model prog w) A (subscriptTail value slice (.str x t) (.int (i : Int) u)) Q E s := by
  refine item_str (by unfold fitsSsize; simp; omega) (by omega) (by omega) (fun _ => ?_) hs ht
  rw [hat]; exact h
local macro_rules | `(tactic| k_all) => `(tactic| assumption)
noncomputable abbrev mpR (sg pl : Option Value) (l : Addr) (rs : Str) (tr : Tok) (tkd : Tok) (fv : Value) (x : Str) (t : Tok) : Str → Option Value := fun y => if y = Str.ofString "sign" then sg else if y = Str.ofString "place" then pl else if y = Str.ofString "cuts" then some (.ref l) else if y = Str.ofString "rest" then some (.str rs tr) else if y = Str.ofString "kind" then some (.int 7 tkd) else if y = Str.ofString "faults" then some fv else if y = Str.ofString "text" then some (.str x t) else none
theorem mpR_two {sg pl : Option Value} {l : Addr} {rs : Str} {tr tkd : Tok} {fv : Value} {x : Str} {t : Tok} {v u : Option Value} : (fun y => if y = Str.ofString "sign" then v else if y = Str.ofString "place" then u else mpR sg pl l rs tr tkd fv x t y) = mpR v u l rs tr tkd fv x t := by
  funext y; unfold mpR
  have n1 : ¬ Str.ofString "place" = Str.ofString "sign" := by decide
  by_cases h : y = Str.ofString "sign"
  · simp [h]
  · by_cases h2 : y = Str.ofString "place"
    · subst h2; simp [n1]
    · simp [h, h2]
theorem mpR_init {l : Addr} {rs : Str} {tr tkd : Tok} {fv : Value} {x : Str} {t : Tok} : (fun y => if y = Str.ofString "cuts" then some (.ref l) else if y = Str.ofString "rest" then some (.str rs tr) else if y = Str.ofString "kind" then some (.int 7 tkd) else if y = Str.ofString "faults" then some fv else if y = Str.ofString "text" then some (.str x t) else none) = mpR none none l rs tr tkd fv x t := by
  funext y; unfold mpR
  have n1 : ¬ Str.ofString "cuts" = Str.ofString "sign" := by decide
  have n2 : ¬ Str.ofString "cuts" = Str.ofString "place" := by decide
  have n3 : ¬ Str.ofString "rest" = Str.ofString "sign" := by decide
  have n4 : ¬ Str.ofString "rest" = Str.ofString "place" := by decide
  have n5 : ¬ Str.ofString "kind" = Str.ofString "sign" := by decide
  have n6 : ¬ Str.ofString "kind" = Str.ofString "place" := by decide
  have n7 : ¬ Str.ofString "faults" = Str.ofString "sign" := by decide
  have n8 : ¬ Str.ofString "faults" = Str.ofString "place" := by decide
  have n9 : ¬ Str.ofString "text" = Str.ofString "sign" := by decide
  have n10 : ¬ Str.ofString "text" = Str.ofString "place" := by decide
  by_cases h1 : y = Str.ofString "sign"
  · subst h1; rfl
  · by_cases h2 : y = Str.ofString "place"
    · subst h2; rfl
    · rw [if_neg h1, if_neg h2]
noncomputable def preS (rs : Str) (i : Int) : Str := Txt.slice rs none (some i)
noncomputable def stepR (rs : Str) (cs : List Int) (p : Int × Str) : List Int := if (isOp p.2 && checkS (preS rs p.1)) = true then cs ++ [p.1] else cs
noncomputable def cutsR (rs : Str) : List Int := (esc false 0 rs.cps.toList).foldl (stepR rs) []
theorem ints_one {vs : List Value} {i : Int} (h : IntsAre vs [i]) : ∃ t, vs = [Value.int i t] := by
  cases h with | cons _ t h' => cases h'; exact ⟨t, rfl⟩
theorem len0 {vs : List Value} {cs : List Int} {m : Nat} (h : IntsAre vs cs) (hl : cs.length + m ≤ 1000) : vs.length ≤ 1000 := by have := h.length; omega
theorem len1 {cs : List Int} {p : Int × Str} {r : List (Int × Str)} (h : cs.length + (p :: r).length ≤ 1000) : cs.length + r.length ≤ 1000 := by simp at h; omega
theorem len2 {cs : List Int} {i : Int} {p : Int × Str} {r : List (Int × Str)} (h : cs.length + (p :: r).length ≤ 1000) : (cs ++ [i]).length + r.length ≤ 1000 := by simp at *; omega
theorem ints_snoc : ∀ {vs : List Value} {cs : List Int} {i : Int} {t : Tok}, IntsAre vs cs → IntsAre (vs ++ [Value.int i t]) (cs ++ [i])
  | _, _, _, _, .nil => .cons _ _ .nil
  | _, _, _, _, .cons _ _ h => .cons _ _ (ints_snoc h)
noncomputable def kn : _root_.Fin 3 → Int
  | 0 => 19
  | 1 => 18
  | 2 => 32
theorem op_and {k : _root_.Fin 3} {a b : Nat} (h : (kn k == 19) = true) : Builtin.bitAnd (a : Int) (b : Int) = (opMask k a b : Nat) := by
  match k with
  | 0 => exact bAnd a b
  | 1 => exact absurd h (by decide)
  | 2 => exact absurd h (by decide)
theorem op_or {k : _root_.Fin 3} {a b : Nat} (h : (kn k == 18) = true) : Builtin.bitOr (a : Int) (b : Int) = (opMask k a b : Nat) := by
  match k with
  | 0 => exact absurd h (by decide)
  | 1 => exact bOr a b
  | 2 => exact absurd h (by decide)
theorem op_xor {k : _root_.Fin 3} {a b : Nat} (h : (kn k == 19) = false) (h2 : (kn k == 18) = false) : Builtin.bitXor (a : Int) (b : Int) = (opMask k a b : Nat) := by
  match k with
  | 0 => exact absurd h (by decide)
  | 1 => exact absurd h2 (by decide)
  | 2 => exact bXor a b
theorem tokAtOp (w : World) (k : _root_.Fin 3) : TokAt w ⟨#[opc k]⟩ (some (kn k)) := by
  match k with
  | 0 => exact tokAt38 w
  | 1 => exact tokAt124 w
  | 2 => exact tokAt94 w
structure NF (x : Str) (k : _root_.Fin 3) (pre post : List Nat) : Prop where
  hyl1 : (Txt.slice (Txt.slice x (some 1) none) none (some (pre.length : Int))).cps.toList = pre
  hyl2 : (Txt.slice (Txt.slice x (some 1) none) none (some (pre.length : Int))).length ≤ 1000
  hyr1 : (Txt.slice (Txt.slice x (some 1) none) (some ((pre.length : Int) + 1)) none).cps.toList = post
  hyr2 : (Txt.slice (Txt.slice x (some 1) none) (some ((pre.length : Int) + 1)) none).length ≤ 1000
  hat : Txt.item (Txt.slice x (some 1) none) (pre.length : Int) = ⟨#[opc k]⟩
  hrl : pre.length < (Txt.slice x (some 1) none).length
  hcut : cutsR (Txt.slice x (some 1) none) = [(pre.length : Int)]
theorem nf {x : Str} {k : _root_.Fin 3} {pre post : List Nat} (hc : x.cps.toList = 40 :: (pre ++ opc k :: post)) (hx : x.length ≤ 1000)
    (hcut : ∀ y : Str, y.cps.toList = pre ++ opc k :: post → cutsR y = [(pre.length : Int)]) : NF x k pre post := by
  have hrx : (Txt.slice x (some 1) none).length ≤ 1000 := Nat.le_trans (Txt.slice_le _ _ _) hx
  have hl : x.length = pre.length + 1 + post.length + 1 := by rw [← str_len, hc]; simp; omega
  have hrs : (Txt.slice x (some 1) none).cps.toList = pre ++ opc k :: post := by
    have := sl_from (x := x) (i := 1) (by omega)
    rw [hc] at this; exact this
  have hrl : (Txt.slice x (some 1) none).length = pre.length + 1 + post.length := by rw [← str_len, hrs]; simp; omega
  refine ⟨?_, Nat.le_trans (Txt.slice_le _ _ _) hrx, ?_, Nat.le_trans (Txt.slice_le _ _ _) hrx, it_at (by rw [hrs]; simp), by omega, hcut _ hrs⟩
  · rw [sl_to (by omega), hrs]; simp
  · have := sl_from (x := Txt.slice x (some 1) none) (i := pre.length + 1) (by omega)
    rw [hrs] at this
    rw [show ((pre.length : Int) + 1) = ((pre.length + 1 : Nat) : Int) by omega, this]; simp
structure IHs (w : World) (mean : ExcName → Option Value) (mg mb : Str → Option Value) (k : _root_.Fin 3) (pre post : List Nat) (fv : Value) (D U ml mr : Nat) : Prop where
  IHl : ∀ (y : Str) (t : Tok), y.cps.toList = pre → y.length ≤ 1000 → GClaim w mean mg mb 246 D U [.str y t, fv] (fun t => .int ml t)
  IHr : ∀ (y : Str) (t : Tok), y.cps.toList = post → y.length ≤ 1000 → GClaim w mean mg mb 246 D U [.str y t, fv] (fun t => .int mr t)
  hk2 : TokAt w ⟨#[opc k]⟩ (some (kn k))
theorem read_node (w : World) (mean : ExcName → Option Value) (mg mb : Str → Option Value) (k : _root_.Fin 3) (pre post : List Nat) (x : Str) (hc : ∃ r, x.cps.toList = 40 :: r) (hx : x.length ≤ 1000) (t : Tok) (fv : Value) (D U ml mr : Nat) (hD : 40 ≤ D) (hU : 300 ≤ U)
    (hnf : NF x k pre post) (IH : IHs w mean mg mb k pre post fv D U ml mr) :
    GClaim w mean mg mb 246 (D + 1) (U + 3) [.str x t, fv] (fun t => .int (opMask k ml mr : Nat) t) := by
  w_top off
  revert w mean mg mb k pre post x t fv D U ml mr
  refine eps8 neW inferInstance inferInstance inferInstance inferInstance inferInstance inferInstance inferInstance ?_; generalize E8_1 _ _ _ _ _ _ _ _ _ = w; generalize E8_2 _ _ _ _ _ _ _ _ _ = mean; generalize E8_3 _ _ _ _ _ _ _ _ _ = mg; generalize E8_4 _ _ _ _ _ _ _ _ _ = mb; generalize E8_5 _ _ _ _ _ _ _ _ _ = k; generalize E8_6 _ _ _ _ _ _ _ _ _ = pre; generalize E8_7 _ _ _ _ _ _ _ _ _ = post; generalize E8_8 _ _ _ _ _ _ _ _ _ = x
  intro hc hx
  refine eps6 inferInstance inferInstance inferInstance inferInstance inferInstance inferInstance ?_; generalize E6_1 _ _ _ _ _ _ _ = t; generalize E6_2 _ _ _ _ _ _ _ = fv; generalize E6_3 _ _ _ _ _ _ _ = D; generalize E6_4 _ _ _ _ _ _ _ = U; generalize E6_5 _ _ _ _ _ _ _ = ml; generalize E6_6 _ _ _ _ _ _ _ = mr
  intro hD hU hnf IH
  have hk1 := tokAt40 w
  obtain ⟨r, hc⟩ := hc
  have hrx : (Txt.slice x (some 1) none).length ≤ 1000 := Nat.le_trans (Txt.slice_le _ _ _) hx
  refine eps8 inferInstance inferInstance inferInstance inferInstance inferInstance inferInstance inferInstance inferInstance ?_; generalize E8_1 _ _ _ _ _ _ _ _ _ = dp; generalize E8_2 _ _ _ _ _ _ _ _ _ = un; generalize E8_3 _ _ _ _ _ _ _ _ _ = gd; generalize E8_4 _ _ _ _ _ _ _ _ _ = cn; generalize E8_5 _ _ _ _ _ _ _ _ _ = cs; generalize E8_6 _ _ _ _ _ _ _ _ _ = a; generalize E8_7 _ _ _ _ _ _ _ _ _ = ccd; generalize E8_8 _ _ _ _ _ _ _ _ _ = cl
  refine eps8 inferInstance neA inferInstance inferInstance inferInstance inferInstance inferInstance neS ?_; generalize E8_1 _ _ _ _ _ _ _ _ _ = outer; generalize E8_2 _ _ _ _ _ _ _ _ _ = A₀; generalize E8_3 _ _ _ _ _ _ _ _ _ = base; generalize E8_4 _ _ _ _ _ _ _ _ _ = h₀; generalize E8_5 _ _ _ _ _ _ _ _ _ = L; generalize E8_6 _ _ _ _ _ _ _ _ _ = m; generalize E8_7 _ _ _ _ _ _ _ _ _ = news; generalize E8_8 _ _ _ _ _ _ _ _ _ = s
  refine eps2 inferInstance inferInstance ?_; generalize E2_1 _ _ _ = Q; generalize E2_2 _ _ _ = E
  intro hB hF hX hN hT hk hdp hu hret
  refine wpAny_call ?_
  k_dflt cell_enter
  (with_reducible rename Fr _ _ _ (fun y => List.lookup y _) => FE0); have FE := fr2 FE0; clear FE0; dsimp only at FE
  refine anyTok fun tk0 => ?_
  (repeat' (first | (k_unfold; (try dsimp only)) | (first | (k_here; (with_reducible show wpAny _ _ (subscriptTail _ _ (Value.ref 60) (Value.str _ _)) _ _ _); (k_dflt (refine' tok_itemT ?k1 ?k2 hk2 ?_; (case k1 => k_asm); (case k2 => k_asm))); intro u8; dsimp only) | (k_here; (with_reducible show wpAny _ _ (subscriptTail _ _ (Value.str _ _) (Value.int _ _)) _ _ _); (k_dflt (refine itemK hrx hrl hat ?_))) | (k_here; (with_reducible show wpAny _ _ (call (Value.ref 246) [Value.str (Txt.slice _ (some _) none) _, _]) _ _ _); (refine' IHr _ _ hyr1 hyr2 (_ + 1) (_ + 3) _ _ _ _ _ _ _ _ _ _ _ _ _ _ _ _ ?k1 ?k2 ?k3 ?k4 ?k5 ?kK ?kd ?ku ?_); (case k1 => k_asm); (case k2 => k_asm); (case k3 => k_asm); (case k4 => k_asm); (case k5 => k_asm); (case kK => exact rfl); (case kd => (dsimp only [Around.deeper]; omega)); (case ku => (dsimp only [Around.deeper]; omega)); intro tS hS tkS gS FS NS GS; dsimp only) | (k_here; (with_reducible show wpAny _ _ (call (Value.ref 246) [Value.str (Txt.slice _ none (some _)) _, _]) _ _ _); (refine' IHl _ _ hyl1 hyl2 (_ + 1) (_ + 3) _ _ _ _ _ _ _ _ _ _ _ _ _ _ _ _ ?k1 ?k2 ?k3 ?k4 ?k5 ?kK ?kd ?ku ?_); (case k1 => k_asm); (case k2 => k_asm); (case k3 => k_asm); (case k4 => k_asm); (case k5 => k_asm); (case kK => exact rfl); (case kd => (dsimp only [Around.deeper]; omega)); (case ku => (dsimp only [Around.deeper]; omega)); intro tS hS tkS gS FS NS GS; dsimp only) | (k_here; (with_reducible show wpAny _ _ (compareOp .In (Value.int _ _) (Value.ref _)) _ _ _); (refine' in_ops ?k1 ?k2 ?k3 (TokV.int _ _ (by assumption)) ?_; (case k1 => k_asm); (case k2 => rfl); (case k3 => rfl))) | (k_here; (with_reducible show wpAny _ _ (compareOp .In Value.none (Value.ref _)) _ _ _); (refine' in_ops ?k1 ?k2 ?k3 (TokV.none (by assumption)) ?_; (case k1 => k_asm); (case k2 => rfl); (case k3 => rfl))) | (k_here; (with_reducible show wpAny _ _ (call (Value.ref 59) [Value.str _ _]) _ _ _); (refine' check_c _ _ _ _ _ _ ?hx (_ + 1) (_ + 3) _ _ _ _ _ _ _ _ _ _ _ _ _ _ _ _ ?k1 ?k2 ?k3 ?k4 ?k5 ?kK ?kd ?ku ?_; (case hx => exact Nat.le_trans (Txt.slice_le _ _ _) hrx); (case k1 => k_asm); (case k2 => k_asm); (case k3 => k_asm); (case k4 => k_asm); (case k5 => k_asm); (case kK => exact rfl); (case kd => (dsimp only [Around.deeper]; omega)); (case ku => (dsimp only [Around.deeper]; omega))); intro tC hC tkC gC FC NC GC; dsimp only) | (k_here; (with_reducible show wpAny _ _ (call (Value.ref 69) [Value.int _ _]) _ _ _); (refine' isn_c _ _ _ _ _ _ (_ + 1) (_ + 3) _ _ _ _ _ _ _ _ _ _ _ _ _ _ _ _ ?k1 ?k2 ?k3 ?k4 ?k5 ?kK ?kd ?ku ?_; (case k1 => k_asm); (case k2 => k_asm); (case k3 => k_asm); (case k4 => k_asm); (case k5 => k_asm); (case kK => exact rfl); (case kd => (dsimp only [Around.deeper]; omega)); (case ku => (dsimp only [Around.deeper]; omega))); intro tS hS tkS gS FS NS GS; dsimp only) | (k_here; (with_reducible show wpAny _ _ (call (Value.builtin "dict.get") [Value.ref 60, Value.str _ _]) _ _ _); (refine' tok_get1 ?k1 ?k2 ?_; (case k1 => k_asm); (case k2 => k_asm)); intro v9 hv9; cases hv9; all_goals dsimp only) | (k_here; (with_reducible show wpAny _ _ (call (Value.builtin "dict.get") [Value.ref 60, Value.str _ _, _]) _ _ _); (refine' tok_getT ?k1 ?k2 hk1 ?_; (case k1 => k_asm); (case k2 => k_asm)); intro u9; dsimp only) | (k_here; (with_reducible show wpAny _ _ (subscriptTail _ _ (Value.str _ _) (Value.int 0 _)) _ _ _); (k_dflt (refine item0 hc ?_))) | (k_here; (with_reducible show wpAny _ _ (call (Value.ref 45) [Value.str _ _]) _ _ _); (refine' iter_call2 ?k1 ?k2 ?k3 ?k4 ?k5 ?_; (case k1 => exact roomTop (by omega) (by omega)); (case k2 => k_asm); (case k3 => k_asm); (case k4 => k_asm); (case k5 => k_asm)); intro aG hG tkG gsG FG NG hgenG GG; refine wpAny_pyIter_gen hgenG ?_) | (k_here; (with_reducible show wpAny _ _ (exec (Stmt.For (Expr.Tuple _ _ _) _ _ _ _) _) _ _ _); refine wpAny_For ?_) | walk1) | (dsimp only; (first | (k_here; (with_reducible show wpAny _ _ (subscriptTail _ _ (Value.ref 60) (Value.str _ _)) _ _ _); (k_dflt (refine' tok_itemT ?k1 ?k2 hk2 ?_; (case k1 => k_asm); (case k2 => k_asm))); intro u8; dsimp only) | (k_here; (with_reducible show wpAny _ _ (subscriptTail _ _ (Value.str _ _) (Value.int _ _)) _ _ _); (k_dflt (refine itemK hrx hrl hat ?_))) | (k_here; (with_reducible show wpAny _ _ (call (Value.ref 246) [Value.str (Txt.slice _ (some _) none) _, _]) _ _ _); (refine' IHr _ _ hyr1 hyr2 (_ + 1) (_ + 3) _ _ _ _ _ _ _ _ _ _ _ _ _ _ _ _ ?k1 ?k2 ?k3 ?k4 ?k5 ?kK ?kd ?ku ?_); (case k1 => k_asm); (case k2 => k_asm); (case k3 => k_asm); (case k4 => k_asm); (case k5 => k_asm); (case kK => exact rfl); (case kd => (dsimp only [Around.deeper]; omega)); (case ku => (dsimp only [Around.deeper]; omega)); intro tS hS tkS gS FS NS GS; dsimp only) | (k_here; (with_reducible show wpAny _ _ (call (Value.ref 246) [Value.str (Txt.slice _ none (some _)) _, _]) _ _ _); (refine' IHl _ _ hyl1 hyl2 (_ + 1) (_ + 3) _ _ _ _ _ _ _ _ _ _ _ _ _ _ _ _ ?k1 ?k2 ?k3 ?k4 ?k5 ?kK ?kd ?ku ?_); (case k1 => k_asm); (case k2 => k_asm); (case k3 => k_asm); (case k4 => k_asm); (case k5 => k_asm); (case kK => exact rfl); (case kd => (dsimp only [Around.deeper]; omega)); (case ku => (dsimp only [Around.deeper]; omega)); intro tS hS tkS gS FS NS GS; dsimp only) | (k_here; (with_reducible show wpAny _ _ (compareOp .In (Value.int _ _) (Value.ref _)) _ _ _); (refine' in_ops ?k1 ?k2 ?k3 (TokV.int _ _ (by assumption)) ?_; (case k1 => k_asm); (case k2 => rfl); (case k3 => rfl))) | (k_here; (with_reducible show wpAny _ _ (compareOp .In Value.none (Value.ref _)) _ _ _); (refine' in_ops ?k1 ?k2 ?k3 (TokV.none (by assumption)) ?_; (case k1 => k_asm); (case k2 => rfl); (case k3 => rfl))) | (k_here; (with_reducible show wpAny _ _ (call (Value.ref 59) [Value.str _ _]) _ _ _); (refine' check_c _ _ _ _ _ _ ?hx (_ + 1) (_ + 3) _ _ _ _ _ _ _ _ _ _ _ _ _ _ _ _ ?k1 ?k2 ?k3 ?k4 ?k5 ?kK ?kd ?ku ?_; (case hx => exact Nat.le_trans (Txt.slice_le _ _ _) hrx); (case k1 => k_asm); (case k2 => k_asm); (case k3 => k_asm); (case k4 => k_asm); (case k5 => k_asm); (case kK => exact rfl); (case kd => (dsimp only [Around.deeper]; omega)); (case ku => (dsimp only [Around.deeper]; omega))); intro tC hC tkC gC FC NC GC; dsimp only) | (k_here; (with_reducible show wpAny _ _ (call (Value.ref 69) [Value.int _ _]) _ _ _); (refine' isn_c _ _ _ _ _ _ (_ + 1) (_ + 3) _ _ _ _ _ _ _ _ _ _ _ _ _ _ _ _ ?k1 ?k2 ?k3 ?k4 ?k5 ?kK ?kd ?ku ?_; (case k1 => k_asm); (case k2 => k_asm); (case k3 => k_asm); (case k4 => k_asm); (case k5 => k_asm); (case kK => exact rfl); (case kd => (dsimp only [Around.deeper]; omega)); (case ku => (dsimp only [Around.deeper]; omega))); intro tS hS tkS gS FS NS GS; dsimp only) | (k_here; (with_reducible show wpAny _ _ (call (Value.builtin "dict.get") [Value.ref 60, Value.str _ _]) _ _ _); (refine' tok_get1 ?k1 ?k2 ?_; (case k1 => k_asm); (case k2 => k_asm)); intro v9 hv9; cases hv9; all_goals dsimp only) | (k_here; (with_reducible show wpAny _ _ (call (Value.builtin "dict.get") [Value.ref 60, Value.str _ _, _]) _ _ _); (refine' tok_getT ?k1 ?k2 hk1 ?_; (case k1 => k_asm); (case k2 => k_asm)); intro u9; dsimp only) | (k_here; (with_reducible show wpAny _ _ (subscriptTail _ _ (Value.str _ _) (Value.int 0 _)) _ _ _); (k_dflt (refine item0 hc ?_))) | (k_here; (with_reducible show wpAny _ _ (call (Value.ref 45) [Value.str _ _]) _ _ _); (refine' iter_call2 ?k1 ?k2 ?k3 ?k4 ?k5 ?_; (case k1 => exact roomTop (by omega) (by omega)); (case k2 => k_asm); (case k3 => k_asm); (case k4 => k_asm); (case k5 => k_asm)); intro aG hG tkG gsG FG NG hgenG GG; refine wpAny_pyIter_gen hgenG ?_) | (k_here; (with_reducible show wpAny _ _ (exec (Stmt.For (Expr.Tuple _ _ _) _ _ _ _) _) _ _ _); refine wpAny_For ?_) | walk1)) | (leave1; (try dsimp only))))
  obtain ⟨l, hl⟩ := nameL NG
  subst hl
  have hl1 : ∀ p ∈ news, p.1 < l := by assumption
  have hadr1 : ∀ p ∈ news, p.1 ≠ l := fun p hp => Nat.ne_of_lt (hl1 p hp)
  have hel : (esc false 0 (Txt.slice x (some 1) none).cps.toList).length ≤ 1000 := by
    have h1 := esc_len (Txt.slice x (some 1) none).cps.toList false 0
    rw [str_len] at h1
    simp only [Bool.false_eq_true, if_false] at h1
    exact Nat.le_trans h1 hrx
  obtain ⟨m0, hm0⟩ : ∃ m0, Fr _ _ hG m0 := ⟨_, FG⟩
  refine for_stream (roomTop (by omega) (by omega)) ?hl rfl rfl rfl FG NG GG (fun its m nw => ∃ sg pl vs cs n tr tkd, nw = (l, listOf vs.toArray n) :: news ∧ m = mpR sg pl l (Txt.slice x (some 1) none) tr tkd fv x t ∧ IntsAre vs cs ∧ cs.length + its.length ≤ 1000 ∧ its.foldl (stepR (Txt.slice x (some 1) none)) cs = cutsR (Txt.slice x (some 1) none)) ?J ?turn ?done
  case hl => exact Top.nolimit (by assumption)
  case J =>
    refine' ⟨none, none, [], [], 0, _, _, rfl, ?eq, .nil, by simpa using hel, rfl⟩
    case eq => exact mpR_init
  case done =>
    rintro m' nw' h' tk' g' ⟨sg, pl, vs, cs, n, tr, tkd, rfl, rfl, hvs, hlen, hS⟩ hadr hG1 F1 N1
    dsimp only
    obtain ⟨hyl1, hyl2, hyr1, hyr2, hat, hrl, hcut⟩ := hnf
    obtain ⟨IHl, IHr, hk2⟩ := IH
    rw [hcut] at hS
    cases hS
    clear hcut
    obtain ⟨u, rfl⟩ := ints_one hvs
    have GS0 := GMore.trans GS hG1
    clear FG NG GG hgenG
    (repeat' (first | (k_unfold; (try dsimp only)) | (first | (k_here; (with_reducible show wpAny _ _ (subscriptTail _ _ (Value.ref 60) (Value.str _ _)) _ _ _); (k_dflt (refine' tok_itemT ?k1 ?k2 hk2 ?_; (case k1 => k_asm); (case k2 => k_asm))); intro u8; dsimp only) | (k_here; (with_reducible show wpAny _ _ (subscriptTail _ _ (Value.str _ _) (Value.int _ _)) _ _ _); (k_dflt (refine itemK hrx hrl hat ?_))) | (k_here; (with_reducible show wpAny _ _ (call (Value.ref 246) [Value.str (Txt.slice _ (some _) none) _, _]) _ _ _); (refine' IHr _ _ hyr1 hyr2 (_ + 1) (_ + 3) _ _ _ _ _ _ _ _ _ _ _ _ _ _ _ _ ?k1 ?k2 ?k3 ?k4 ?k5 ?kK ?kd ?ku ?_); (case k1 => k_asm); (case k2 => k_asm); (case k3 => k_asm); (case k4 => k_asm); (case k5 => k_asm); (case kK => exact rfl); (case kd => (dsimp only [Around.deeper]; omega)); (case ku => (dsimp only [Around.deeper]; omega)); intro tS hS tkS gS FS NS GS; dsimp only) | (k_here; (with_reducible show wpAny _ _ (call (Value.ref 246) [Value.str (Txt.slice _ none (some _)) _, _]) _ _ _); (refine' IHl _ _ hyl1 hyl2 (_ + 1) (_ + 3) _ _ _ _ _ _ _ _ _ _ _ _ _ _ _ _ ?k1 ?k2 ?k3 ?k4 ?k5 ?kK ?kd ?ku ?_); (case k1 => k_asm); (case k2 => k_asm); (case k3 => k_asm); (case k4 => k_asm); (case k5 => k_asm); (case kK => exact rfl); (case kd => (dsimp only [Around.deeper]; omega)); (case ku => (dsimp only [Around.deeper]; omega)); intro tS hS tkS gS FS NS GS; dsimp only) | (k_here; (with_reducible show wpAny _ _ (compareOp .In (Value.int _ _) (Value.ref _)) _ _ _); (refine' in_ops ?k1 ?k2 ?k3 (TokV.int _ _ (by assumption)) ?_; (case k1 => k_asm); (case k2 => rfl); (case k3 => rfl))) | (k_here; (with_reducible show wpAny _ _ (compareOp .In Value.none (Value.ref _)) _ _ _); (refine' in_ops ?k1 ?k2 ?k3 (TokV.none (by assumption)) ?_; (case k1 => k_asm); (case k2 => rfl); (case k3 => rfl))) | (k_here; (with_reducible show wpAny _ _ (call (Value.ref 59) [Value.str _ _]) _ _ _); (refine' check_c _ _ _ _ _ _ ?hx (_ + 1) (_ + 3) _ _ _ _ _ _ _ _ _ _ _ _ _ _ _ _ ?k1 ?k2 ?k3 ?k4 ?k5 ?kK ?kd ?ku ?_; (case hx => exact Nat.le_trans (Txt.slice_le _ _ _) hrx); (case k1 => k_asm); (case k2 => k_asm); (case k3 => k_asm); (case k4 => k_asm); (case k5 => k_asm); (case kK => exact rfl); (case kd => (dsimp only [Around.deeper]; omega)); (case ku => (dsimp only [Around.deeper]; omega))); intro tC hC tkC gC FC NC GC; dsimp only) | (k_here; (with_reducible show wpAny _ _ (call (Value.ref 69) [Value.int _ _]) _ _ _); (refine' isn_c _ _ _ _ _ _ (_ + 1) (_ + 3) _ _ _ _ _ _ _ _ _ _ _ _ _ _ _ _ ?k1 ?k2 ?k3 ?k4 ?k5 ?kK ?kd ?ku ?_; (case k1 => k_asm); (case k2 => k_asm); (case k3 => k_asm); (case k4 => k_asm); (case k5 => k_asm); (case kK => exact rfl); (case kd => (dsimp only [Around.deeper]; omega)); (case ku => (dsimp only [Around.deeper]; omega))); intro tS hS tkS gS FS NS GS; dsimp only) | (k_here; (with_reducible show wpAny _ _ (call (Value.builtin "dict.get") [Value.ref 60, Value.str _ _]) _ _ _); (refine' tok_get1 ?k1 ?k2 ?_; (case k1 => k_asm); (case k2 => k_asm)); intro v9 hv9; cases hv9; all_goals dsimp only) | (k_here; (with_reducible show wpAny _ _ (call (Value.builtin "dict.get") [Value.ref 60, Value.str _ _, _]) _ _ _); (refine' tok_getT ?k1 ?k2 hk1 ?_; (case k1 => k_asm); (case k2 => k_asm)); intro u9; dsimp only) | (k_here; (with_reducible show wpAny _ _ (subscriptTail _ _ (Value.str _ _) (Value.int 0 _)) _ _ _); (k_dflt (refine item0 hc ?_))) | (k_here; (with_reducible show wpAny _ _ (call (Value.ref 45) [Value.str _ _]) _ _ _); (refine' iter_call2 ?k1 ?k2 ?k3 ?k4 ?k5 ?_; (case k1 => exact roomTop (by omega) (by omega)); (case k2 => k_asm); (case k3 => k_asm); (case k4 => k_asm); (case k5 => k_asm)); intro aG hG tkG gsG FG NG hgenG GG; refine wpAny_pyIter_gen hgenG ?_) | (k_here; (with_reducible show wpAny _ _ (exec (Stmt.For (Expr.Tuple _ _ _) _ _ _ _) _) _ _ _); refine wpAny_For ?_) | walk1) | (dsimp only; (first | (k_here; (with_reducible show wpAny _ _ (subscriptTail _ _ (Value.ref 60) (Value.str _ _)) _ _ _); (k_dflt (refine' tok_itemT ?k1 ?k2 hk2 ?_; (case k1 => k_asm); (case k2 => k_asm))); intro u8; dsimp only) | (k_here; (with_reducible show wpAny _ _ (subscriptTail _ _ (Value.str _ _) (Value.int _ _)) _ _ _); (k_dflt (refine itemK hrx hrl hat ?_))) | (k_here; (with_reducible show wpAny _ _ (call (Value.ref 246) [Value.str (Txt.slice _ (some _) none) _, _]) _ _ _); (refine' IHr _ _ hyr1 hyr2 (_ + 1) (_ + 3) _ _ _ _ _ _ _ _ _ _ _ _ _ _ _ _ ?k1 ?k2 ?k3 ?k4 ?k5 ?kK ?kd ?ku ?_); (case k1 => k_asm); (case k2 => k_asm); (case k3 => k_asm); (case k4 => k_asm); (case k5 => k_asm); (case kK => exact rfl); (case kd => (dsimp only [Around.deeper]; omega)); (case ku => (dsimp only [Around.deeper]; omega)); intro tS hS tkS gS FS NS GS; dsimp only) | (k_here; (with_reducible show wpAny _ _ (call (Value.ref 246) [Value.str (Txt.slice _ none (some _)) _, _]) _ _ _); (refine' IHl _ _ hyl1 hyl2 (_ + 1) (_ + 3) _ _ _ _ _ _ _ _ _ _ _ _ _ _ _ _ ?k1 ?k2 ?k3 ?k4 ?k5 ?kK ?kd ?ku ?_); (case k1 => k_asm); (case k2 => k_asm); (case k3 => k_asm); (case k4 => k_asm); (case k5 => k_asm); (case kK => exact rfl); (case kd => (dsimp only [Around.deeper]; omega)); (case ku => (dsimp only [Around.deeper]; omega)); intro tS hS tkS gS FS NS GS; dsimp only) | (k_here; (with_reducible show wpAny _ _ (compareOp .In (Value.int _ _) (Value.ref _)) _ _ _); (refine' in_ops ?k1 ?k2 ?k3 (TokV.int _ _ (by assumption)) ?_; (case k1 => k_asm); (case k2 => rfl); (case k3 => rfl))) | (k_here; (with_reducible show wpAny _ _ (compareOp .In Value.none (Value.ref _)) _ _ _); (refine' in_ops ?k1 ?k2 ?k3 (TokV.none (by assumption)) ?_; (case k1 => k_asm); (case k2 => rfl); (case k3 => rfl))) | (k_here; (with_reducible show wpAny _ _ (call (Value.ref 59) [Value.str _ _]) _ _ _); (refine' check_c _ _ _ _ _ _ ?hx (_ + 1) (_ + 3) _ _ _ _ _ _ _ _ _ _ _ _ _ _ _ _ ?k1 ?k2 ?k3 ?k4 ?k5 ?kK ?kd ?ku ?_; (case hx => exact Nat.le_trans (Txt.slice_le _ _ _) hrx); (case k1 => k_asm); (case k2 => k_asm); (case k3 => k_asm); (case k4 => k_asm); (case k5 => k_asm); (case kK => exact rfl); (case kd => (dsimp only [Around.deeper]; omega)); (case ku => (dsimp only [Around.deeper]; omega))); intro tC hC tkC gC FC NC GC; dsimp only) | (k_here; (with_reducible show wpAny _ _ (call (Value.ref 69) [Value.int _ _]) _ _ _); (refine' isn_c _ _ _ _ _ _ (_ + 1) (_ + 3) _ _ _ _ _ _ _ _ _ _ _ _ _ _ _ _ ?k1 ?k2 ?k3 ?k4 ?k5 ?kK ?kd ?ku ?_; (case k1 => k_asm); (case k2 => k_asm); (case k3 => k_asm); (case k4 => k_asm); (case k5 => k_asm); (case kK => exact rfl); (case kd => (dsimp only [Around.deeper]; omega)); (case ku => (dsimp only [Around.deeper]; omega))); intro tS hS tkS gS FS NS GS; dsimp only) | (k_here; (with_reducible show wpAny _ _ (call (Value.builtin "dict.get") [Value.ref 60, Value.str _ _]) _ _ _); (refine' tok_get1 ?k1 ?k2 ?_; (case k1 => k_asm); (case k2 => k_asm)); intro v9 hv9; cases hv9; all_goals dsimp only) | (k_here; (with_reducible show wpAny _ _ (call (Value.builtin "dict.get") [Value.ref 60, Value.str _ _, _]) _ _ _); (refine' tok_getT ?k1 ?k2 hk1 ?_; (case k1 => k_asm); (case k2 => k_asm)); intro u9; dsimp only) | (k_here; (with_reducible show wpAny _ _ (subscriptTail _ _ (Value.str _ _) (Value.int 0 _)) _ _ _); (k_dflt (refine item0 hc ?_))) | (k_here; (with_reducible show wpAny _ _ (call (Value.ref 45) [Value.str _ _]) _ _ _); (refine' iter_call2 ?k1 ?k2 ?k3 ?k4 ?k5 ?_; (case k1 => exact roomTop (by omega) (by omega)); (case k2 => k_asm); (case k3 => k_asm); (case k4 => k_asm); (case k5 => k_asm)); intro aG hG tkG gsG FG NG hgenG GG; refine wpAny_pyIter_gen hgenG ?_) | (k_here; (with_reducible show wpAny _ _ (exec (Stmt.For (Expr.Tuple _ _ _) _ _ _ _) _) _ _ _); refine wpAny_For ?_) | walk1)) | (leave1; (try dsimp only))))
    · (with_reducible rename (kn k = 19) => hk3)
      rw [op_and (by rw [hk3]; rfl)]
      (rename News h₀ L _ _ => kN2)
      exact hret _ _ _ _ (by k_asm) (fun p hp => kN2 p (List.mem_cons_of_mem _ hp)) (GMore.trans GS0 (GMore.trans (by assumption) GS))
    · (with_reducible rename (kn k = 18) => hk3)
      rw [op_or (by rw [hk3]; rfl)]
      (rename News h₀ L _ _ => kN2)
      exact hret _ _ _ _ (by k_asm) (fun p hp => kN2 p (List.mem_cons_of_mem _ hp)) (GMore.trans GS0 (GMore.trans (by assumption) GS))
    · (with_reducible rename (kn k ≠ 19) => hk3)
      (with_reducible rename (kn k ≠ 18) => hk4)
      rw [op_xor (beq_eq_false_iff_ne.mpr hk3) (beq_eq_false_iff_ne.mpr hk4)]
      (rename News h₀ L _ _ => kN2)
      exact hret _ _ _ _ (by k_asm) (fun p hp => kN2 p (List.mem_cons_of_mem _ hp)) (GMore.trans GS0 (GMore.trans (by assumption) GS))
  case turn =>
    rintro i c rest _ _ own h1 tk1 g1 ti tc E' hadr hoff ⟨sg, pl, vs, cs, n, tr, tkd, rfl, rfl, hvs, hlen, hS⟩ hG1 F1 N1
    simp only [List.cons_append] at N1
    rw [mpR_two] at F1
    have hvl : vs.length ≤ 1000 := len0 hvs hlen
    have hall : ∀ p ∈ news ++ own, p.1 ≠ l := fun p hp => (List.mem_append.mp hp).elim (hadr1 p) (hoff p · l (by simp))
    clear FG NG GG hgenG
    (repeat' (first | (k_unfold; (try dsimp only)) | (first | (k_here; (with_reducible show wpAny _ _ (subscriptTail _ _ (Value.ref 60) (Value.str _ _)) _ _ _); (k_dflt (refine' tok_itemT ?k1 ?k2 hk2 ?_; (case k1 => k_asm); (case k2 => k_asm))); intro u8; dsimp only) | (k_here; (with_reducible show wpAny _ _ (subscriptTail _ _ (Value.str _ _) (Value.int _ _)) _ _ _); (k_dflt (refine itemK hrx hrl hat ?_))) | (k_here; (with_reducible show wpAny _ _ (call (Value.ref 246) [Value.str (Txt.slice _ (some _) none) _, _]) _ _ _); (refine' IHr _ _ hyr1 hyr2 (_ + 1) (_ + 3) _ _ _ _ _ _ _ _ _ _ _ _ _ _ _ _ ?k1 ?k2 ?k3 ?k4 ?k5 ?kK ?kd ?ku ?_); (case k1 => k_asm); (case k2 => k_asm); (case k3 => k_asm); (case k4 => k_asm); (case k5 => k_asm); (case kK => exact rfl); (case kd => (dsimp only [Around.deeper]; omega)); (case ku => (dsimp only [Around.deeper]; omega)); intro tS hS tkS gS FS NS GS; dsimp only) | (k_here; (with_reducible show wpAny _ _ (call (Value.ref 246) [Value.str (Txt.slice _ none (some _)) _, _]) _ _ _); (refine' IHl _ _ hyl1 hyl2 (_ + 1) (_ + 3) _ _ _ _ _ _ _ _ _ _ _ _ _ _ _ _ ?k1 ?k2 ?k3 ?k4 ?k5 ?kK ?kd ?ku ?_); (case k1 => k_asm); (case k2 => k_asm); (case k3 => k_asm); (case k4 => k_asm); (case k5 => k_asm); (case kK => exact rfl); (case kd => (dsimp only [Around.deeper]; omega)); (case ku => (dsimp only [Around.deeper]; omega)); intro tS hS tkS gS FS NS GS; dsimp only) | (k_here; (with_reducible show wpAny _ _ (compareOp .In (Value.int _ _) (Value.ref _)) _ _ _); (refine' in_ops ?k1 ?k2 ?k3 (TokV.int _ _ (by assumption)) ?_; (case k1 => k_asm); (case k2 => rfl); (case k3 => rfl))) | (k_here; (with_reducible show wpAny _ _ (compareOp .In Value.none (Value.ref _)) _ _ _); (refine' in_ops ?k1 ?k2 ?k3 (TokV.none (by assumption)) ?_; (case k1 => k_asm); (case k2 => rfl); (case k3 => rfl))) | (k_here; (with_reducible show wpAny _ _ (call (Value.ref 59) [Value.str _ _]) _ _ _); (refine' check_c _ _ _ _ _ _ ?hx (_ + 1) (_ + 3) _ _ _ _ _ _ _ _ _ _ _ _ _ _ _ _ ?k1 ?k2 ?k3 ?k4 ?k5 ?kK ?kd ?ku ?_; (case hx => exact Nat.le_trans (Txt.slice_le _ _ _) hrx); (case k1 => k_asm); (case k2 => k_asm); (case k3 => k_asm); (case k4 => k_asm); (case k5 => k_asm); (case kK => exact rfl); (case kd => (dsimp only [Around.deeper]; omega)); (case ku => (dsimp only [Around.deeper]; omega))); intro tC hC tkC gC FC NC GC; dsimp only) | (k_here; (with_reducible show wpAny _ _ (call (Value.ref 69) [Value.int _ _]) _ _ _); (refine' isn_c _ _ _ _ _ _ (_ + 1) (_ + 3) _ _ _ _ _ _ _ _ _ _ _ _ _ _ _ _ ?k1 ?k2 ?k3 ?k4 ?k5 ?kK ?kd ?ku ?_; (case k1 => k_asm); (case k2 => k_asm); (case k3 => k_asm); (case k4 => k_asm); (case k5 => k_asm); (case kK => exact rfl); (case kd => (dsimp only [Around.deeper]; omega)); (case ku => (dsimp only [Around.deeper]; omega))); intro tS hS tkS gS FS NS GS; dsimp only) | (k_here; (with_reducible show wpAny _ _ (call (Value.builtin "dict.get") [Value.ref 60, Value.str _ _]) _ _ _); (refine' tok_get1 ?k1 ?k2 ?_; (case k1 => k_asm); (case k2 => k_asm)); intro v9 hv9; cases hv9; all_goals dsimp only) | (k_here; (with_reducible show wpAny _ _ (call (Value.builtin "dict.get") [Value.ref 60, Value.str _ _, _]) _ _ _); (refine' tok_getT ?k1 ?k2 hk1 ?_; (case k1 => k_asm); (case k2 => k_asm)); intro u9; dsimp only) | (k_here; (with_reducible show wpAny _ _ (subscriptTail _ _ (Value.str _ _) (Value.int 0 _)) _ _ _); (k_dflt (refine item0 hc ?_))) | (k_here; (with_reducible show wpAny _ _ (call (Value.ref 45) [Value.str _ _]) _ _ _); (refine' iter_call2 ?k1 ?k2 ?k3 ?k4 ?k5 ?_; (case k1 => exact roomTop (by omega) (by omega)); (case k2 => k_asm); (case k3 => k_asm); (case k4 => k_asm); (case k5 => k_asm)); intro aG hG tkG gsG FG NG hgenG GG; refine wpAny_pyIter_gen hgenG ?_) | (k_here; (with_reducible show wpAny _ _ (exec (Stmt.For (Expr.Tuple _ _ _) _ _ _ _) _) _ _ _); refine wpAny_For ?_) | walk1) | (dsimp only; (first | (k_here; (with_reducible show wpAny _ _ (subscriptTail _ _ (Value.ref 60) (Value.str _ _)) _ _ _); (k_dflt (refine' tok_itemT ?k1 ?k2 hk2 ?_; (case k1 => k_asm); (case k2 => k_asm))); intro u8; dsimp only) | (k_here; (with_reducible show wpAny _ _ (subscriptTail _ _ (Value.str _ _) (Value.int _ _)) _ _ _); (k_dflt (refine itemK hrx hrl hat ?_))) | (k_here; (with_reducible show wpAny _ _ (call (Value.ref 246) [Value.str (Txt.slice _ (some _) none) _, _]) _ _ _); (refine' IHr _ _ hyr1 hyr2 (_ + 1) (_ + 3) _ _ _ _ _ _ _ _ _ _ _ _ _ _ _ _ ?k1 ?k2 ?k3 ?k4 ?k5 ?kK ?kd ?ku ?_); (case k1 => k_asm); (case k2 => k_asm); (case k3 => k_asm); (case k4 => k_asm); (case k5 => k_asm); (case kK => exact rfl); (case kd => (dsimp only [Around.deeper]; omega)); (case ku => (dsimp only [Around.deeper]; omega)); intro tS hS tkS gS FS NS GS; dsimp only) | (k_here; (with_reducible show wpAny _ _ (call (Value.ref 246) [Value.str (Txt.slice _ none (some _)) _, _]) _ _ _); (refine' IHl _ _ hyl1 hyl2 (_ + 1) (_ + 3) _ _ _ _ _ _ _ _ _ _ _ _ _ _ _ _ ?k1 ?k2 ?k3 ?k4 ?k5 ?kK ?kd ?ku ?_); (case k1 => k_asm); (case k2 => k_asm); (case k3 => k_asm); (case k4 => k_asm); (case k5 => k_asm); (case kK => exact rfl); (case kd => (dsimp only [Around.deeper]; omega)); (case ku => (dsimp only [Around.deeper]; omega)); intro tS hS tkS gS FS NS GS; dsimp only) | (k_here; (with_reducible show wpAny _ _ (compareOp .In (Value.int _ _) (Value.ref _)) _ _ _); (refine' in_ops ?k1 ?k2 ?k3 (TokV.int _ _ (by assumption)) ?_; (case k1 => k_asm); (case k2 => rfl); (case k3 => rfl))) | (k_here; (with_reducible show wpAny _ _ (compareOp .In Value.none (Value.ref _)) _ _ _); (refine' in_ops ?k1 ?k2 ?k3 (TokV.none (by assumption)) ?_; (case k1 => k_asm); (case k2 => rfl); (case k3 => rfl))) | (k_here; (with_reducible show wpAny _ _ (call (Value.ref 59) [Value.str _ _]) _ _ _); (refine' check_c _ _ _ _ _ _ ?hx (_ + 1) (_ + 3) _ _ _ _ _ _ _ _ _ _ _ _ _ _ _ _ ?k1 ?k2 ?k3 ?k4 ?k5 ?kK ?kd ?ku ?_; (case hx => exact Nat.le_trans (Txt.slice_le _ _ _) hrx); (case k1 => k_asm); (case k2 => k_asm); (case k3 => k_asm); (case k4 => k_asm); (case k5 => k_asm); (case kK => exact rfl); (case kd => (dsimp only [Around.deeper]; omega)); (case ku => (dsimp only [Around.deeper]; omega))); intro tC hC tkC gC FC NC GC; dsimp only) | (k_here; (with_reducible show wpAny _ _ (call (Value.ref 69) [Value.int _ _]) _ _ _); (refine' isn_c _ _ _ _ _ _ (_ + 1) (_ + 3) _ _ _ _ _ _ _ _ _ _ _ _ _ _ _ _ ?k1 ?k2 ?k3 ?k4 ?k5 ?kK ?kd ?ku ?_; (case k1 => k_asm); (case k2 => k_asm); (case k3 => k_asm); (case k4 => k_asm); (case k5 => k_asm); (case kK => exact rfl); (case kd => (dsimp only [Around.deeper]; omega)); (case ku => (dsimp only [Around.deeper]; omega))); intro tS hS tkS gS FS NS GS; dsimp only) | (k_here; (with_reducible show wpAny _ _ (call (Value.builtin "dict.get") [Value.ref 60, Value.str _ _]) _ _ _); (refine' tok_get1 ?k1 ?k2 ?_; (case k1 => k_asm); (case k2 => k_asm)); intro v9 hv9; cases hv9; all_goals dsimp only) | (k_here; (with_reducible show wpAny _ _ (call (Value.builtin "dict.get") [Value.ref 60, Value.str _ _, _]) _ _ _); (refine' tok_getT ?k1 ?k2 hk1 ?_; (case k1 => k_asm); (case k2 => k_asm)); intro u9; dsimp only) | (k_here; (with_reducible show wpAny _ _ (subscriptTail _ _ (Value.str _ _) (Value.int 0 _)) _ _ _); (k_dflt (refine item0 hc ?_))) | (k_here; (with_reducible show wpAny _ _ (call (Value.ref 45) [Value.str _ _]) _ _ _); (refine' iter_call2 ?k1 ?k2 ?k3 ?k4 ?k5 ?_; (case k1 => exact roomTop (by omega) (by omega)); (case k2 => k_asm); (case k3 => k_asm); (case k4 => k_asm); (case k5 => k_asm)); intro aG hG tkG gsG FG NG hgenG GG; refine wpAny_pyIter_gen hgenG ?_) | (k_here; (with_reducible show wpAny _ _ (exec (Stmt.For (Expr.Tuple _ _ _) _ _ _ _) _) _ _ _); refine wpAny_For ?_) | walk1)) | (leave1; (try dsimp only))))
    · (with_reducible rename (isOp c = false) => hop)
      have e : stepR (Txt.slice x (some 1) none) cs (i, c) = cs := by unfold stepR; rw [hop]; rfl
      (with_reducible rename News _ _ _ (_ :: _ :: _) => kN2)
      refine' ⟨_, _, _, _, (l, listOf vs.toArray n) :: news, rfl, ?kF, fun p hp => kN2 p (List.mem_cons_of_mem _ hp), rfl, ?kG, _, _, vs, cs, n, _, _, rfl, rfl, hvs, len1 hlen, by rw [← hS, List.foldl_cons, e]⟩
      case kF => k_asm
      case kG => exact GMore.refl _
    · (with_reducible rename (isOp c = true) => hop)
      (with_reducible rename (checkS _ = true) => hch)
      have e : stepR (Txt.slice x (some 1) none) cs (i, c) = cs ++ [i] := by unfold stepR preS; rw [hop, hch]; rfl
      (with_reducible rename News _ _ _ (_ :: _ :: _) => kN2)
      refine' ⟨_, _, _, _, (l, listOf (vs ++ [Value.int i ti]).toArray (n + 1)) :: news, rfl, ?kF, ?kN, rfl, ?kG, _, _, _, cs ++ [i], n + 1, _, _, rfl, rfl, ?ki, len2 hlen, by rw [← hS, List.foldl_cons, e]⟩
      case kF => k_asm
      case kN => rw [← List.push_toArray]; exact fun p hp => kN2 p (List.mem_cons_of_mem _ hp)
      case kG => exact GC
      case ki => exact ints_snoc hvs
    · (with_reducible rename (isOp c = true) => hop)
      (with_reducible rename (checkS _ = false) => hch)
      have e : stepR (Txt.slice x (some 1) none) cs (i, c) = cs := by unfold stepR preS; rw [hop, hch]; rfl
      (with_reducible rename News _ _ _ (_ :: _ :: _) => kN2)
      refine' ⟨_, _, _, _, (l, listOf vs.toArray n) :: news, rfl, ?kF, fun p hp => kN2 p (List.mem_cons_of_mem _ hp), rfl, ?kG, _, _, vs, cs, n, _, _, rfl, rfl, hvs, len1 hlen, by rw [← hS, List.foldl_cons, e]⟩
      case kF => k_asm
      case kG => exact GC
    · (with_reducible rename (isOp c = false) => hop)
      have e : stepR (Txt.slice x (some 1) none) cs (i, c) = cs := by unfold stepR; rw [hop]; rfl
      (with_reducible rename News _ _ _ (_ :: _ :: _) => kN2)
      refine' ⟨_, _, _, _, (l, listOf vs.toArray n) :: news, rfl, ?kF, fun p hp => kN2 p (List.mem_cons_of_mem _ hp), rfl, ?kG, _, _, vs, cs, n, _, _, rfl, rfl, hvs, len1 hlen, by rw [← hS, List.foldl_cons, e]⟩
      case kF => k_asm
      case kG => exact GMore.refl _
end Mine
end
section -- CUTS
namespace Mine
theorem offCUTS : True := by
  w_top off
  exact trivial
theorem append_cps (a b : Str) : (a ++ b).cps.toList = a.cps.toList ++ b.cps.toList := by
  show (a.cps ++ b.cps).toList = _
  simp
noncomputable def cat (l : List Str) : List Nat := (l.map (fun s => s.cps.toList)).flatten
theorem join_cat : ∀ l : List Str, (Txt.join (Str.ofString "") l).cps.toList = cat l := by
  intro l
  have e : Txt.join (Str.ofString "") l = Str.join ⟨#[]⟩ l := eq_of_beq (join_plain_closes (Str.ofString "") l)
  rw [e]
  clear e
  induction l with
  | nil => rfl
  | cons a r ih => rw [join_nil_cons, append_cps, ih]; rfl
theorem cat_snoc (l : List Str) (s : Str) : cat (l ++ [s]) = cat l ++ s.cps.toList := by simp [cat]
/-- the virtual output -/
noncomputable def vo (x : Str) (st : Nat) (res : List Str) (p : Nat) : List Nat := cat res ++ (x.cps.toList.drop st).take (p - st)
noncomputable def fin (x : Str) (S : SState) : List Nat := cat (if S.1 < (x.length : Int) then S.2.2 ++ [sliceA x S.1] else S.2.2)
theorem stripS_fin (x : Str) : (stripS x).cps.toList = fin x ((esc false 0 x.cps.toList).foldl (stepS x) (0, none, [])) := by
  unfold stripS fin
  rw [join_cat]
theorem fin_none {x : Str} {st : Nat} {op : Option Int} {res : List Str} (h : st ≤ x.length) : fin x ((st : Int), op, res) = cat res ++ x.cps.toList.drop st := by
  unfold fin
  dsimp only
  split
  · rw [cat_snoc]; unfold sliceA; rw [sl_from h]
  · have : x.cps.toList.length ≤ st := by rw [str_len]; omega
    rw [List.drop_eq_nil_of_le this, List.append_nil]
theorem esc_one {i c : Nat} {cs : List Nat} (h : c ≠ 92) : esc false i (c :: cs) = ((i : Int), ⟨#[c]⟩) :: esc false (i + 1) cs := by
  rw [esc, if_neg h]
theorem esc_two {i c : Nat} {cs : List Nat} : esc false i (92 :: c :: cs) = (((i + 1 : Nat) : Int), ⟨#[92, c]⟩) :: esc false (i + 1 + 1) cs := by
  rw [esc, if_pos rfl, esc]
/-- a closed piece of the text -/
noncomputable def Seg (A B : List Nat) : Prop := ∀ (x : Str) (P S : List Nat) (st : Nat) (res : List Str), x.cps.toList = P ++ (A ++ S) → st ≤ P.length →
  ∃ st' res', st' ≤ P.length + A.length ∧ (esc false P.length (A ++ S)).foldl (stepS x) ((st : Int), none, res) = (esc false (P.length + A.length) S).foldl (stepS x) ((st' : Int), none, res') ∧ vo x st' res' (P.length + A.length) = vo x st res P.length ++ B
theorem Seg.nil : Seg [] [] := fun x P S st res _ h => ⟨st, res, h, rfl, by simp⟩
theorem Seg.append {A B A' B' : List Nat} (h : Seg A B) (h' : Seg A' B') : Seg (A ++ A') (B ++ B') := by
  intro x P S st res hx hst
  obtain ⟨s1, r1, l1, e1, v1⟩ := h x P (A' ++ S) st res (by simpa using hx) hst
  obtain ⟨s2, r2, l2, e2, v2⟩ := h' x (P ++ A) S s1 r1 (by simpa using hx) (by simpa using l1)
  refine ⟨s2, r2, by simp at *; omega, ?_, ?_⟩
  · rw [List.append_assoc, e1, ← List.length_append, e2]
    simp [Nat.add_assoc]
  · rw [← List.append_assoc, ← v1]
    have e : P.length + (A ++ A').length = (P ++ A).length + A'.length := by simp; omega
    rw [e, v2]
    simp
theorem vo_snoc {x : Str} {P A S : List Nat} {st : Nat} {res : List Str} (hx : x.cps.toList = P ++ (A ++ S)) (h : st ≤ P.length) : vo x st res (P.length + A.length) = vo x st res P.length ++ A := by
  unfold vo
  rw [hx, List.append_assoc]
  congr 1
  rw [List.drop_append_of_le_length h]
  rw [List.take_append, List.take_append]
  simp only [List.length_drop]
  have e1 : P.length + A.length - st - (P.length - st) = A.length := by omega
  rw [e1, List.take_append_of_le_length (l₁ := List.drop st P) (i := P.length - st) (by simp)]
  rw [List.take_of_length_le (l := List.drop st P) (by simp; omega), List.take_of_length_le (l := List.drop st P) (by simp)]
  simp
theorem Seg.one {c : Nat} (h1 : c ≠ 34) (h2 : c ≠ 92) : Seg [c] [c] := by
  intro x P S st res hx hst
  refine ⟨st, res, by simp; omega, ?_, vo_snoc hx hst⟩
  have e : stepS x ((st : Int), none, res) (((P.length : Nat) : Int), ⟨#[c]⟩) = ((st : Int), none, res) := by
    unfold stepS; rw [if_neg]; intro h; apply h1; simpa using h
  show List.foldl _ _ (esc false P.length (c :: S)) = _
  rw [esc_one h2, List.foldl_cons, e]
  rfl
theorem Seg.bs (c : Nat) : Seg [92, c] [92, c] := by
  intro x P S st res hx hst
  refine ⟨st, res, by simp; omega, ?_, vo_snoc hx hst⟩
  have e : stepS x ((st : Int), none, res) (((P.length + 1 : Nat) : Int), ⟨#[92, c]⟩) = ((st : Int), none, res) := by
    unfold stepS; rw [if_neg]; intro h; simp at h
  show List.foldl _ _ (esc false P.length (92 :: c :: S)) = _
  rw [esc_two, List.foldl_cons, e]
  rfl
theorem Seg.quote {x : Str} {P M S : List Nat} {st : Nat} {res : List Str} (hx : x.cps.toList = P ++ (34 :: (M ++ 34 :: S))) (hst : st ≤ P.length) :
    ∃ st' res', st' ≤ P.length + (M.length + 2) ∧ stepS x (stepS x ((st : Int), none, res) (((P.length : Nat) : Int), ⟨#[34]⟩)) (((P.length + 1 + M.length : Nat) : Int), ⟨#[34]⟩) = ((st' : Int), none, res') ∧ vo x st' res' (P.length + (M.length + 2)) = vo x st res P.length := by
  refine ⟨P.length + (M.length + 2), if st = P.length then res else res ++ [sliceS x st P.length], Nat.le_refl _, ?_, ?_⟩
  · unfold stepS
    simp only [if_true]
    have e1 : (((P.length + 1 + M.length : Nat) : Int) + 1) = ((P.length + (M.length + 2) : Nat) : Int) := by omega
    rw [e1]
    by_cases h : st = P.length
    · rw [if_pos h, if_pos (by rw [h])]
    · rw [if_neg h, if_neg (by omega)]
  · unfold vo
    rw [Nat.sub_self, List.take_zero, List.append_nil]
    by_cases h : st = P.length
    · rw [if_pos h, h, Nat.sub_self, List.take_zero, List.append_nil]
    · rw [if_neg h, cat_snoc]
      unfold sliceS
      rw [sl_mid hst]
      have : x.length = x.cps.toList.length := (str_len x).symm
      rw [this, hx]; simp
theorem Seg.q1 : Seg [34, 40, 34] [] := by
  intro x P S st res hx hst
  obtain ⟨st', res', h1, h2, h3⟩ := Seg.quote (M := [40]) hx hst
  refine ⟨st', res', h1, ?_, by rw [List.append_nil]; exact h3⟩
  show List.foldl _ _ (esc false P.length (34 :: 40 :: 34 :: S)) = _
  rw [esc_one (by decide), esc_one (by decide), esc_one (by decide)]
  simp only [List.foldl_cons]
  have e : ∀ T : SState, stepS x T (((P.length + 1 : Nat) : Int), ⟨#[40]⟩) = T := by intro T; unfold stepS; rw [if_neg]; intro h; simp at h
  rw [e]
  have h2' : stepS x (stepS x ((st : Int), none, res) (((P.length : Nat) : Int), ⟨#[34]⟩)) (((P.length + 1 + 1 : Nat) : Int), ⟨#[34]⟩) = ((st' : Int), none, res') := h2
  rw [h2']
  rfl
theorem Seg.q3 : Seg [34, 41, 92, 34, 34] [] := by
  intro x P S st res hx hst
  obtain ⟨st', res', h1, h2, h3⟩ := Seg.quote (M := [41, 92, 34]) hx hst
  refine ⟨st', res', h1, ?_, by rw [List.append_nil]; exact h3⟩
  show List.foldl _ _ (esc false P.length (34 :: 41 :: 92 :: 34 :: 34 :: S)) = _
  rw [esc_one (by decide), esc_one (by decide), esc_two, esc_one (by decide)]
  simp only [List.foldl_cons]
  have e : ∀ T : SState, stepS x T (((P.length + 1 : Nat) : Int), ⟨#[41]⟩) = T := by intro T; unfold stepS; rw [if_neg]; intro h; simp at h
  have e2 : ∀ T : SState, stepS x T (((P.length + 1 + 1 + 1 : Nat) : Int), ⟨#[92, 34]⟩) = T := by intro T; unfold stepS; rw [if_neg]; intro h; simp at h
  rw [e, e2]
  have h2' : stepS x (stepS x ((st : Int), none, res) (((P.length : Nat) : Int), ⟨#[34]⟩)) (((P.length + 1 + 1 + 1 + 1 : Nat) : Int), ⟨#[34]⟩) = ((st' : Int), none, res') := h2
  rw [h2']
  rfl
noncomputable def rids : _root_.Fin 4 → List Nat
  | 0 => []
  | 1 => []
  | 2 => [92, 41]
  | 3 => []
theorem Seg.rid (r : _root_.Fin 4) : Seg (rid r) (rids r) := by
  match r with
  | 0 => exact Seg.nil
  | 1 => exact Seg.q1
  | 2 => exact Seg.bs 41
  | 3 => exact Seg.q3
noncomputable def T.stxt : T → List Nat
  | .leaf i => [97 + i.val]
  | .node k tu r l rt => (if tu = true then [126] else []) ++ ([40] ++ (l.stxt ++ (rids r ++ ([opc k] ++ (rt.stxt ++ [41])))))
theorem Seg.op (k : _root_.Fin 3) : Seg [opc k] [opc k] := by
  match k with
  | 0 => exact Seg.one (by decide) (by decide)
  | 1 => exact Seg.one (by decide) (by decide)
  | 2 => exact Seg.one (by decide) (by decide)
theorem txt_node (k : _root_.Fin 3) (tu : Bool) (r : _root_.Fin 4) (l rt : T) : (T.node k tu r l rt).txt = (if tu = true then [126] else []) ++ ([40] ++ (l.txt ++ (rid r ++ ([opc k] ++ (rt.txt ++ [41]))))) := by
  simp [T.txt, T.core]
theorem T.seg : ∀ t : T, Seg t.txt t.stxt
  | .leaf i => Seg.one (by omega) (by omega)
  | .node k tu r l rt => by
    rw [txt_node]
    refine Seg.append (B := if tu = true then [126] else []) ?_ (Seg.append (Seg.one (by decide) (by decide)) (Seg.append l.seg (Seg.append (Seg.rid r) (Seg.append (Seg.op k) (Seg.append rt.seg (Seg.one (by decide) (by decide)))))))
    cases tu with
    | true => exact Seg.one (by decide) (by decide)
    | false => exact Seg.nil
/-- the whole stripped text -/
theorem esc_mem34 : ∀ (cs : List Nat) (b : Bool) (i : Nat) (p : Int × Str), p ∈ esc b i cs → p.2 = ⟨#[34]⟩ → 34 ∈ cs
  | [], false, i, p, h, _ => by simp [esc] at h
  | [], true, i, p, h, h2 => by simp [esc] at h; rw [h] at h2; simp at h2
  | c :: cs, true, i, p, h, h2 => by
    simp only [esc, List.mem_cons] at h
    rcases h with h | h
    · rw [h] at h2; simp at h2
    · exact List.mem_cons_of_mem _ (esc_mem34 cs false _ p h h2)
  | c :: cs, false, i, p, h, h2 => by
    unfold esc at h
    split at h
    · exact List.mem_cons_of_mem _ (esc_mem34 cs true _ p h h2)
    · rcases List.mem_cons.mp h with h | h
      · rw [h] at h2; simp at h2; rw [h2]; exact List.mem_cons_self ..
      · exact List.mem_cons_of_mem _ (esc_mem34 cs false _ p h h2)
theorem fold_id {x : Str} {S : SState} : ∀ {l : List (Int × Str)}, (∀ p ∈ l, p.2 ≠ ⟨#[34]⟩) → l.foldl (stepS x) S = S
  | [], _ => rfl
  | p :: l, h => by
    rw [List.foldl_cons]
    have e : stepS x S p = S := by unfold stepS; rw [if_neg (h p (List.mem_cons_self ..))]
    rw [e]
    exact fold_id fun q hq => h q (List.mem_cons_of_mem _ hq)
theorem stripX_fin (x : Str) : (stripX x).cps.toList = fin x ((esc false 0 x.cps.toList).foldl (stepS x) (0, none, [])) := by
  unfold stripX
  split
  · rename_i h
    rw [q_one] at h
    have hf := PySem.StrLaws.found_one x 34
    rw [h] at hf
    have hn : 34 ∉ x.cps.toList := by simpa using hf
    rw [fold_id fun p hp h2 => hn (esc_mem34 _ _ _ p hp h2)]
    rw [show ((0 : Int), (none : Option Int), ([] : List Str)) = (((0 : Nat) : Int), none, []) from rfl, fin_none (Nat.zero_le _)]
    simp [cat]
  · exact stripS_fin x
theorem stripX_seg {x : Str} {A B : List Nat} (hx : x.cps.toList = A) (h : Seg A B) : (stripX x).cps.toList = B := by
  rw [stripX_fin]
  obtain ⟨st', res', h1, h2, h3⟩ := h x [] [] 0 [] (by simpa using hx) (Nat.le_refl _)
  simp only [List.append_nil, List.length_nil, Nat.zero_add] at h1 h2 h3
  rw [hx]
  have h2' : List.foldl (stepS x) (0, none, []) (esc false 0 A) = _ := h2
  rw [h2']
  have hl : x.length = A.length := by rw [← str_len, hx]
  unfold esc
  rw [List.foldl_nil, fin_none (by omega)]
  have h3' : vo x st' res' A.length = B := by rw [h3]; simp [vo, cat]
  rw [← h3']
  unfold vo
  rw [List.take_of_length_le (by simp [hx])]
inductive Ph (x : Str) (B : List Nat) (p : Nat) : SState → Prop
  | one (st : Nat) (op : Option Nat) (res : List Str) : st ≤ x.length → B <+: cat res → Ph x B p ((st : Int), op.map (fun (n : Nat) => (n : Int)), res)
  | two (st : Nat) (op : Option Nat) (res : List Str) : st ≤ p → (∀ o, op = some o → p ≤ o ∧ o < x.length) → vo x st res p = B → Ph x B p ((st : Int), op.map (fun (n : Nat) => (n : Int)), res)
theorem take_pre {α : Type} {m n : Nat} (l : List α) (h : m ≤ n) : l.take m <+: l.take n := by
  have e : l.take m = (l.take n).take m := by rw [List.take_take, Nat.min_eq_left h]
  rw [e]; exact List.take_prefix _ _
theorem Ph.step {x : Str} {B : List Nat} {p : Nat} {S : SState} {q : Int × Str} (h : Ph x B p S) (hq : q.2 = ⟨#[34]⟩ → ∃ n : Nat, q.1 = n ∧ p ≤ n ∧ n < x.length) : Ph x B p (stepS x S q) := by
  unfold stepS
  split
  · rename_i h34
    obtain ⟨n, hn, hpn, hnx⟩ := hq h34
    rw [hn]
    cases h with
    | one st op res h1 h2 =>
      cases op with
      | none => exact .one st (some n) res h1 h2
      | some o =>
        refine .one (n + 1) none _ (by omega) ?_
        show B <+: cat (if (st : Int) = (o : Int) then res else _)
        split
        · exact h2
        · rw [cat_snoc]; exact List.IsPrefix.trans h2 (List.prefix_append _ _)
    | two st op res h1 h2 h3 =>
      cases op with
      | none => exact .two st (some n) res h1 (fun o ho => by cases ho; exact ⟨hpn, hnx⟩) h3
      | some o =>
        obtain ⟨ho1, ho2⟩ := h2 o rfl
        refine .one (n + 1) none _ (by omega) ?_
        show B <+: cat (if (st : Int) = (o : Int) then res else _)
        rw [← h3]
        unfold vo
        split
        · have : p - st = 0 := by omega
          rw [this]; simp
        · rw [cat_snoc]
          unfold sliceS
          rw [sl_mid (by omega) (by omega)]
          exact (List.prefix_append_right_inj _).mpr (take_pre _ (by omega))
  · exact h
theorem Ph.fold {x : Str} {B : List Nat} {p : Nat} : ∀ {l : List (Int × Str)} {S : SState}, Ph x B p S → (∀ q ∈ l, q.2 = ⟨#[34]⟩ → ∃ n : Nat, q.1 = n ∧ p ≤ n ∧ n < x.length) → Ph x B p (l.foldl (stepS x) S)
  | [], _, h, _ => h
  | q :: l, S, h, hq => by
    rw [List.foldl_cons]
    exact Ph.fold (h.step (hq q (List.mem_cons_self ..))) fun r hr => hq r (List.mem_cons_of_mem _ hr)
theorem Ph.fin {x : Str} {B : List Nat} {p : Nat} {S : SState} (h : Ph x B p S) (hp : p ≤ x.length) : B <+: fin x S := by
  cases h with
  | one st op res h1 h2 => rw [fin_none h1]; exact List.IsPrefix.trans h2 (List.prefix_append _ _)
  | two st op res h1 h2 h3 =>
    rw [fin_none (by omega), ← h3]
    unfold vo
    exact (List.prefix_append_right_inj _).mpr (List.take_prefix _ _)
theorem esc_pos : ∀ (cs : List Nat) (b : Bool) (i : Nat) (q : Int × Str), q ∈ esc b i cs → ∀ c, q.2 = ⟨#[c]⟩ → c ≠ 92 → ∃ n : Nat, q.1 = n ∧ i ≤ n ∧ n < i + cs.length
  | [], false, i, p, h, _, _, _ => by simp [esc] at h
  | [], true, i, p, h, c, h2, h3 => by simp [esc] at h; rw [h] at h2; simp at h2; exact absurd h2.symm h3
  | c :: cs, true, i, p, h, d, h2, h3 => by
    simp only [esc, List.mem_cons] at h
    rcases h with h | h
    · rw [h] at h2; simp at h2
    · obtain ⟨n, h4, h5, h6⟩ := esc_pos cs false _ p h d h2 h3
      exact ⟨n, h4, by omega, by simp; omega⟩
  | c :: cs, false, i, p, h, d, h2, h3 => by
    unfold esc at h
    split at h
    · obtain ⟨n, h4, h5, h6⟩ := esc_pos cs true _ p h d h2 h3
      exact ⟨n, h4, by omega, by simp; omega⟩
    · rcases List.mem_cons.mp h with h | h
      · exact ⟨i, by rw [h], Nat.le_refl _, by simp⟩
      · obtain ⟨n, h4, h5, h6⟩ := esc_pos cs false _ p h d h2 h3
        exact ⟨n, h4, by omega, by simp; omega⟩
theorem stripX_pre {x : Str} {A B S : List Nat} (hx : x.cps.toList = A ++ S) (h : Seg A B) : B <+: (stripX x).cps.toList := by
  rw [stripX_fin]
  obtain ⟨st', res', h1, h2, h3⟩ := h x [] S 0 [] (by simpa using hx) (Nat.le_refl _)
  simp only [List.length_nil, Nat.zero_add] at h1 h2 h3
  rw [hx]
  have h2' : List.foldl (stepS x) (0, none, []) (esc false 0 (A ++ S)) = _ := h2
  rw [h2']
  have hl : x.length = A.length + S.length := by rw [← str_len, hx]; simp
  refine Ph.fin (p := A.length) (Ph.fold (.two st' none res' h1 (fun o ho => nomatch ho) (by rw [h3]; simp [vo, cat])) ?_) (by omega)
  intro q hq h34
  obtain ⟨n, h4, h5, h6⟩ := esc_pos _ _ _ q hq 34 h34 (by decide)
  exact ⟨n, h4, h5, by omega⟩
/-- the count of the brackets -/
noncomputable def cl (cs : List Nat) (k : Int) : Bool := chk (esc false 0 cs) k
theorem chk_pos : ∀ (cs : List Nat) (b : Bool) (i j : Nat) (k : Int), chk (esc b i cs) k = chk (esc b j cs) k
  | [], false, i, j, k => by simp [esc]
  | [], true, i, j, k => by simp [esc, chk]
  | c :: cs, true, i, j, k => by
    simp only [esc, chk, chk_pos cs false (i + 1) (j + 1)]
  | c :: cs, false, i, j, k => by
    unfold esc
    split
    · exact chk_pos cs true _ _ _
    · simp only [chk, chk_pos cs false (i + 1) (j + 1)]
theorem cl_open (r : List Nat) (k : Int) : cl (40 :: r) k = cl r (k + 1) := by
  unfold cl
  rw [esc_one (by decide), chk, if_pos rfl, chk_pos r false _ 0]
theorem cl_close (r : List Nat) (k : Int) : cl (41 :: r) k = if k - 1 < 0 then false else cl r (k - 1) := by
  unfold cl
  rw [esc_one (by decide), chk, if_neg (by intro h; simp at h), if_pos rfl, chk_pos r false _ 0]
theorem cl_one {c : Nat} (r : List Nat) (k : Int) (h1 : c ≠ 92) (h2 : c ≠ 40) (h3 : c ≠ 41) : cl (c :: r) k = cl r k := by
  unfold cl
  rw [esc_one h1, chk, if_neg (by intro h; simp at h; exact h2 h), if_neg (by intro h; simp at h; exact h3 h), chk_pos r false _ 0]
theorem cl_bs {c : Nat} (r : List Nat) (k : Int) : cl (92 :: c :: r) k = cl r k := by
  unfold cl
  rw [esc_two, chk, if_neg (by intro h; simp at h), if_neg (by intro h; simp at h), chk_pos r false _ 0]
theorem cl_rids (r : _root_.Fin 4) (s : List Nat) (k : Int) : cl (rids r ++ s) k = cl s k := by
  match r with
  | 0 => rfl
  | 1 => rfl
  | 2 => exact cl_bs s k
  | 3 => rfl
theorem cl_op (o : _root_.Fin 3) (s : List Nat) (k : Int) : cl (opc o :: s) k = cl s k := by
  match o with
  | 0 => exact cl_one s k (by decide) (by decide) (by decide)
  | 1 => exact cl_one s k (by decide) (by decide) (by decide)
  | 2 => exact cl_one s k (by decide) (by decide) (by decide)
theorem T.bal : ∀ (t : T) (r : List Nat) (k : Int), 0 ≤ k → cl (t.stxt ++ r) k = cl r k
  | .leaf i, r, k, _ => cl_one r k (by omega) (by omega) (by omega)
  | .node o tu ri l rt, r, k, hk => by
    have e : ∀ s, cl ((if tu = true then [126] else []) ++ s) k = cl s k := by
      intro s
      cases tu with
      | true => exact cl_one s k (by decide) (by decide) (by decide)
      | false => rfl
    unfold T.stxt
    simp only [List.append_assoc]
    rw [e]
    simp only [List.cons_append, List.nil_append]
    rw [cl_open, l.bal _ _ (by omega), cl_rids, cl_op, rt.bal _ _ (by omega), cl_close, if_neg (by omega)]
    congr 1; omega
noncomputable def Dep (P : List Nat) (d : Nat) : Prop := ∃ Q, Seg P Q ∧ ∀ r, cl (Q ++ r) 0 = cl r d
theorem Dep.nil : Dep [] 0 := ⟨[], Seg.nil, fun _ => rfl⟩
theorem Dep.bal {P A B : List Nat} {d : Nat} (h : Dep P d) (hs : Seg A B) (hb : ∀ r (k : Int), 0 ≤ k → cl (B ++ r) k = cl r k) : Dep (P ++ A) d := by
  obtain ⟨Q, h1, h2⟩ := h
  refine ⟨Q ++ B, h1.append hs, fun r => ?_⟩
  rw [List.append_assoc, h2, hb _ _ (by omega)]
theorem Dep.tree {P : List Nat} {d : Nat} (h : Dep P d) (t : T) : Dep (P ++ t.txt) d := h.bal t.seg t.bal
theorem Dep.rid {P : List Nat} {d : Nat} (h : Dep P d) (r : _root_.Fin 4) : Dep (P ++ rid r) d := h.bal (Seg.rid r) fun s k _ => cl_rids r s k
theorem Dep.op {P : List Nat} {d : Nat} (h : Dep P d) (o : _root_.Fin 3) : Dep (P ++ [opc o]) d := h.bal (Seg.op o) fun s k _ => cl_op o s k
theorem Dep.tilde {P : List Nat} {d : Nat} (h : Dep P d) : Dep (P ++ [126]) d := h.bal (Seg.one (by decide) (by decide)) fun s k _ => cl_one s k (by decide) (by decide) (by decide)
theorem Dep.opens {P : List Nat} {d : Nat} (h : Dep P d) : Dep (P ++ [40]) (d + 1) := by
  obtain ⟨Q, h1, h2⟩ := h
  refine ⟨Q ++ [40], h1.append (Seg.one (by decide) (by decide)), fun r => ?_⟩
  rw [List.append_assoc, h2]
  exact cl_open _ _
theorem checkS_dep {y : Str} {P : List Nat} {d : Nat} (hy : y.cps.toList = P) (h : Dep P d) : checkS y = ((d : Int) == 0) := by
  obtain ⟨Q, h1, h2⟩ := h
  have e := stripX_seg hy h1
  show cl (stripX y).cps.toList 0 = _
  rw [e]
  have := h2 []
  rw [List.append_nil] at this
  rw [this]
  rfl
theorem preS_cps {x : Str} {P S : List Nat} (hx : x.cps.toList = P ++ S) : (preS x ((P.length : Nat) : Int)).cps.toList = P := by
  have hl : x.length = P.length + S.length := by rw [← str_len, hx]; simp
  unfold preS
  rw [sl_to (by omega), hx]; simp
noncomputable def Skip (P A : List Nat) : Prop := ∀ (x : Str) (S : List Nat) (cs : List Int), x.cps.toList = P ++ (A ++ S) → (esc false P.length (A ++ S)).foldl (stepR x) cs = (esc false (P.length + A.length) S).foldl (stepR x) cs
theorem Skip.nil {P : List Nat} : Skip P [] := fun _ _ _ _ => rfl
theorem Skip.append {P A A' : List Nat} (h : Skip P A) (h' : Skip (P ++ A) A') : Skip P (A ++ A') := by
  intro x S cs hx
  have h1 := h x (A' ++ S) cs (by simpa using hx)
  have h2 := h' x S cs (by simpa using hx)
  rw [List.append_assoc, h1, ← List.length_append, h2]
  simp [Nat.add_assoc]
theorem Skip.one {P : List Nat} {c : Nat} (h1 : c ≠ 92) (h2 : isOp ⟨#[c]⟩ = false) : Skip P [c] := by
  intro x S cs hx
  show List.foldl _ _ (esc false P.length (c :: S)) = _
  rw [esc_one h1, List.foldl_cons]
  have e : stepR x cs (((P.length : Nat) : Int), ⟨#[c]⟩) = cs := by unfold stepR; rw [h2]; rfl
  rw [e]; rfl
theorem Skip.bs {P : List Nat} {c : Nat} : Skip P [92, c] := by
  intro x S cs hx
  show List.foldl _ _ (esc false P.length (92 :: c :: S)) = _
  rw [esc_two, List.foldl_cons]
  have e0 : isOp ⟨#[92, c]⟩ = false := by simp [isOp]
  have e : stepR x cs (((P.length + 1 : Nat) : Int), ⟨#[92, c]⟩) = cs := by unfold stepR; rw [e0]; rfl
  rw [e]; rfl
theorem opc_92 (k : _root_.Fin 3) : opc k ≠ 92 := by match k with | 0 => decide | 1 => decide | 2 => decide
theorem opc_op (k : _root_.Fin 3) : isOp ⟨#[opc k]⟩ = true := by match k with | 0 => decide | 1 => decide | 2 => decide
theorem Skip.op {P : List Nat} {d : Nat} (h : Dep P (d + 1)) (k : _root_.Fin 3) : Skip P [opc k] := by
  intro x S cs hx
  show List.foldl _ _ (esc false P.length (opc k :: S)) = _
  rw [esc_one (opc_92 k), List.foldl_cons]
  have e0 : checkS (preS x ((P.length : Nat) : Int)) = false := by
    rw [checkS_dep (preS_cps hx) h]
    rw [beq_eq_false_iff_ne]; omega
  have e : stepR x cs (((P.length : Nat) : Int), ⟨#[opc k]⟩) = cs := by unfold stepR; dsimp only; rw [e0, Bool.and_false]; rfl
  rw [e]; rfl
theorem Skip.rid {P : List Nat} (r : _root_.Fin 4) : Skip P (rid r) := by
  have q : ∀ {P}, Skip P [34] := Skip.one (by decide) (by decide)
  match r with
  | 0 => exact Skip.nil
  | 1 => exact Skip.append (A := [34]) q (Skip.append (A := [40]) (Skip.one (by decide) (by decide)) q)
  | 2 => exact Skip.bs
  | 3 => exact Skip.append (A := [34]) q (Skip.append (A := [41]) (Skip.one (by decide) (by decide)) (Skip.append (A := [92, 34]) Skip.bs q))
theorem T.skip : ∀ (t : T) (P : List Nat) (d : Nat), Dep P d → Skip P t.txt
  | .leaf i, P, d, _ => Skip.one (by omega) (by match i with | 0 => decide | 1 => decide | 2 => decide)
  | .node k tu r l rt, P, d, h => by
    have hP : Dep (P ++ (if tu = true then [126] else [])) d := by
      cases tu with
      | true => exact h.tilde
      | false => simpa using h
    rw [txt_node]
    refine Skip.append ?_ (Skip.append (Skip.one (by decide) (by decide)) (Skip.append (l.skip _ _ hP.opens) (Skip.append (Skip.rid r) (Skip.append (Skip.op ((hP.opens.tree l).rid r) k) (Skip.append (rt.skip _ _ (((hP.opens.tree l).rid r).op k)) (Skip.one (by decide) (by decide)))))))
    cases tu with
    | true => exact Skip.one (by decide) (by decide)
    | false => exact Skip.nil
theorem skip_end {x : Str} {A S : List Nat} {cs : List Int} (hx : x.cps.toList = A ++ S) (h : ∃ Q, Seg A (Q ++ [41]) ∧ ∀ r, cl (Q ++ r) 0 = cl r 0) : ∀ l : List (Int × Str), (∀ q ∈ l, ∀ c, q.2 = ⟨#[c]⟩ → c ≠ 92 → ∃ n : Nat, q.1 = n ∧ A.length ≤ n ∧ n < x.length) → l.foldl (stepR x) cs = cs
  | [], _ => rfl
  | q :: l, hq => by
    rw [List.foldl_cons]
    have e : stepR x cs q = cs := by
      unfold stepR
      cases ho : isOp q.2 with
      | false => rfl
      | true =>
        have hc : ∃ c, q.2 = ⟨#[c]⟩ ∧ c ≠ 92 := by
          unfold isOp at ho
          simp only [Bool.or_eq_true, beq_iff_eq] at ho
          rcases ho with (h | h) | h
          · exact ⟨_, h, by decide⟩
          · exact ⟨_, h, by decide⟩
          · exact ⟨_, h, by decide⟩
        obtain ⟨c, hc1, hc2⟩ := hc
        obtain ⟨n, hn, hn1, hn2⟩ := hq q (List.mem_cons_self ..) c hc1 hc2
        obtain ⟨Q, hQ, hQ2⟩ := h
        have hy : (preS x q.1).cps.toList = A ++ S.take (n - A.length) := by
          rw [hn]; unfold preS
          rw [sl_to (by omega), hx, List.take_append, List.take_of_length_le hn1]
        obtain ⟨W, hW⟩ := stripX_pre hy hQ
        have e0 : checkS (preS x q.1) = false := by
          show cl _ 0 = false
          rw [← hW, List.append_assoc, hQ2]
          show cl (41 :: W) 0 = false
          rw [cl_close]; rfl
        rw [e0]; rfl
    rw [e]
    exact skip_end hx h l fun r hr => hq r (List.mem_cons_of_mem _ hr)
theorem cuts_node (k : _root_.Fin 3) (r : _root_.Fin 4) (l rt : T) (sfx : List Nat) (x : Str) (hx : x.cps.toList = (l.txt ++ rid r) ++ opc k :: (rt.txt ++ 41 :: sfx)) : cutsR x = [((l.txt ++ rid r).length : Int)] := by
  unfold cutsR
  have D1 : Dep l.txt 0 := by simpa using Dep.nil.tree l
  have D2 := D1.rid r
  have D3 := D2.op k
  have D4 := D3.tree rt
  have K1 : Skip [] (l.txt ++ rid r) := Skip.append (l.skip _ _ Dep.nil) (Skip.rid r)
  have e1 := K1 x (opc k :: (rt.txt ++ 41 :: sfx)) [] hx
  rw [List.length_nil, Nat.zero_add] at e1
  rw [hx, e1, esc_one (opc_92 k), List.foldl_cons]
  have e2 : stepR x [] ((((l.txt ++ rid r).length : Nat) : Int), ⟨#[opc k]⟩) = [((l.txt ++ rid r).length : Int)] := by
    unfold stepR
    dsimp only
    rw [opc_op, checkS_dep (preS_cps hx) D2]
    rfl
  rw [e2]
  have K2 : Skip ((l.txt ++ rid r) ++ [opc k]) (rt.txt ++ [41]) := Skip.append (rt.skip _ _ D3) (Skip.one (by decide) (by decide))
  have e3 := K2 x sfx [((l.txt ++ rid r).length : Int)] (by rw [hx]; simp)
  rw [show rt.txt ++ 41 :: sfx = (rt.txt ++ [41]) ++ sfx by simp]
  rw [List.length_append (bs := [opc k])] at e3
  show List.foldl _ _ (esc false ((l.txt ++ rid r).length + [opc k].length) _) = _
  rw [e3]
  have hx2 : x.cps.toList = ((l.txt ++ rid r) ++ [opc k] ++ (rt.txt ++ [41])) ++ sfx := by rw [hx]; simp
  refine skip_end hx2 ?_ _ ?_
  · obtain ⟨Q, h1, h2⟩ := D4
    refine ⟨Q, ?_, h2⟩
    have := h1.append (Seg.one (c := 41) (by decide) (by decide))
    simpa using this
  · intro q hq c h1 h2
    obtain ⟨n, h4, h5, h6⟩ := esc_pos _ _ _ q hq c h1 h2
    refine ⟨n, h4, by simp at *; omega, ?_⟩
    have hl : x.length = x.cps.toList.length := (str_len x).symm
    rw [hl, hx2]; simp at *; omega
end Mine
end
section -- READC
namespace Mine
theorem offREADC : True := by
  w_top off
  exact trivial
theorem gclaim_mono {w : World} {mean : ExcName → Option Value} {mg mb : Str → Option Value} {f : Addr} {D U D' U' : Nat} {vs : List Value} {R R' : Tok → Value} (h : GClaim w mean mg mb f D U vs R) (h1 : D ≤ D') (h2 : U ≤ U') (e : R = R') : GClaim w mean mg mb f D' U' vs R' := by
  subst e
  intro dp un gd cn cs a ccd cl outer A₀ base h₀ L m news s Q E hB hF hX hN hT hk hdp hu hret
  exact h dp un gd cn cs a ccd cl outer A₀ base h₀ L m news s Q E hB hF hX hN hT hk (by omega) (by omega) hret
theorem read_c (w : World) (mean : ExcName → Option Value) (mg mb : Str → Option Value) (fv : Value) : ∀ (τ : T) (x : Str) (t : Tok) (sfx : List Nat), x.cps.toList = τ.txt ++ sfx → x.length ≤ 1000 → GClaim w mean mg mb 246 (40 + τ.lv) (300 + 3 * τ.lv) [.str x t, fv] (fun t => .int (τ.mask : Nat) t) := by
  intro τ
  induction τ with
  | leaf i =>
    intro x t sfx hc hx
    exact gclaim_mono (read_leaf w mean mg mb i x sfx hc t fv) (by omega) (by omega) rfl
  | node k tu r l rt ihl ihr =>
    have core : ∀ (x : Str) (t : Tok) (sfx : List Nat), x.cps.toList = T.core k r l.txt rt.txt ++ sfx → x.length ≤ 1000 → GClaim w mean mg mb 246 (40 + max l.lv rt.lv + 1) (300 + 3 * max l.lv rt.lv + 3) [.str x t, fv] (fun t => .int (opMask k l.mask rt.mask : Nat) t) := by
      intro x t sfx hc hx
      have hc' : x.cps.toList = 40 :: ((l.txt ++ rid r) ++ opc k :: (rt.txt ++ 41 :: sfx)) := by rw [hc]; simp [T.core]
      refine read_node w mean mg mb k (l.txt ++ rid r) (rt.txt ++ 41 :: sfx) x ⟨_, hc'⟩ hx t fv _ _ l.mask rt.mask (by omega) (by omega) (nf hc' hx fun y hy => cuts_node k r l rt sfx y hy) ⟨fun y t hy hl => gclaim_mono (ihl y t (rid r) hy hl) (by omega) (by omega) rfl, fun y t hy hl => gclaim_mono (ihr y t (41 :: sfx) hy hl) (by omega) (by omega) rfl, tokAtOp w k⟩
    intro x t sfx hc hx
    cases tu with
    | false =>
      have hc' : x.cps.toList = T.core k r l.txt rt.txt ++ sfx := by rw [hc]; simp [T.txt]
      refine gclaim_mono (core x t sfx hc' hx) ?_ ?_ ?_
      · show _ ≤ 40 + (1 + max l.lv rt.lv); omega
      · show _ ≤ 300 + 3 * (1 + max l.lv rt.lv); omega
      · rfl
    | true =>
      have hc' : x.cps.toList = 126 :: (T.core k r l.txt rt.txt ++ sfx) := by rw [hc]; simp [T.txt]
      refine gclaim_mono (read_tilde w mean mg mb x _ hc' hx t fv _ _ _ (opMask_lt k l.mask_lt rt.mask_lt) (by omega) (by omega) fun y t hy hl => core y t sfx hy hl) ?_ ?_ ?_
      · show _ ≤ 40 + (2 + max l.lv rt.lv); omega
      · show _ ≤ 300 + 3 * (2 + max l.lv rt.lv); omega
      · rfl
end Mine
end
section -- ITEMS
namespace Mine
theorem offITEMS : True := by
  w_top off
  exact trivial
theorem allObj_mono : ∀ {ws : List (Addr × String)} {k k' : List (Addr × Obj) → Prop}, AllObj ws k → (∀ its, k its → k' its) → AllObj ws k'
  | [], _, _, h, hk => hk _ h
  | _ :: _, _, _, h, hk => fun o ho => allObj_mono (h o ho) fun its => hk _
theorem unr_mono {h₀ : Heap} {L : Addr} {s₁ : Shared} {its : List (Addr × Obj)} {rest rest' : (Str → Option Value) → List (Addr × Obj) → Prop} {Q : Flow → Shared → Prop} {f : Flow} {s₂ : Shared} (h : UnrPostW h₀ L s₁ its rest Q f s₂) (hr : ∀ m n, rest m n → rest' m n) : UnrPostW h₀ L s₁ its rest' Q f s₂ := by
  unfold UnrPostW at *
  cases f with
  | ret v => exact h
  | brk => exact h
  | cont => obtain ⟨a, b, c, d, e, f, g, i, j⟩ := h; exact ⟨a, b, c, d, e, f, g, i, hr _ _ j⟩
  | next => obtain ⟨a, b, c, d, e, f, g, i, j⟩ := h; exact ⟨a, b, c, d, e, f, g, i, hr _ _ j⟩
theorem items_ind {prog : Program} {w : World} {A : Around} {E : Value → Shared → Prop} {h₀ : Heap} {env : Env} {target : Expr} {body : List Stmt} {Q : Flow → Shared → Prop} {s : Shared} {ws : List (Addr × String)} {keep : List (Addr × Obj)}
    (J : Nat → List Int → (Str → Option Value) → List (Addr × Obj) → Prop)
    (hnil : ∀ i m n, J i [] m n → ∀ h tk, Fr h₀ env.locals h m → News h₀ env.locals h n → Q .next { s with heap := h, toks := tk })
    (hstep : ∀ (i : Nat) (x : Int) (u : Tok) r m n, J i (x :: r) m n → ∀ T t h tk, IsTup h T #[.int i t, .int x u] → Fr h₀ env.locals h m → AllObj ws (fun its => News h₀ env.locals h (its ++ n) →
      wpAny (model prog w) A (assign target env (.ref T)) (fun _ s₂ => wpAny (model prog w) A (execs body env) (UnrPostW h₀ env.locals { s with heap := h, toks := tk } its (fun m' n' => SubL keep n' ∧ J (i + 1) r m' n') Q) E s₂) E { s with heap := h, toks := tk })) :
    ∀ {vs : List Value} {ns : List Int}, IntsAre vs ns → ∀ (i : Nat) m n, J i ns m n → ItemsRest prog w A E h₀ env target body Q s ws keep (enumItems i vs) m n
  | _, _, .nil, i, m, n, hJ => ItemsRest.zero (hnil i m n hJ)
  | _, _, .cons x u hr, i, m, n, hJ => ItemsRest.pair fun T t h tk hT F => allObj_mono (hstep i x u _ m n hJ T t h tk hT F) fun its h1 hN =>
      wpAny_mono (h1 hN) (fun _ _ h2 => wpAny_mono h2 (fun _ _ h3 => unr_mono h3 fun m' n' h4 => ⟨h4.1, items_ind J hnil hstep hr (i + 1) m' n' h4.2⟩) fun _ _ e => e) fun _ _ e => e
theorem vals_ind {prog : Program} {w : World} {A : Around} {E : Value → Shared → Prop} {h₀ : Heap} {env : Env} {target : Expr} {body : List Stmt} {Q : Flow → Shared → Prop} {s : Shared} {ws : List (Addr × String)} {keep : List (Addr × Obj)}
    (J : List Value → (Str → Option Value) → List (Addr × Obj) → Prop)
    (hnil : ∀ m n, J [] m n → ∀ h tk, Fr h₀ env.locals h m → News h₀ env.locals h n → Q .next { s with heap := h, toks := tk })
    (hstep : ∀ (x : Value) r m n, J (x :: r) m n → ∀ h tk, Fr h₀ env.locals h m → AllObj ws (fun its => News h₀ env.locals h (its ++ n) →
      wpAny (model prog w) A (assign target env x) (fun _ s₂ => wpAny (model prog w) A (execs body env) (UnrPostW h₀ env.locals { s with heap := h, toks := tk } its (fun m' n' => SubL keep n' ∧ J r m' n') Q) E s₂) E { s with heap := h, toks := tk })) :
    ∀ (vs : List Value) m n, J vs m n → ItemsRest prog w A E h₀ env target body Q s ws keep (vs.map .val) m n
  | [], m, n, hJ => ItemsRest.zero (hnil m n hJ)
  | x :: r, m, n, hJ => ItemsRest.val fun h tk F => allObj_mono (hstep x r m n hJ h tk F) fun its h1 hN =>
      wpAny_mono (h1 hN) (fun _ _ h2 => wpAny_mono h2 (fun _ _ h3 => unr_mono h3 fun m' n' h4 => ⟨h4.1, vals_ind J hnil hstep r m' n' h4.2⟩) fun _ _ e => e) fun _ _ e => e
end Mine
end
section -- DRAWS
namespace Mine
theorem offDRAWS : True := by
  w_top off
  exact trivial
noncomputable abbrev mD (pl nm : Option Value) (dl l : Addr) : Str → Option Value := fun y => if y = Str.ofString "number" then nm else if y = Str.ofString "place" then pl else if y = Str.ofString "draws" then some (.ref dl) else if y = Str.ofString "script" then some (.ref l) else none
theorem mD_init {dl l : Addr} : (fun y => if y = Str.ofString "draws" then some (Value.ref dl) else if y = Str.ofString "script" then some (Value.ref l) else none) = mD none none dl l := by
  funext y; unfold mD
  have n1 : ¬ Str.ofString "draws" = Str.ofString "number" := by decide
  have n2 : ¬ Str.ofString "draws" = Str.ofString "place" := by decide
  have n3 : ¬ Str.ofString "script" = Str.ofString "number" := by decide
  have n4 : ¬ Str.ofString "script" = Str.ofString "place" := by decide
  by_cases h1 : y = Str.ofString "number"
  · subst h1; rfl
  · by_cases h2 : y = Str.ofString "place"
    · subst h2; rfl
    · rw [if_neg h1, if_neg h2]
theorem mD_two {pl nm v u : Option Value} {dl l : Addr} : (fun y => if y = Str.ofString "number" then v else if y = Str.ofString "place" then u else mD pl nm dl l y) = mD u v dl l := by
  funext y; unfold mD
  have n1 : ¬ Str.ofString "place" = Str.ofString "number" := by decide
  by_cases h1 : y = Str.ofString "number"
  · simp [h1]
  · by_cases h2 : y = Str.ofString "place"
    · subst h2; simp [n1]
    · simp [h1, h2]
theorem three {ds : List Int} (h : ds.length = 3) : ∃ a b c, ds = [a, b, c] := by
  match ds, h with | [a, b, c], _ => exact ⟨a, b, c, rfl⟩
noncomputable def BD (i : Nat) (ds : List Int) : Prop := ∀ d ∈ ds, 0 ≤ d ∧ d ≤ 127 + 1000000 * (i : Int)
theorem BD.set {i : Nat} {ds : List Int} (h : BD i ds) (j : Nat) (x : Int) : BD (i + 1) (ds.set j (ds.getD j 0 + Int.fmod x (10 ^ Int.toNat 6))) := by
  have e : (10 : Int) ^ Int.toNat 6 = 1000000 := by decide
  rw [e]
  have h0 : 0 ≤ Int.fmod x 1000000 := Int.fmod_nonneg_of_pos _ (by decide)
  have h1 : Int.fmod x 1000000 < 1000000 := Int.fmod_lt_of_pos _ (by decide)
  intro d hd
  rcases List.mem_or_eq_of_mem_set hd with hd | rfl
  · have := h d hd; omega
  · by_cases hj : j < ds.length
    · have := h _ (List.getElem_mem hj)
      rw [List.getD_eq_getElem?_getD, List.getElem?_eq_getElem hj]
      simp only [Option.getD_some]
      omega
    · rw [List.getD_eq_getElem?_getD, List.getElem?_eq_none (by omega)]
      simp only [Option.getD_none]
      omega
theorem nameD {h₀ h : Heap} {L D dl : Addr} {o o2 : Obj} {r : List (Addr × Obj)} (_ : News h₀ L h ((D, o) :: (dl, o2) :: r)) : ∃ D' o' dl', D' = D ∧ o' = o ∧ dl' = dl := ⟨_, _, _, rfl, rfl, rfl⟩
theorem draws_c (w : World) (mean : ExcName → Option Value) (mg mb : Str → Option Value) (l : Addr) (vs : List Value) (ns : List Int) (hI : IntsAre vs ns) (hn : ns.length ≤ 63) :
    ∀ (dp un : Nat) (gd : Option (List Code)) (cn : Str) (cs : Scope) (a : Addr) (ccd : Value) (cl : List (Str × Addr)) (outer : List Env) (A₀ : Around) (base h₀ : Heap) (L : Addr) (m : Str → Option Value) (news : List (Addr × Obj)) (s : Shared) (Q E : Value → Shared → Prop),
    Below A₀ base outer h₀ → Fr h₀ L s.heap m → (hd.heap_1 w.params).In h₀ → News h₀ L s.heap news → Top VW LO mean mg mb h₀ → cs.kind = .function → dp + 30 < recursionLimit → un + 200 < cLine →
    h₀.IsList l vs.toArray → (∀ D vs a b c k h' tk', IntsAre vs [a, b, c] → BD 63 [a, b, c] → Fr h₀ L h' m → News h₀ L h' ((D, listOf vs.toArray k) :: news) → Q (.ref D) { s with heap := h', toks := tk' }) → wpAny (model PG w) (ktrTop dp un gd cn cs L a ccd cl outer) (call (.ref 225) [.ref l]) Q E s := by
  w_top off
  revert w mean mg mb l vs ns
  refine eps7 neW inferInstance inferInstance inferInstance inferInstance inferInstance inferInstance ?_; generalize E7_1 _ _ _ _ _ _ _ _ = w; generalize E7_2 _ _ _ _ _ _ _ _ = mean; generalize E7_3 _ _ _ _ _ _ _ _ = mg; generalize E7_4 _ _ _ _ _ _ _ _ = mb; generalize E7_5 _ _ _ _ _ _ _ _ = l; generalize E7_6 _ _ _ _ _ _ _ _ = vs; generalize E7_7 _ _ _ _ _ _ _ _ = ns
  intro hI hn
  refine eps8 inferInstance inferInstance inferInstance inferInstance inferInstance inferInstance inferInstance inferInstance ?_; generalize E8_1 _ _ _ _ _ _ _ _ _ = dp; generalize E8_2 _ _ _ _ _ _ _ _ _ = un; generalize E8_3 _ _ _ _ _ _ _ _ _ = gd; generalize E8_4 _ _ _ _ _ _ _ _ _ = cn; generalize E8_5 _ _ _ _ _ _ _ _ _ = cs; generalize E8_6 _ _ _ _ _ _ _ _ _ = a; generalize E8_7 _ _ _ _ _ _ _ _ _ = ccd; generalize E8_8 _ _ _ _ _ _ _ _ _ = cl
  refine eps8 inferInstance neA inferInstance inferInstance inferInstance inferInstance inferInstance neS ?_; generalize E8_1 _ _ _ _ _ _ _ _ _ = outer; generalize E8_2 _ _ _ _ _ _ _ _ _ = A₀; generalize E8_3 _ _ _ _ _ _ _ _ _ = base; generalize E8_4 _ _ _ _ _ _ _ _ _ = h₀; generalize E8_5 _ _ _ _ _ _ _ _ _ = L; generalize E8_6 _ _ _ _ _ _ _ _ _ = m; generalize E8_7 _ _ _ _ _ _ _ _ _ = news; generalize E8_8 _ _ _ _ _ _ _ _ _ = s
  refine eps2 inferInstance inferInstance ?_; generalize E2_1 _ _ _ = Q; generalize E2_2 _ _ _ = E
  intro hB hF hX hN hT hk hdp hu hlist hret
  refine wpAny_call ?_
  k_dflt cell_enter
  (with_reducible rename Fr _ _ _ (fun y => List.lookup y _) => FE0); have FE := fr1 FE0; clear FE0; dsimp only at FE
  have hlist2 : ∃ g, Fr h₀ L g m ∧ g.IsList l vs.toArray := ⟨s.heap, hF, Fr.lst hF hlist⟩
  (with_reducible rename Fr h₀ L _ m => FGx)
  have hlist3 := Fr.lst FGx hlist
  iterate 28 (first | ((with_reducible show wpAny _ _ (exec (Stmt.For _ _ _ _ _) _) _ _ _); (k_here; (rename Fr _ _ _ _ => lF'); (with_unfolding_all refine' For_turns lF' ?_; k_whole))) | walk1)
  · (rename IntsAre _ (List.take 63 ns) => hI2)
    rw [List.take_of_length_le hn] at hI2
    (with_reducible rename Fr _ _ _ (fun y => if y = Str.ofString "draws" then _ else _) => F2)
    (with_reducible rename News _ _ _ ((_, listOf _ 0) :: _) => N2)
    k_here
    with_unfolding_all refine' ktu_enum ?h0 (by exact F2) (by exact N2) ?hm ?hc ?hd ?hx ?_
    case h0 => exact rfl
    case hm => exact List.mem_cons_self ..
    case hc => exact rfl
    case hd => exact rfl
    case hx => exact rfl
    intro I hI
    rw [mD_init]
    obtain ⟨D, oD, dl, hD1, hD2, hD3⟩ := nameD N2
    subst hD1 hD3
    rw [← hD2]
    clear F2 N2
    have hID : @LT.lt Nat _ D I := hI _ (List.mem_cons_self ..)
    have hIl : @LT.lt Nat _ dl I := hI _ (List.mem_cons_of_mem _ (List.mem_cons_self ..))
    (with_reducible rename IntsAre _ _ => hI2)
    refine items_ind (fun i r m n => ∃ pl nm ls ds k, m = mD pl nm dl l ∧ n = (D, oD) :: (dl, listOf ls.toArray k) :: news ∧ IntsAre ls ds ∧ ds.length = 3 ∧ BD i ds ∧ i + r.length ≤ 63) ?nil ?step hI2 0 _ _ ?J
    case J => exact ⟨none, none, [_, _, _], _, 0, rfl, rfl, .cons _ _ (.cons _ _ (.cons _ _ .nil)), rfl, by intro d hd; simp at hd; omega, by omega⟩
    case nil =>
      rintro i m n ⟨pl, nm, ls, ds, k, rfl, rfl, hls, hlen, hbd, hr⟩ h tk F3 N3
      dsimp only
      (repeat' (first | (k_unfold; (try dsimp only)) | (first | ((with_reducible show wpAny _ _ (exec (Stmt.For _ _ _ _ _) _) _ _ _); (k_here; (rename Fr _ _ _ _ => lF'); (with_unfolding_all refine' For_turns lF' ?_; k_whole))) | walk1) | (dsimp only; (first | ((with_reducible show wpAny _ _ (exec (Stmt.For _ _ _ _ _) _) _ _ _); (k_here; (rename Fr _ _ _ _ => lF'); (with_unfolding_all refine' For_turns lF' ?_; k_whole))) | walk1)) | (leave1; (try dsimp only))))
      obtain ⟨a, b, c, rfl⟩ := three hlen
      (rename News h₀ L _ _ => kN2)
      exact hret _ _ _ _ _ _ _ _ hls (fun d hd => by have := hbd d hd; simp only [List.length_nil] at hr; omega) (by k_asm) (fun p hp => kN2 p (List.mem_cons_of_mem _ hp))
    case step =>
      rintro i x u r m n ⟨pl, nm, ls, ds, k, rfl, rfl, hls, hlen, hbd, hr⟩ T t h tk hT F3
      have hi0 : 0 ≤ Int.fmod (i : Int) 3 := Int.fmod_nonneg (by omega) (by omega)
      have hi3 : Int.fmod (i : Int) 3 < 3 := Int.fmod_lt_of_pos _ (by omega)
      have hi4 : Int.fmod (i : Int) 3 < (ds.length : Int) := by rw [hlen]; exact hi3
      have hi5 : Int.fmod (i : Int) 3 < 2 ^ 63 := Int.lt_trans hi3 (by decide)
      ktu_objs
      (repeat' (first | (k_unfold; (try dsimp only)) | (first | ((with_reducible show wpAny _ _ (exec (Stmt.For _ _ _ _ _) _) _ _ _); (k_here; (rename Fr _ _ _ _ => lF'); (with_unfolding_all refine' For_turns lF' ?_; k_whole))) | walk1) | (dsimp only; (first | ((with_reducible show wpAny _ _ (exec (Stmt.For _ _ _ _ _) _) _ _ _); (k_here; (rename Fr _ _ _ _ => lF'); (with_unfolding_all refine' For_turns lF' ?_; k_whole))) | walk1)) | (leave1; (try dsimp only))))
      (with_reducible rename IntsAre (List.set _ _ _) _ => hi')
      (with_reducible rename Fr _ _ _ _ => F')
      (with_reducible rename News _ _ _ _ => N')
      rw [mD_two] at F'
      refine ⟨_, _, _, (D, oD) :: (dl, listOf _ k) :: news, rfl, F', ?nN, ?off, ?sub, _, _, _, _, k, rfl, rfl, hi', by rw [List.length_set, hlen], hbd.set _ _, by simp only [List.length_cons] at hr; omega⟩
      case nN => rw [List.cons_append, List.cons_append, List.nil_append]; exact N'
      case off =>
        intro p hp q hq
        have hq2 : q.1 = I + 1 ∨ q.1 = I := by
          simp only [List.mem_cons, List.not_mem_nil, or_false] at hq
          rcases hq with rfl | rfl
          · exact .inl rfl
          · exact .inr rfl
        have hp2 : @LT.lt Nat _ p.1 I := by
          rcases List.mem_cons.mp hp with rfl | hp
          · exact hID
          · rcases List.mem_cons.mp hp with rfl | hp
            · exact hIl
            · exact hI _ (List.mem_cons_of_mem _ (List.mem_cons_of_mem _ hp))
        intro e
        rw [e] at hp2
        rcases hq2 with e2 | e2 <;> rw [e2] at hp2 <;> revert hp2 <;> show ¬ @LT.lt Nat _ _ _ <;> omega
      case sub => k_subL
end Mine
end
section -- TREEAT
namespace Mine
theorem offTREEAT : True := by
  w_top off
  exact trivial
noncomputable abbrev tupO (vs : Array Value) (n : Nat) : Obj := { cls := .type "tuple", data := .seq vs n }
noncomputable def tn (tu : Bool) : Int := if tu = true then 1 else 0
noncomputable def TreeAt (news : List (Addr × Obj)) : T → Value → Prop
  | .leaf i, v => ∃ t, v = .str ⟨#[97 + i.val]⟩ t
  | .node k tu r l rt, v => ∃ a n t1 t2 t3 vl vr, v = .ref a ∧ (a, tupO #[.int (k.val : Int) t1, .int (tn tu) t2, .int (r.val : Int) t3, vl, vr] n) ∈ news ∧ TreeAt news l vl ∧ TreeAt news rt vr
theorem TreeAt.mono {n1 n2 : List (Addr × Obj)} (h : ∀ p ∈ n1, p ∈ n2) : ∀ {τ : T} {v : Value}, TreeAt n1 τ v → TreeAt n2 τ v
  | .leaf i, v, H => H
  | .node k tu r l rt, v, H => by
    obtain ⟨a, n, t1, t2, t3, vl, vr, h1, h2, h3, h4⟩ := H
    exact ⟨a, n, t1, t2, t3, vl, vr, h1, h _ h2, TreeAt.mono h h3, TreeAt.mono h h4⟩
inductive TreesAt (news : List (Addr × Obj)) : List Value → Nat → Prop
  | nil : TreesAt news [] 0
  | cons {v : Value} {τ : T} {vs : List Value} {N : Nat} : TreeAt news τ v → TreesAt news vs N → TreesAt news (v :: vs) (τ.nodes + N)
theorem TreesAt.mono {n1 n2 : List (Addr × Obj)} (h : ∀ p ∈ n1, p ∈ n2) {vs : List Value} {N : Nat} (H : TreesAt n1 vs N) : TreesAt n2 vs N := by
  induction H with
  | nil => exact .nil
  | cons a _ ih => exact .cons (a.mono h) ih
theorem TreesAt.eq {news : List (Addr × Obj)} {vs : List Value} {N M : Nat} (H : TreesAt news vs N) (e : N = M) : TreesAt news vs M := e ▸ H
theorem TreesAt.node {news : List (Addr × Obj)} {k tu r : Int} {t1 t2 t3 : Tok} {vl vr : Value} {a n : Nat} {l rt : T} (hm : (a, tupO #[.int k t1, .int tu t2, .int r t3, vl, vr] n) ∈ news) (hk : 0 ≤ k) (hk' : k < 3) (ht : 0 ≤ tu) (ht' : tu < 2) (hr : 0 ≤ r) (hr' : r < 4)
    (hl : TreeAt news l vl) (hrt : TreeAt news rt vr) : ∃ τ : T, TreeAt news τ (.ref a) ∧ τ.nodes = 1 + l.nodes + rt.nodes := by
  have e1 : k = ((⟨k.toNat, by omega⟩ : Fin 3).val : Int) := by show k = (k.toNat : Int); omega
  have e2 : tu = tn (decide (tu = 1)) := by
    unfold tn
    by_cases h : tu = 1
    · simp [h]
    · simp only [h, decide_false]; have : tu = 0 := by omega
      simp [this]
  have e3 : r = ((⟨r.toNat, by omega⟩ : Fin 4).val : Int) := by show r = (r.toNat : Int); omega
  refine ⟨.node ⟨k.toNat, by omega⟩ (decide (tu = 1)) ⟨r.toNat, by omega⟩ l rt, ⟨a, n, t1, t2, t3, vl, vr, rfl, ?_, hl, hrt⟩, rfl⟩
  rw [← e1, ← e2, ← e3]
  exact hm
end Mine
end
section -- TREEB
namespace Mine
theorem offTREEB : True := by
  w_top off
  exact trivial
noncomputable abbrev mT (nm pl nd : Option Value) (tl D : Addr) : Str → Option Value := fun y => if y = Str.ofString "node" then nd else if y = Str.ofString "place" then pl else if y = Str.ofString "number" then nm else if y = Str.ofString "trees" then some (.ref tl) else if y = Str.ofString "draws" then some (.ref D) else none
section
variable {prog : Program} {w : World} {A : Around} {E : Value → Shared → Prop} {s : Shared} {env : Env} {nm : Str} {x n : Int} {t : Tok} {Q : Unit → Shared → Prop}
theorem storeC3 (hn : n = 3) (h0 : wpAny (model prog w) A (storeName env nm (.int 0 t)) Q E s) (h1 : wpAny (model prog w) A (storeName env nm (.int 1 t)) Q E s) (h2 : wpAny (model prog w) A (storeName env nm (.int 2 t)) Q E s) : wpAny (model prog w) A (storeName env nm (.int (Int.fmod x n) t)) Q E s := by
  subst hn
  have a0 : 0 ≤ Int.fmod x 3 := Int.fmod_nonneg_of_pos _ (by decide)
  have a1 : Int.fmod x 3 < 3 := Int.fmod_lt_of_pos _ (by decide)
  have h : Int.fmod x 3 = 0 ∨ Int.fmod x 3 = 1 ∨ Int.fmod x 3 = 2 := by omega
  rcases h with h | h | h <;> rw [h] <;> assumption
theorem storeC2 (hn : n = 2) (h0 : wpAny (model prog w) A (storeName env nm (.int 0 t)) Q E s) (h1 : wpAny (model prog w) A (storeName env nm (.int 1 t)) Q E s) : wpAny (model prog w) A (storeName env nm (.int (Int.fmod x n) t)) Q E s := by
  subst hn
  have a0 : 0 ≤ Int.fmod x 2 := Int.fmod_nonneg_of_pos _ (by decide)
  have a1 : Int.fmod x 2 < 2 := Int.fmod_lt_of_pos _ (by decide)
  have h : Int.fmod x 2 = 0 ∨ Int.fmod x 2 = 1 := by omega
  rcases h with h | h <;> rw [h] <;> assumption
theorem storeC1 (hn : n = 1) (h0 : wpAny (model prog w) A (storeName env nm (.int 0 t)) Q E s) : wpAny (model prog w) A (storeName env nm (.int (Int.fmod x n) t)) Q E s := by
  subst hn
  have a0 : 0 ≤ Int.fmod x 1 := Int.fmod_nonneg_of_pos _ (by decide)
  have a1 : Int.fmod x 1 < 1 := Int.fmod_lt_of_pos _ (by decide)
  have h : Int.fmod x 1 = 0 := by omega
  rw [h]; assumption
end
theorem mapT {nm pl nd nm' pl' nd' tl' : Option Value} {tl D : Addr} : (fun y => if y = Str.ofString "trees" then tl' else if y = Str.ofString "node" then nd' else if y = Str.ofString "place" then pl' else if y = Str.ofString "number" then nm' else mT nm pl nd tl D y) = (fun y => if y = Str.ofString "node" then nd' else if y = Str.ofString "place" then pl' else if y = Str.ofString "number" then nm' else if y = Str.ofString "trees" then tl' else if y = Str.ofString "draws" then some (.ref D) else none) := by
  funext y; unfold mT
  by_cases h1 : y = Str.ofString "trees"
  · subst h1; rfl
  · by_cases h2 : y = Str.ofString "node"
    · subst h2; rfl
    · by_cases h3 : y = Str.ofString "place"
      · subst h3; rfl
      · by_cases h4 : y = Str.ofString "number"
        · subst h4; rfl
        · simp only [h1, h2, h3, h4, if_false]
theorem abc_item (x : Int) : ∃ i : _root_.Fin 3, Txt.item (Str.ofString "abc") (Int.fmod x 3) = ⟨#[97 + i.val]⟩ := by
  have h0 : 0 ≤ Int.fmod x 3 := Int.fmod_nonneg_of_pos _ (by decide)
  have h1 : Int.fmod x 3 < 3 := Int.fmod_lt_of_pos _ (by decide)
  have h : Int.fmod x 3 = 0 ∨ Int.fmod x 3 = 1 ∨ Int.fmod x 3 = 2 := by omega
  rcases h with h | h | h <;> rw [h]
  · exact ⟨0, by decide +kernel⟩
  · exact ⟨1, by decide +kernel⟩
  · exact ⟨2, by decide +kernel⟩
theorem leafAt {news : List (Addr × Obj)} {x : Str} {t : Tok} (i : _root_.Fin 3) (h : x = ⟨#[97 + i.val]⟩) : TreeAt news (.leaf i) (.str x t) := ⟨t, by rw [h]⟩
theorem nameT {h₀ h : Heap} {L tl D : Addr} {o : Obj} {r : List (Addr × Obj)} (_ : News h₀ L h ((tl, o) :: (D, r1) :: r)) : ∃ tl', tl' = tl := ⟨_, rfl⟩
noncomputable def TupA (o : Obj) : Prop := ∃ vs n, o = tupO vs n
theorem TupA.cls {o : Obj} (h : TupA o) : o.cls = .type "tuple" := let ⟨_, _, e⟩ := h; e ▸ rfl
noncomputable def JT (news : List (Addr × Obj)) (D : Addr) (DL : Obj) (r : List Value) (m : Str → Option Value) (n : List (Addr × Obj)) : Prop :=
  ∃ nm pl nd tl vs N k ext, m = mT nm pl nd tl D ∧ n = (tl, listOf (List.toArray vs) k) :: (D, DL) :: (ext ++ news) ∧ (∀ p ∈ ext, TupA p.2) ∧ TreesAt (ext ++ news) vs N ∧ N + r.length = 3 ∧ vs.length = r.length + 1 ∧ (∀ v ∈ r, ∃ (x : Int) (t : Tok), v = .int x t ∧ 0 ≤ x ∧ x ≤ 100000000)
theorem tree_end {h₀ : Heap} {L I D tl : Addr} {o DL : Obj} {s₁ : Shared} {news ext nw : List (Addr × Obj)} {h : Heap} {tk : Nat} {nm pl nd' : Option Value} {vs : List Value} {k' : Nat} {p2 p3 p4 p5 p8 : Addr × Obj} {nd : Addr} {x : Int} {t1 t2 t3 : Tok} {vl vr v : Value} {n M : Nat} {r : List Value} {l rt : T}
    (F : Fr h₀ L h (mT nm pl nd' tl D))
    (N : News h₀ L h ((tl, listOf vs.toArray k') :: p2 :: p3 :: p4 :: p5 :: (nd, tupO #[.int (Int.fmod x 3) t1, .int (Int.fmod (Int.fdiv x 18) 2) t2, .int (Int.fmod (Int.fdiv x 36) 4) t3, vl, vr] n) :: (I, o) :: p8 :: (D, DL) :: nw))
    (hw : nw = ext ++ news) (hc : o.cls = .type "list_iterator") (hIn : ∀ p ∈ news, @LT.lt Nat _ p.1 I) (hID : @LT.lt Nat _ D I) (hext : ∀ p ∈ ext, TupA p.2)
    (hl : TreeAt nw l vl) (hrt : TreeAt nw rt vr)
    (H : ∀ n1 τ, (∀ p ∈ nw, p ∈ n1) → TreeAt n1 τ (.ref nd) → τ.nodes = 1 + l.nodes + rt.nodes → TreesAt n1 vs (M + 1)) (hM : M + (v :: r).length = 3) (hlen : vs.length = r.length + 1) (hr : ∀ v ∈ r, ∃ (x : Int) (t : Tok), v = .int x t ∧ 0 ≤ x ∧ x ≤ 100000000) :
    UnrEndW h₀ L s₁ [(I, o)] (fun m' n' => SubL [(D, DL)] n' ∧ JT news D DL r m' n') { s₁ with heap := h, toks := tk } := by
  have f3 : 0 ≤ Int.fmod x 3 ∧ Int.fmod x 3 < 3 := ⟨Int.fmod_nonneg_of_pos _ (by decide), Int.fmod_lt_of_pos _ (by decide)⟩
  have f2 : 0 ≤ Int.fmod (Int.fdiv x 18) 2 ∧ Int.fmod (Int.fdiv x 18) 2 < 2 := ⟨Int.fmod_nonneg_of_pos _ (by decide), Int.fmod_lt_of_pos _ (by decide)⟩
  have f4 : 0 ≤ Int.fmod (Int.fdiv x 36) 4 ∧ Int.fmod (Int.fdiv x 36) 4 < 4 := ⟨Int.fmod_nonneg_of_pos _ (by decide), Int.fmod_lt_of_pos _ (by decide)⟩
  generalize htO : tupO #[.int (Int.fmod x 3) t1, .int (Int.fmod (Int.fdiv x 18) 2) t2, .int (Int.fmod (Int.fdiv x 36) 4) t3, vl, vr] n = tO at N
  have htc : tO.cls = .type "tuple" := by rw [← htO]
  obtain ⟨τ, hτ, hτn⟩ := TreesAt.node (news := (nd, tO) :: nw) (n := n) (by rw [htO]; exact List.mem_cons_self ..) f3.1 f3.2 f2.1 f2.2 f4.1 f4.2 (hl.mono fun p hp => List.mem_cons_of_mem _ hp) (hrt.mono fun p hp => List.mem_cons_of_mem _ hp)
  subst hw
  refine ⟨h, tk, _, (tl, listOf vs.toArray k') :: (D, DL) :: ((nd, tO) :: ext ++ news), rfl, F, ?_, ?_, ⟨List.mem_cons_of_mem _ (List.mem_cons_self ..), trivial⟩, _, _, _, _, vs, M + 1, k', (nd, tO) :: ext, rfl, rfl, ?_, H _ τ (fun p hp => List.mem_cons_of_mem _ hp) hτ hτn, by simp only [List.length_cons] at hM; omega, hlen, hr⟩
  · intro p hp
    rcases List.mem_cons.mp hp with rfl | hp
    · exact N _ (by simp)
    · rcases List.mem_cons.mp hp with rfl | hp
      · exact N _ (by simp)
      · rcases List.mem_cons.mp hp with rfl | hp
        · exact N _ (by simp)
        · rcases List.mem_cons.mp hp with rfl | hp
          · exact N _ (by simp)
          · exact N _ (by simp only [List.mem_cons]; exact .inr (.inr (.inr (.inr (.inr (.inr (.inr (.inr (.inr hp)))))))))
  · have cl : ∀ p : Addr × Obj, (∃ o, h.get? p.1 = some o ∧ o.cls ≠ .type "list_iterator") → p.1 ≠ I := by
      rintro p ⟨o', h1, h2⟩ e
      have h3 := (N (I, o) (by simp)).1
      rw [e] at h1
      have h4 : o' = o := Option.some.inj (h1.symm.trans h3)
      exact h2 (h4 ▸ hc)
    have lt : ∀ p : Addr × Obj, @LT.lt Nat _ p.1 I → p.1 ≠ I := fun p hp => Nat.ne_of_lt hp
    intro p hp q hq
    rw [List.mem_singleton.mp hq]
    rcases List.mem_cons.mp hp with rfl | hp
    · exact cl _ ⟨_, (N (tl, listOf vs.toArray k') (by simp)).1, fun z => absurd (Value.type.inj z) (by decide)⟩
    · rcases List.mem_cons.mp hp with rfl | hp
      · exact lt _ hID
      · rcases List.mem_cons.mp hp with rfl | hp
        · exact cl _ ⟨_, (N (nd, tO) (by simp)).1, by rw [htc]; exact fun z => absurd (Value.type.inj z) (by decide)⟩
        · rcases List.mem_append.mp hp with hp | hp
          · exact cl _ ⟨_, (N p (by simp only [List.mem_cons, List.mem_append]; exact .inr (.inr (.inr (.inr (.inr (.inr (.inr (.inr (.inr (.inl hp)))))))))) ).1, by rw [(hext p hp).cls]; exact fun z => absurd (Value.type.inj z) (by decide)⟩
          · exact lt _ (hIn p hp)
  · intro p hp
    rcases List.mem_cons.mp hp with rfl | hp
    · exact ⟨_, _, htO.symm⟩
    · exact hext p hp
theorem tree_c (w : World) (mean : ExcName → Option Value) (mg mb : Str → Option Value) (D : Addr) (a b c : Int) (kD : Nat) (ta tb tc : Tok) (hb : BD 63 [a, b, c]) :
    ∀ (dp un : Nat) (gd : Option (List Code)) (cn : Str) (cs : Scope) (ca : Addr) (ccd : Value) (cl : List (Str × Addr)) (outer : List Env) (A₀ : Around) (base h₀ : Heap) (L : Addr) (m : Str → Option Value) (news : List (Addr × Obj)) (s : Shared) (Q E : Value → Shared → Prop),
    Below A₀ base outer h₀ → Fr h₀ L s.heap m → (hd.heap_1 w.params).In h₀ → News h₀ L s.heap ((D, listOf #[Value.int a ta, Value.int b tb, Value.int c tc] kD) :: news) → Top VW LO mean mg mb h₀ → cs.kind = .function → dp + 30 < recursionLimit → un + 200 < cLine →
    (∀ τ v h' tk' ext, TreeAt (ext ++ news) τ v → τ.nodes = 3 → (∀ p ∈ ext, TupA p.2) → Fr h₀ L h' m → News h₀ L h' (ext ++ news) → Q v { s with heap := h', toks := tk' }) → wpAny (model PG w) (ktrTop dp un gd cn cs L ca ccd cl outer) (call (.ref 232) [.ref D]) Q E s := by
  w_top off
  revert w mean mg mb D a b c kD ta tb tc
  refine eps8 neW inferInstance inferInstance inferInstance inferInstance inferInstance inferInstance inferInstance ?_; generalize E8_1 _ _ _ _ _ _ _ _ _ = w; generalize E8_2 _ _ _ _ _ _ _ _ _ = mean; generalize E8_3 _ _ _ _ _ _ _ _ _ = mg; generalize E8_4 _ _ _ _ _ _ _ _ _ = mb; generalize E8_5 _ _ _ _ _ _ _ _ _ = D; generalize E8_6 _ _ _ _ _ _ _ _ _ = a; generalize E8_7 _ _ _ _ _ _ _ _ _ = b; generalize E8_8 _ _ _ _ _ _ _ _ _ = c
  refine eps4 inferInstance inferInstance inferInstance inferInstance ?_; generalize E4_1 _ _ _ _ _ = kD; generalize E4_2 _ _ _ _ _ = ta; generalize E4_3 _ _ _ _ _ = tb; generalize E4_4 _ _ _ _ _ = tc
  intro hb
  refine eps8 inferInstance inferInstance inferInstance inferInstance inferInstance inferInstance inferInstance inferInstance ?_; generalize E8_1 _ _ _ _ _ _ _ _ _ = dp; generalize E8_2 _ _ _ _ _ _ _ _ _ = un; generalize E8_3 _ _ _ _ _ _ _ _ _ = gd; generalize E8_4 _ _ _ _ _ _ _ _ _ = cn; generalize E8_5 _ _ _ _ _ _ _ _ _ = cs; generalize E8_6 _ _ _ _ _ _ _ _ _ = ca; generalize E8_7 _ _ _ _ _ _ _ _ _ = ccd; generalize E8_8 _ _ _ _ _ _ _ _ _ = cl
  refine eps8 inferInstance neA inferInstance inferInstance inferInstance inferInstance inferInstance neS ?_; generalize E8_1 _ _ _ _ _ _ _ _ _ = outer; generalize E8_2 _ _ _ _ _ _ _ _ _ = A₀; generalize E8_3 _ _ _ _ _ _ _ _ _ = base; generalize E8_4 _ _ _ _ _ _ _ _ _ = h₀; generalize E8_5 _ _ _ _ _ _ _ _ _ = L; generalize E8_6 _ _ _ _ _ _ _ _ _ = m; generalize E8_7 _ _ _ _ _ _ _ _ _ = news; generalize E8_8 _ _ _ _ _ _ _ _ _ = s
  refine eps2 inferInstance inferInstance ?_; generalize E2_1 _ _ _ = Q; generalize E2_2 _ _ _ = E
  intro hB hF hX hN hT hk hdp hu hret
  refine wpAny_call ?_
  k_dflt cell_enter
  (with_reducible rename Fr _ _ _ (fun y => List.lookup y _) => FE0); have FE := fr1 FE0; clear FE0; dsimp only at FE
  iterate 30 (first | (k_here; (with_reducible show wpAny _ _ (storeName _ (Str.ofString "place") (Value.int (Int.fmod _ _) _)) _ _ _); first | refine storeC3 (by decide) ?_ ?_ ?_ | refine storeC2 (by decide) ?_ ?_ | refine storeC1 (by decide) ?_) | ((with_reducible show wpAny _ _ (exec (Stmt.For _ _ _ _ _) _) _ _ _); (k_here; (rename Fr _ _ _ _ => lF'); (with_unfolding_all refine' For_turns lF' ?_; k_whole))) | walk1)
  (with_reducible rename Fr _ _ _ (fun y => if y = Str.ofString "trees" then _ else _) => F2)
  (with_reducible rename News _ _ _ ((_, _) :: (D, _) :: _) => N2)
  k_here
  with_unfolding_all refine iter_listTurns (vs := [Value.int a ta, Value.int b tb, Value.int c tc]) (lo := listOf #[Value.int a ta, Value.int b tb, Value.int c tc] kD) (n := kD) ?h0 (by exact F2) (by exact N2) ?hm ?hc ?hd ?_
  case h0 => exact rfl
  case hm => exact List.mem_cons_of_mem _ (List.mem_cons_self ..)
  case hc => exact rfl
  case hd => exact rfl
  intro I hI
  have hID : @LT.lt Nat _ D I := hI _ (List.mem_cons_of_mem _ (List.mem_cons_self ..))
  have hIn : ∀ p ∈ news, @LT.lt Nat _ p.1 I := fun p hp => hI _ (List.mem_cons_of_mem _ (List.mem_cons_of_mem _ hp))
  refine vals_ind (JT news D (listOf #[Value.int a ta, Value.int b tb, Value.int c tc] kD)) ?nil ?step _ _ _ ?J
  case J =>
    obtain ⟨i, hi⟩ := abc_item (Int.fdiv ([a, b, c].getD (Int.toNat 0) 0) 144)
    refine ⟨none, none, none, _, [_, _, _, _], 0, _, [], ?_, rfl, by simp, .cons (leafAt 0 (by decide +kernel)) (.cons (leafAt 1 (by decide +kernel)) (.cons (leafAt 2 (by decide +kernel)) (.cons (leafAt i hi) .nil))), rfl, rfl, ?_⟩
    · funext y; unfold mT
      have n1 : ¬ Str.ofString "trees" = Str.ofString "node" := by decide
      have n2 : ¬ Str.ofString "trees" = Str.ofString "place" := by decide
      have n3 : ¬ Str.ofString "trees" = Str.ofString "number" := by decide
      have n4 : ¬ Str.ofString "draws" = Str.ofString "node" := by decide
      have n5 : ¬ Str.ofString "draws" = Str.ofString "place" := by decide
      have n6 : ¬ Str.ofString "draws" = Str.ofString "number" := by decide
      by_cases h1 : y = Str.ofString "trees"
      · subst h1; simp [n1, n2, n3]
      · by_cases h2 : y = Str.ofString "draws"
        · subst h2; simp [n4, n5, n6]
        · simp [h1, h2]
    · have := hb a (by simp)
      have := hb b (by simp)
      have := hb c (by simp)
      intro v hv
      simp only [List.mem_cons, List.not_mem_nil, or_false] at hv
      rcases hv with rfl | rfl | rfl
      · exact ⟨_, _, rfl, by omega, by omega⟩
      · exact ⟨_, _, rfl, by omega, by omega⟩
      · exact ⟨_, _, rfl, by omega, by omega⟩
  case nil =>
    rintro m n ⟨nm, pl, nd, tl, vs, N, k, ext, rfl, rfl, hext, hts, hN3, hlen, -⟩ h tk F3 N3
    match hts, hlen, hN3 with
    | .cons (v := v0) (τ := τ0) h0 .nil, hlen, hN3 =>
      have hw : ∃ nw, nw = ext ++ news := ⟨_, rfl⟩
      obtain ⟨nw, hnw⟩ := hw
      rw [← hnw] at N3
      dsimp only
      (repeat' (first | (k_unfold; (try dsimp only)) | (first | (k_here; (with_reducible show wpAny _ _ (storeName _ (Str.ofString "place") (Value.int (Int.fmod _ _) _)) _ _ _); first | refine storeC3 (by decide) ?_ ?_ ?_ | refine storeC2 (by decide) ?_ ?_ | refine storeC1 (by decide) ?_) | ((with_reducible show wpAny _ _ (exec (Stmt.For _ _ _ _ _) _) _ _ _); (k_here; (rename Fr _ _ _ _ => lF'); (with_unfolding_all refine' For_turns lF' ?_; k_whole))) | walk1) | (dsimp only; (first | (k_here; (with_reducible show wpAny _ _ (storeName _ (Str.ofString "place") (Value.int (Int.fmod _ _) _)) _ _ _); first | refine storeC3 (by decide) ?_ ?_ ?_ | refine storeC2 (by decide) ?_ ?_ | refine storeC1 (by decide) ?_) | ((with_reducible show wpAny _ _ (exec (Stmt.For _ _ _ _ _) _) _ _ _); (k_here; (rename Fr _ _ _ _ => lF'); (with_unfolding_all refine' For_turns lF' ?_; k_whole))) | walk1)) | (leave1; (try dsimp only))))
      (with_reducible rename News h₀ L _ _ => kN2)
      (with_reducible rename Fr h₀ L _ _ => kF2)
      subst hnw
      exact hret τ0 _ _ _ ext h0 (by simpa using hN3) hext kF2 (fun p hp => kN2 p (List.mem_cons_of_mem _ (List.mem_cons_of_mem _ hp)))
    | .nil, hlen, hN3 => exact absurd hlen (by simp)
    | .cons _ (.cons _ _), hlen, hN3 => exact absurd hlen (by simp)
  case step =>
    rintro x r m n ⟨nm, pl, nd, tl, vs, N, k, ext, rfl, rfl, hext, hts, hN3, hlen, hxr⟩ h tk F3
    obtain ⟨x, t, rfl, hx0, hx1⟩ := hxr x (List.mem_cons_self ..)
    have hw : ∃ nw, nw = ext ++ news := ⟨_, rfl⟩
    obtain ⟨nw, hnw⟩ := hw
    rw [← hnw] at hts ⊢
    match hts, hlen, hN3 with
    | .cons (v := v0) (τ := τ0) h0 (.cons (v := v1) (τ := τ1) h1 (.cons (v := v2) (τ := τ2) h2 (.cons (v := v3) (τ := τ3) h3 .nil))), hlen, hN3 =>
      ktu_objs
      (repeat' (first | (k_unfold; (try dsimp only)) | (first | (k_here; (with_reducible show wpAny _ _ (storeName _ (Str.ofString "place") (Value.int (Int.fmod _ _) _)) _ _ _); first | refine storeC3 (by decide) ?_ ?_ ?_ | refine storeC2 (by decide) ?_ ?_ | refine storeC1 (by decide) ?_) | ((with_reducible show wpAny _ _ (exec (Stmt.For _ _ _ _ _) _) _ _ _); (k_here; (rename Fr _ _ _ _ => lF'); (with_unfolding_all refine' For_turns lF' ?_; k_whole))) | walk1) | (dsimp only; (first | (k_here; (with_reducible show wpAny _ _ (storeName _ (Str.ofString "place") (Value.int (Int.fmod _ _) _)) _ _ _); first | refine storeC3 (by decide) ?_ ?_ ?_ | refine storeC2 (by decide) ?_ ?_ | refine storeC1 (by decide) ?_) | ((with_reducible show wpAny _ _ (exec (Stmt.For _ _ _ _ _) _) _ _ _); (k_here; (rename Fr _ _ _ _ => lF'); (with_unfolding_all refine' For_turns lF' ?_; k_whole))) | walk1)) | (leave1; (try dsimp only))))
      all_goals (with_reducible rename Fr _ _ _ (fun y => if y = Str.ofString "trees" then _ else _) => F9)
      all_goals (with_reducible rename News _ _ _ ((_, _) :: _) => N9)
      all_goals (with_reducible rename Obj.cls _ = _ => hc9)
      · refine tree_end (fr_map F9 mapT) N9 hnw hc9 hIn hID hext h0 h1 (vs := [_, _, _]) (M := τ0.nodes + (τ1.nodes + (τ2.nodes + (τ3.nodes + 0)))) (fun n1 τ hs hτ hn => (TreesAt.cons hτ (.cons (h2.mono hs) (.cons (h3.mono hs) .nil))).eq (by omega)) hN3 (by simpa using hlen) (fun v hv => hxr v (List.mem_cons_of_mem _ hv))
      · exact tree_end (fr_map F9 mapT) N9 hnw hc9 hIn hID hext h1 h2 (vs := [_, _, _]) (M := τ0.nodes + (τ1.nodes + (τ2.nodes + (τ3.nodes + 0)))) (fun n1 τ hs hτ hn => (TreesAt.cons (h0.mono hs) (.cons hτ (.cons (h3.mono hs) .nil))).eq (by omega)) hN3 (by simpa using hlen) (fun v hv => hxr v (List.mem_cons_of_mem _ hv))
      · exact tree_end (fr_map F9 mapT) N9 hnw hc9 hIn hID hext h2 h3 (vs := [_, _, _]) (M := τ0.nodes + (τ1.nodes + (τ2.nodes + (τ3.nodes + 0)))) (fun n1 τ hs hτ hn => (TreesAt.cons (h0.mono hs) (.cons (h1.mono hs) (.cons hτ .nil))).eq (by omega)) hN3 (by simpa using hlen) (fun v hv => hxr v (List.mem_cons_of_mem _ hv))
    | .cons (v := v0) (τ := τ0) h0 (.cons (v := v1) (τ := τ1) h1 (.cons (v := v2) (τ := τ2) h2 .nil)), hlen, hN3 =>
      ktu_objs
      (repeat' (first | (k_unfold; (try dsimp only)) | (first | (k_here; (with_reducible show wpAny _ _ (storeName _ (Str.ofString "place") (Value.int (Int.fmod _ _) _)) _ _ _); first | refine storeC3 (by decide) ?_ ?_ ?_ | refine storeC2 (by decide) ?_ ?_ | refine storeC1 (by decide) ?_) | ((with_reducible show wpAny _ _ (exec (Stmt.For _ _ _ _ _) _) _ _ _); (k_here; (rename Fr _ _ _ _ => lF'); (with_unfolding_all refine' For_turns lF' ?_; k_whole))) | walk1) | (dsimp only; (first | (k_here; (with_reducible show wpAny _ _ (storeName _ (Str.ofString "place") (Value.int (Int.fmod _ _) _)) _ _ _); first | refine storeC3 (by decide) ?_ ?_ ?_ | refine storeC2 (by decide) ?_ ?_ | refine storeC1 (by decide) ?_) | ((with_reducible show wpAny _ _ (exec (Stmt.For _ _ _ _ _) _) _ _ _); (k_here; (rename Fr _ _ _ _ => lF'); (with_unfolding_all refine' For_turns lF' ?_; k_whole))) | walk1)) | (leave1; (try dsimp only))))
      all_goals (with_reducible rename Fr _ _ _ (fun y => if y = Str.ofString "trees" then _ else _) => F9)
      all_goals (with_reducible rename News _ _ _ ((_, _) :: _) => N9)
      all_goals (with_reducible rename Obj.cls _ = _ => hc9)
      · exact tree_end (fr_map F9 mapT) N9 hnw hc9 hIn hID hext h0 h1 (vs := [_, _]) (M := τ0.nodes + (τ1.nodes + (τ2.nodes + 0))) (fun n1 τ hs hτ hn => (TreesAt.cons hτ (.cons (h2.mono hs) .nil)).eq (by omega)) hN3 (by simpa using hlen) (fun v hv => hxr v (List.mem_cons_of_mem _ hv))
      · exact tree_end (fr_map F9 mapT) N9 hnw hc9 hIn hID hext h1 h2 (vs := [_, _]) (M := τ0.nodes + (τ1.nodes + (τ2.nodes + 0))) (fun n1 τ hs hτ hn => (TreesAt.cons (h0.mono hs) (.cons hτ .nil)).eq (by omega)) hN3 (by simpa using hlen) (fun v hv => hxr v (List.mem_cons_of_mem _ hv))
    | .cons (v := v0) (τ := τ0) h0 (.cons (v := v1) (τ := τ1) h1 .nil), hlen, hN3 =>
      ktu_objs
      (repeat' (first | (k_unfold; (try dsimp only)) | (first | (k_here; (with_reducible show wpAny _ _ (storeName _ (Str.ofString "place") (Value.int (Int.fmod _ _) _)) _ _ _); first | refine storeC3 (by decide) ?_ ?_ ?_ | refine storeC2 (by decide) ?_ ?_ | refine storeC1 (by decide) ?_) | ((with_reducible show wpAny _ _ (exec (Stmt.For _ _ _ _ _) _) _ _ _); (k_here; (rename Fr _ _ _ _ => lF'); (with_unfolding_all refine' For_turns lF' ?_; k_whole))) | walk1) | (dsimp only; (first | (k_here; (with_reducible show wpAny _ _ (storeName _ (Str.ofString "place") (Value.int (Int.fmod _ _) _)) _ _ _); first | refine storeC3 (by decide) ?_ ?_ ?_ | refine storeC2 (by decide) ?_ ?_ | refine storeC1 (by decide) ?_) | ((with_reducible show wpAny _ _ (exec (Stmt.For _ _ _ _ _) _) _ _ _); (k_here; (rename Fr _ _ _ _ => lF'); (with_unfolding_all refine' For_turns lF' ?_; k_whole))) | walk1)) | (leave1; (try dsimp only))))
      all_goals (with_reducible rename Fr _ _ _ (fun y => if y = Str.ofString "trees" then _ else _) => F9)
      all_goals (with_reducible rename News _ _ _ ((_, _) :: _) => N9)
      all_goals (with_reducible rename Obj.cls _ = _ => hc9)
      · exact tree_end (fr_map F9 mapT) N9 hnw hc9 hIn hID hext h0 h1 (vs := [_]) (M := τ0.nodes + (τ1.nodes + 0)) (fun n1 τ hs hτ hn => (TreesAt.cons hτ .nil).eq (by omega)) hN3 (by simpa using hlen) (fun v hv => hxr v (List.mem_cons_of_mem _ hv))
    | .cons (v := v0) (τ := τ0) h0 .nil, hlen, hN3 => exact absurd hlen (by simp)
    | .nil, hlen, hN3 => exact absurd hlen (by simp)
    | .cons _ (.cons _ (.cons _ (.cons _ (.cons _ _)))), hlen, hN3 => simp at hlen hN3; omega
end Mine
end
section -- WRIT
namespace Mine
theorem offWRIT : True := by
  w_top off
  exact trivial
noncomputable abbrev TClaim (w : World) (mean : ExcName → Option Value) (mg mb : Str → Option Value) (f : Addr) (D U : Nat) (τ : T) (R : Tok → Value) : Prop :=
  ∀ (dp un : Nat) (gd : Option (List Code)) (cn : Str) (cs : Scope) (a : Addr) (ccd : Value) (cl : List (Str × Addr)) (outer : List Env) (A₀ : Around) (base h₀ : Heap) (L : Addr) (m : Str → Option Value) (news : List (Addr × Obj)) (s : Shared) (Q E : Value → Shared → Prop) (v : Value),
    Below A₀ base outer h₀ → Fr h₀ L s.heap m → (hd.heap_1 w.params).In h₀ → News h₀ L s.heap news → Top VW LO mean mg mb h₀ → cs.kind = .function → dp + D < recursionLimit → un + U < cLine → TreeAt news τ v →
    GRet h₀ L m news s Q R → wpAny (model PG w) (ktrTop dp un gd cn cs L a ccd cl outer) (call (.ref f) [v]) Q E s
noncomputable def toS (l : List Nat) : Str := ⟨l.toArray⟩
theorem toS_len (l : List Nat) : (toS l).length = l.length := by simp [toS, Str.length]
theorem txt_l (k : _root_.Fin 3) (tu : Bool) (r : _root_.Fin 4) (l rt : T) : l.txt.length ≤ (T.node k tu r l rt).txt.length := by
  simp only [T.txt, T.core, List.length_append, List.length_cons]; omega
theorem txt_r (k : _root_.Fin 3) (tu : Bool) (r : _root_.Fin 4) (l rt : T) : rt.txt.length ≤ (T.node k tu r l rt).txt.length := by
  simp only [T.txt, T.core, List.length_append, List.length_cons]; omega
theorem toS_app (a b : List Nat) : toS a ++ toS b = toS (a ++ b) := by
  show (⟨a.toArray ++ b.toArray⟩ : Str) = ⟨(a ++ b).toArray⟩
  simp
theorem writ_eq (k : _root_.Fin 3) (tu : Bool) (r : _root_.Fin 4) (l rt : T) : Txt.mul (Str.ofString "~") (tn tu) ++ Str.ofString "(" ++ toS l.txt ++ toS (rid r) ++ Txt.item (Str.ofString "&|^") ((k.val : Nat) : Int) ++ toS rt.txt ++ Str.ofString ")" = toS (T.node k tu r l rt).txt := by
  have e1 : Txt.mul (Str.ofString "~") (tn tu) = toS (if tu = true then [126] else []) := by cases tu <;> decide +kernel
  have e2 : Str.ofString "(" = toS [40] := by decide +kernel
  have e3 : Str.ofString ")" = toS [41] := by decide +kernel
  have e4 : Txt.item (Str.ofString "&|^") ((k.val : Nat) : Int) = toS [opc k] := by
    match k with
    | 0 => decide +kernel
    | 1 => decide +kernel
    | 2 => decide +kernel
  rw [e1, e2, e3, e4]
  simp only [toS_app]
  congr 1
  simp [T.txt, T.core]
theorem rider_item {prog : Program} {w : World} {A : Around} {E : Value → Shared → Prop} {s : Shared} {value slice : Expr} {l : Addr} {r : _root_.Fin 4} {u t1 t2 t3 t4 : Tok} {Q : Value → Shared → Prop}
    (hl : s.heap.IsList l #[.str (Str.ofString "") t1, .str (Str.ofString "\"(\"") t2, .str (Str.ofString "\\)") t3, .str (Str.ofString "\")\\\"\"") t4]) (h : ∀ t, Q (.str (toS (rid r)) t) s)
    (hs : subscripted slice false (.ref l) (.int (r.val : Int) u) = operate [.ref l, .int (r.val : Int) u] (getItem (.ref l) (.int (r.val : Int) u)) := by with_unfolding_all rfl) :
    wpAny (model prog w) A (subscriptTail value slice (.ref l) (.int (r.val : Int) u)) Q E s := by
  match r, h, hs with
  | 0, h, hs => exact tail_any hl.typeIs slot_list_getitem.lookup (wpAny_getItem_list (x := .str (toS (rid 0)) t1) hl (by decide) (by decide) (by rw [show toS (rid 0) = Str.ofString "" by decide +kernel]; rfl) (h _)) hs
  | 1, h, hs => exact tail_any hl.typeIs slot_list_getitem.lookup (wpAny_getItem_list (x := .str (toS (rid 1)) t2) hl (by decide) (by decide) (by rw [show toS (rid 1) = Str.ofString "\"(\"" by decide +kernel]; rfl) (h _)) hs
  | 2, h, hs => exact tail_any hl.typeIs slot_list_getitem.lookup (wpAny_getItem_list (x := .str (toS (rid 2)) t3) hl (by decide) (by decide) (by rw [show toS (rid 2) = Str.ofString "\\)" by decide +kernel]; rfl) (h _)) hs
  | 3, h, hs => exact tail_any hl.typeIs slot_list_getitem.lookup (wpAny_getItem_list (x := .str (toS (rid 3)) t4) hl (by decide) (by decide) (by rw [show toS (rid 3) = Str.ofString "\")\\\"\"" by decide +kernel]; rfl) (h _)) hs
theorem writ_leaf (w : World) (mean : ExcName → Option Value) (mg mb : Str → Option Value) (i : _root_.Fin 3) : TClaim w mean mg mb 239 20 160 (.leaf i) (fun t => .str (toS (T.leaf i).txt) t) := by
  w_top off
  intro dp un gd cn cs a ccd cl outer A₀ base h₀ L m news s Q E v hB hF hX hN hT hk hdp hu hv hret
  obtain ⟨t0, rfl⟩ := hv
  refine wpAny_call ?_
  k_dflt cell_enter
  (with_reducible rename Fr _ _ _ (fun y => List.lookup y _) => FE0); have FE := fr1 FE0; clear FE0; dsimp only at FE
  (repeat' (first | (k_unfold; (try dsimp only)) | (first | (k_here; (with_reducible show wpAny _ _ (call (Value.ref 239) [_]) _ _ _); (first | (refine' IHl (_ + 1) (_ + 3) _ _ _ _ _ _ _ _ _ _ _ _ _ _ _ _ vl ?k1 ?k2 ?k3 ?k4 ?k5 ?kK ?kd ?ku ?kT ?_) | (refine' IHr (_ + 1) (_ + 3) _ _ _ _ _ _ _ _ _ _ _ _ _ _ _ _ vr ?k1 ?k2 ?k3 ?k4 ?k5 ?kK ?kd ?ku ?kT ?_)); (case k1 => k_asm); (case k2 => k_asm); (case k3 => k_asm); (case k4 => k_asm); (case k5 => k_asm); (case kK => exact rfl); (case kd => (dsimp only [Around.deeper]; omega)); (case ku => (dsimp only [Around.deeper]; omega)); (case kT => first | exact TreeAt.mono (fun p hp => by (repeat (first | assumption | exact List.mem_cons_self .. | refine List.mem_cons_of_mem _ ?_))) hl | exact TreeAt.mono (fun p hp => by (repeat (first | assumption | exact List.mem_cons_self .. | refine List.mem_cons_of_mem _ ?_))) hr); intro tS hS tkS gS FS NS GS; dsimp only) | (k_here; (with_reducible show wpAny _ _ (subscriptTail _ _ (Value.ref _) (Value.int _ _)) _ _ _); (refine' rider_item ?hl ?_; (case hl => is_list)); intro tI) | walk1) | (dsimp only; (first | (k_here; (with_reducible show wpAny _ _ (call (Value.ref 239) [_]) _ _ _); (first | (refine' IHl (_ + 1) (_ + 3) _ _ _ _ _ _ _ _ _ _ _ _ _ _ _ _ vl ?k1 ?k2 ?k3 ?k4 ?k5 ?kK ?kd ?ku ?kT ?_) | (refine' IHr (_ + 1) (_ + 3) _ _ _ _ _ _ _ _ _ _ _ _ _ _ _ _ vr ?k1 ?k2 ?k3 ?k4 ?k5 ?kK ?kd ?ku ?kT ?_)); (case k1 => k_asm); (case k2 => k_asm); (case k3 => k_asm); (case k4 => k_asm); (case k5 => k_asm); (case kK => exact rfl); (case kd => (dsimp only [Around.deeper]; omega)); (case ku => (dsimp only [Around.deeper]; omega)); (case kT => first | exact TreeAt.mono (fun p hp => by (repeat (first | assumption | exact List.mem_cons_self .. | refine List.mem_cons_of_mem _ ?_))) hl | exact TreeAt.mono (fun p hp => by (repeat (first | assumption | exact List.mem_cons_self .. | refine List.mem_cons_of_mem _ ?_))) hr); intro tS hS tkS gS FS NS GS; dsimp only) | (k_here; (with_reducible show wpAny _ _ (subscriptTail _ _ (Value.ref _) (Value.int _ _)) _ _ _); (refine' rider_item ?hl ?_; (case hl => is_list)); intro tI) | walk1)) | (leave1; (try dsimp only))))
  exact hret _ _ _ _ (by k_asm) (by k_asm) (GMore.refl _)
theorem writ_node (w : World) (mean : ExcName → Option Value) (mg mb : Str → Option Value) (k : _root_.Fin 3) (tu : Bool) (r : _root_.Fin 4) (l rt : T) (hlen : (T.node k tu r l rt).txt.length ≤ 1000) (D U : Nat) (hD : 20 ≤ D) (hU : 160 ≤ U) (IHl : TClaim w mean mg mb 239 D U l (fun t => .str (toS l.txt) t)) (IHr : TClaim w mean mg mb 239 D U rt (fun t => .str (toS rt.txt) t)) : TClaim w mean mg mb 239 (D + 1) (U + 3) (.node k tu r l rt) (fun t => .str (toS (T.node k tu r l rt).txt) t) := by
  w_top off
  revert w mean mg mb k tu r l rt D U
  refine eps8 neW inferInstance inferInstance inferInstance inferInstance inferInstance inferInstance neT ?_; generalize E8_1 _ _ _ _ _ _ _ _ _ = w; generalize E8_2 _ _ _ _ _ _ _ _ _ = mean; generalize E8_3 _ _ _ _ _ _ _ _ _ = mg; generalize E8_4 _ _ _ _ _ _ _ _ _ = mb; generalize E8_5 _ _ _ _ _ _ _ _ _ = k; generalize E8_6 _ _ _ _ _ _ _ _ _ = tu; generalize E8_7 _ _ _ _ _ _ _ _ _ = r; generalize E8_8 _ _ _ _ _ _ _ _ _ = l
  refine eps1 neT ?_; generalize E1 _ _ = rt
  intro hlen
  refine eps2 inferInstance inferInstance ?_; generalize E2_1 _ _ _ = D; generalize E2_2 _ _ _ = U
  intro hD hU IHl IHr
  refine eps8 inferInstance inferInstance inferInstance inferInstance inferInstance inferInstance inferInstance inferInstance ?_; generalize E8_1 _ _ _ _ _ _ _ _ _ = dp; generalize E8_2 _ _ _ _ _ _ _ _ _ = un; generalize E8_3 _ _ _ _ _ _ _ _ _ = gd; generalize E8_4 _ _ _ _ _ _ _ _ _ = cn; generalize E8_5 _ _ _ _ _ _ _ _ _ = cs; generalize E8_6 _ _ _ _ _ _ _ _ _ = a; generalize E8_7 _ _ _ _ _ _ _ _ _ = ccd; generalize E8_8 _ _ _ _ _ _ _ _ _ = cl
  refine eps8 inferInstance neA inferInstance inferInstance inferInstance inferInstance inferInstance neS ?_; generalize E8_1 _ _ _ _ _ _ _ _ _ = outer; generalize E8_2 _ _ _ _ _ _ _ _ _ = A₀; generalize E8_3 _ _ _ _ _ _ _ _ _ = base; generalize E8_4 _ _ _ _ _ _ _ _ _ = h₀; generalize E8_5 _ _ _ _ _ _ _ _ _ = L; generalize E8_6 _ _ _ _ _ _ _ _ _ = m; generalize E8_7 _ _ _ _ _ _ _ _ _ = news; generalize E8_8 _ _ _ _ _ _ _ _ _ = s
  refine eps3 inferInstance inferInstance inferInstance ?_; generalize E3_1 _ _ _ _ = Q; generalize E3_2 _ _ _ _ = E; generalize E3_3 _ _ _ _ = v
  intro hB hF hX hN hT hk hdp hu hv hret
  obtain ⟨b, n, t1, t2, t3, vl, vr, rfl, hm, hl, hr⟩ := hv
  have hN1 : News h₀ L s.heap ((b, tupO #[.int (k.val : Int) t1, .int (tn tu) t2, .int (r.val : Int) t3, vl, vr] n) :: news) := fun p hp => (List.mem_cons.mp hp).elim (fun e => e ▸ hN _ hm) (hN p)
  clear hN
  have hll : (toS l.txt).length ≤ 1000 := Nat.le_trans (Nat.le_of_eq (toS_len _)) (Nat.le_trans (txt_l k tu r l rt) hlen)
  have hlr : (toS rt.txt).length ≤ 1000 := Nat.le_trans (Nat.le_of_eq (toS_len _)) (Nat.le_trans (txt_r k tu r l rt) hlen)
  have hri : (toS (rid r)).length ≤ 5 := Nat.le_trans (Nat.le_of_eq (toS_len _)) (rid_len r)
  have ht0 : 0 ≤ tn tu := by unfold tn; split <;> omega
  have ht1 : tn tu ≤ 1 := by unfold tn; split <;> omega
  have hk3 : ((k.val : Nat) : Int) < 3 := by have := k.isLt; omega
  have hr4 : ((r.val : Nat) : Int) < 4 := by have := r.isLt; omega
  refine wpAny_call ?_
  k_dflt cell_enter
  (with_reducible rename Fr _ _ _ (fun y => List.lookup y _) => FE0); have FE := fr1 FE0; clear FE0; dsimp only at FE
  (repeat' (first | (k_unfold; (try dsimp only)) | (first | (k_here; (with_reducible show wpAny _ _ (call (Value.ref 239) [_]) _ _ _); (first | (refine' IHl (_ + 1) (_ + 3) _ _ _ _ _ _ _ _ _ _ _ _ _ _ _ _ vl ?k1 ?k2 ?k3 ?k4 ?k5 ?kK ?kd ?ku ?kT ?_) | (refine' IHr (_ + 1) (_ + 3) _ _ _ _ _ _ _ _ _ _ _ _ _ _ _ _ vr ?k1 ?k2 ?k3 ?k4 ?k5 ?kK ?kd ?ku ?kT ?_)); (case k1 => k_asm); (case k2 => k_asm); (case k3 => k_asm); (case k4 => k_asm); (case k5 => k_asm); (case kK => exact rfl); (case kd => (dsimp only [Around.deeper]; omega)); (case ku => (dsimp only [Around.deeper]; omega)); (case kT => first | exact TreeAt.mono (fun p hp => by (repeat (first | assumption | exact List.mem_cons_self .. | refine List.mem_cons_of_mem _ ?_))) hl | exact TreeAt.mono (fun p hp => by (repeat (first | assumption | exact List.mem_cons_self .. | refine List.mem_cons_of_mem _ ?_))) hr); intro tS hS tkS gS FS NS GS; dsimp only) | (k_here; (with_reducible show wpAny _ _ (subscriptTail _ _ (Value.ref _) (Value.int _ _)) _ _ _); (refine' rider_item ?hl ?_; (case hl => is_list)); intro tI) | walk1) | (dsimp only; (first | (k_here; (with_reducible show wpAny _ _ (call (Value.ref 239) [_]) _ _ _); (first | (refine' IHl (_ + 1) (_ + 3) _ _ _ _ _ _ _ _ _ _ _ _ _ _ _ _ vl ?k1 ?k2 ?k3 ?k4 ?k5 ?kK ?kd ?ku ?kT ?_) | (refine' IHr (_ + 1) (_ + 3) _ _ _ _ _ _ _ _ _ _ _ _ _ _ _ _ vr ?k1 ?k2 ?k3 ?k4 ?k5 ?kK ?kd ?ku ?kT ?_)); (case k1 => k_asm); (case k2 => k_asm); (case k3 => k_asm); (case k4 => k_asm); (case k5 => k_asm); (case kK => exact rfl); (case kd => (dsimp only [Around.deeper]; omega)); (case ku => (dsimp only [Around.deeper]; omega)); (case kT => first | exact TreeAt.mono (fun p hp => by (repeat (first | assumption | exact List.mem_cons_self .. | refine List.mem_cons_of_mem _ ?_))) hl | exact TreeAt.mono (fun p hp => by (repeat (first | assumption | exact List.mem_cons_self .. | refine List.mem_cons_of_mem _ ?_))) hr); intro tS hS tkS gS FS NS GS; dsimp only) | (k_here; (with_reducible show wpAny _ _ (subscriptTail _ _ (Value.ref _) (Value.int _ _)) _ _ _); (refine' rider_item ?hl ?_; (case hl => is_list)); intro tI) | walk1)) | (leave1; (try dsimp only))))
  rw [writ_eq]
  (with_reducible rename News h₀ L _ _ => kN2)
  exact hret _ _ _ _ (by k_asm) (fun p hp => kN2 p (List.mem_cons_of_mem _ (List.mem_cons_of_mem _ hp))) (GMore.trans (by assumption) GS)
theorem tclaim_mono {w : World} {mean : ExcName → Option Value} {mg mb : Str → Option Value} {f : Addr} {D U D' U' : Nat} {τ : T} {R : Tok → Value} (h : TClaim w mean mg mb f D U τ R) (h1 : D ≤ D') (h2 : U ≤ U') : TClaim w mean mg mb f D' U' τ R := by
  intro dp un gd cn cs a ccd cl outer A₀ base h₀ L m news s Q E v hB hF hX hN hT hk hdp hu hv hret
  exact h dp un gd cn cs a ccd cl outer A₀ base h₀ L m news s Q E v hB hF hX hN hT hk (by omega) (by omega) hv hret
theorem written_c (w : World) (mean : ExcName → Option Value) (mg mb : Str → Option Value) : ∀ τ : T, τ.txt.length ≤ 1000 → TClaim w mean mg mb 239 (20 + τ.lv) (160 + 3 * τ.lv) τ (fun t => .str (toS τ.txt) t)
  | .leaf i, _ => tclaim_mono (writ_leaf w mean mg mb i) (by omega) (by omega)
  | .node k tu r l rt, h => by
    have hl := written_c w mean mg mb l (Nat.le_trans (txt_l k tu r l rt) h)
    have hr := written_c w mean mg mb rt (Nat.le_trans (txt_r k tu r l rt) h)
    have e : (T.node k tu r l rt).lv = (if tu = true then 2 else 1) + max l.lv rt.lv := rfl
    have e2 : 1 ≤ (if tu = true then 2 else 1 : Nat) := by split <;> decide
    refine tclaim_mono (writ_node w mean mg mb k tu r l rt h (20 + max l.lv rt.lv) (160 + 3 * max l.lv rt.lv) (by omega) (by omega) (tclaim_mono hl ?_ ?_) (tclaim_mono hr ?_ ?_)) ?_ ?_ <;> omega
end Mine
end
section -- WVD
open PySem
namespace Mine
theorem offWVD : True := by
  w_top off
  exact trivial
noncomputable def par : Nat → Bool
  | 1 | 2 | 4 | 7 => true
  | _ => false
noncomputable def chi (j u : Nat) : Int := if par (j &&& u) = true then -1 else 1
noncomputable def WVat (a u : Nat) : Int := ((List.range 8).map fun j => if a.testBit j = true then chi j u else 0).sum
noncomputable def WV (a : Nat) : List Int := (List.range 8).map (WVat a)
theorem WV_len (a : Nat) : (WV a).length = 8 := by simp [WV]
theorem WV_get (a : Nat) {u : Nat} (h : u < 8) : (WV a).getD u 0 = WVat a u := by
  unfold WV
  rw [List.getD_eq_getElem?_getD, List.getElem?_map, List.getElem?_range h]
  rfl
end Mine
end
section -- WAVE0
namespace Mine
theorem offWAVE0 : True := by
  w_top off
  exact trivial
noncomputable abbrev LRet (h₀ : Heap) (L : Addr) (m : Str → Option Value) (news : List (Addr × Obj)) (s : Shared) (Q : Value → Shared → Prop) (ns : List Int) : Prop :=
  ∀ (D : Addr) (vs : List Value) (k : Nat) (h' : Heap) (tk' : Nat) (g' : Array GenState), IntsAre vs ns → Fr h₀ L h' m → News h₀ L h' ((D, listOf vs.toArray k) :: news) → LCg.Off1 D news → GMore s.gens g' → Q (.ref D) { s with heap := h', toks := tk', gens := g' }
noncomputable abbrev VClaim (w : World) (mean : ExcName → Option Value) (mg mb : Str → Option Value) (f : Addr) (D U : Nat) (τ : T) (ns : List Int) : Prop :=
  ∀ (dp un : Nat) (gd : Option (List Code)) (cn : Str) (cs : Scope) (a : Addr) (ccd : Value) (cl : List (Str × Addr)) (outer : List Env) (A₀ : Around) (base h₀ : Heap) (L : Addr) (m : Str → Option Value) (news : List (Addr × Obj)) (s : Shared) (Q E : Value → Shared → Prop) (v : Value),
    Below A₀ base outer h₀ → Fr h₀ L s.heap m → (hd.heap_1 w.params).In h₀ → News h₀ L s.heap news → Top VW LO mean mg mb h₀ → cs.kind = .function → dp + D < recursionLimit → un + U < cLine → TreeAt news τ v →
    LRet h₀ L m news s Q ns → wpAny (model PG w) (ktrTop dp un gd cn cs L a ccd cl outer) (call (.ref f) [v]) Q E s
local macro_rules | `(tactic| k_all) => `(tactic| assumption)
theorem allLt_all {d : Nat} : ∀ {l : List (Addr × Obj)}, AllLt d l → ∀ p ∈ l, @LT.lt Nat _ p.1 d
  | [], _, _, h => nomatch h
  | _ :: _, x, p, h => by
    rcases List.mem_cons.mp h with rfl | h
    · exact x.1
    · exact allLt_all x.2 p h
theorem apart5 {news : List (Addr × Obj)} {L : Nat} (h : ∀ p ∈ news, @LT.lt Nat _ p.1 L) : (∀ p ∈ news, p.1 ≠ L + 1) ∧ (∀ p ∈ news, p.1 ≠ L + 1 + 1) ∧ (∀ p ∈ news, p.1 ≠ L + 1 + 1 + 1) ∧ (∀ p ∈ news, p.1 ≠ L + 1 + 1 + 1 + 1) ∧ (∀ p ∈ news, p.1 ≠ L + 1 + 1 + 1 + 1 + 1) := by
  refine ⟨fun p hp e => ?_, fun p hp e => ?_, fun p hp e => ?_, fun p hp e => ?_, fun p hp e => ?_⟩ <;> (have h1 := h p hp; rw [e] at h1; revert h1; show ¬ @LT.lt Nat _ _ _; omega)
theorem leaf_wv (i : _root_.Fin 3) : List.map (fun k' => (4 * if (k' == 0) = true then 1 else 0) - 4 * if (k' == (2 : Int) ^ ((i.val : Nat) : Int).toNat) = true then 1 else 0) (rangeKs 0 (8 - 0 : Int).toNat) = WV (leafMask i) := by
  match i with
  | 0 => decide +kernel
  | 1 => decide +kernel
  | 2 => decide +kernel
theorem index_leaf {prog : Program} {w : World} {A : Around} {E : Value → Shared → Prop} {s : Shared} {t u : Tok} {i : _root_.Fin 3} {Q : Value → Shared → Prop} (hA : A.handled = none) (h : ∀ t s', s' = { s with toks := s'.toks } → Q (.int (i.val : Int) t) s') :
    wpAny (model prog w) A (call (.builtin "str.index") [.str (Str.ofString "abc") t, .str ⟨#[97 + i.val]⟩ u]) Q E s := by
  have e : Txt.find (Str.ofString "abc") ⟨#[97 + i.val]⟩ = (i.val : Int) := by
    match i with
    | 0 => decide +kernel
    | 1 => decide +kernel
    | 2 => decide +kernel
  refine index_or hA ?_ ?_
  · intro h1; rw [e] at h1; omega
  · intro h1 h2
    rw [e]
    exact h _ _ rfl
theorem wave_leaf (w : World) (mean : ExcName → Option Value) (mg mb : Str → Option Value) (i : _root_.Fin 3) : VClaim w mean mg mb 251 20 160 (.leaf i) (WV (leafMask i)) := by
  w_top off
  revert w mean mg mb i
  refine eps5 neW inferInstance inferInstance inferInstance inferInstance ?_; generalize E5_1 _ _ _ _ _ _ = w; generalize E5_2 _ _ _ _ _ _ = mean; generalize E5_3 _ _ _ _ _ _ = mg; generalize E5_4 _ _ _ _ _ _ = mb; generalize E5_5 _ _ _ _ _ _ = i
  refine eps8 inferInstance inferInstance inferInstance inferInstance inferInstance inferInstance inferInstance inferInstance ?_; generalize E8_1 _ _ _ _ _ _ _ _ _ = dp; generalize E8_2 _ _ _ _ _ _ _ _ _ = un; generalize E8_3 _ _ _ _ _ _ _ _ _ = gd; generalize E8_4 _ _ _ _ _ _ _ _ _ = cn; generalize E8_5 _ _ _ _ _ _ _ _ _ = cs; generalize E8_6 _ _ _ _ _ _ _ _ _ = a; generalize E8_7 _ _ _ _ _ _ _ _ _ = ccd; generalize E8_8 _ _ _ _ _ _ _ _ _ = cl
  refine eps8 inferInstance neA inferInstance inferInstance inferInstance inferInstance inferInstance neS ?_; generalize E8_1 _ _ _ _ _ _ _ _ _ = outer; generalize E8_2 _ _ _ _ _ _ _ _ _ = A₀; generalize E8_3 _ _ _ _ _ _ _ _ _ = base; generalize E8_4 _ _ _ _ _ _ _ _ _ = h₀; generalize E8_5 _ _ _ _ _ _ _ _ _ = L; generalize E8_6 _ _ _ _ _ _ _ _ _ = m; generalize E8_7 _ _ _ _ _ _ _ _ _ = news; generalize E8_8 _ _ _ _ _ _ _ _ _ = s
  refine eps3 inferInstance inferInstance inferInstance ?_; generalize E3_1 _ _ _ _ = Q; generalize E3_2 _ _ _ _ = E; generalize E3_3 _ _ _ _ = v
  intro hB hF hX hN hT hk hdp hu hv hret
  obtain ⟨t0, rfl⟩ := hv
  have hi3 : ((i.val : Nat) : Int) < 3 := by have := i.isLt; omega
  have hi0 : 0 ≤ ((i.val : Nat) : Int) := by omega
  refine wpAny_call ?_
  k_dflt ((refine' code_defC ?k1 ?k2 ?k3 ?k4 ?k5 ?kA ?kF ?kK ?k6 ?k7 ?k8 ?k9 ?kB ?kD ?_ ?c2 ?c3 ?c4; (case kA => exact rfl); (case kF => exact rfl); (case kK => assumption); (case k1 => k_asm); (case k2 => k_asm); (case k3 => k_asm); (case k4 => k_asm); (case k5 => k_asm); (case k6 => k_is); (case k7 => k_is); (case k8 => ktr_room); (case k9 => exact BindsTo.of_eq rfl); (case kB => exact rfl); (case kD => decide +kernel); (case c2 => exact rfl); (case c3 => exact rfl); (case c4 => exact rfl); k_whole; intro g' L' h' tk' cells' FG' F' N' Y' B' X' T' l1; (try k_lt l1); k_cells Y'; (try simp only [List.cons_append, List.nil_append] at N'); (try dsimp only); (try k_lift B'); (try k_fold)))
  (with_reducible rename ∀ p ∈ news, _ => hl1)
  obtain ⟨ap1, ap2, ap3, ap4, ap5⟩ := apart5 hl1
  (repeat' (first | (k_unfold; (try dsimp only)) | (first | ((with_reducible show wpAny _ _ (call (Value.builtin "str.index") _) _ _ _); (k_here; (refine index_leaf rfl ?_); rintro t9 s9 hs9; rw [hs9]; generalize s9.toks = tk9; clear hs9; dsimp only)) | (k_here; (with_reducible show wpAny _ _ (call (Value.ref 251) [_]) _ _ _); (first | (refine' IHl (_ + 1) (_ + 3) _ _ _ _ _ _ _ _ _ _ _ _ _ _ _ _ vl ?k1 ?k2 ?k3 ?k4 ?k5 ?kK ?kd ?ku ?kT ?_) | (refine' IHr (_ + 1) (_ + 3) _ _ _ _ _ _ _ _ _ _ _ _ _ _ _ _ vr ?k1 ?k2 ?k3 ?k4 ?k5 ?kK ?kd ?ku ?kT ?_)); (case k1 => k_asm); (case k2 => k_asm); (case k3 => k_asm); (case k4 => k_asm); (case k5 => k_asm); (case kK => exact rfl); (case kd => (dsimp only [Around.deeper]; omega)); (case ku => (dsimp only [Around.deeper]; omega)); (case kT => first | exact TreeAt.mono (fun p hp => by (repeat (first | assumption | exact List.mem_cons_self .. | refine List.mem_cons_of_mem _ ?_))) hl | exact TreeAt.mono (fun p hp => by (repeat (first | assumption | exact List.mem_cons_self .. | refine List.mem_cons_of_mem _ ?_))) hr); intro DS vS kS hS tkS gS IS FS NS OS GS; (try simp only [LCg.Off1] at OS); dsimp only) | walk1) | (dsimp only; (first | ((with_reducible show wpAny _ _ (call (Value.builtin "str.index") _) _ _ _); (k_here; (refine index_leaf rfl ?_); rintro t9 s9 hs9; rw [hs9]; generalize s9.toks = tk9; clear hs9; dsimp only)) | (k_here; (with_reducible show wpAny _ _ (call (Value.ref 251) [_]) _ _ _); (first | (refine' IHl (_ + 1) (_ + 3) _ _ _ _ _ _ _ _ _ _ _ _ _ _ _ _ vl ?k1 ?k2 ?k3 ?k4 ?k5 ?kK ?kd ?ku ?kT ?_) | (refine' IHr (_ + 1) (_ + 3) _ _ _ _ _ _ _ _ _ _ _ _ _ _ _ _ vr ?k1 ?k2 ?k3 ?k4 ?k5 ?kK ?kd ?ku ?kT ?_)); (case k1 => k_asm); (case k2 => k_asm); (case k3 => k_asm); (case k4 => k_asm); (case k5 => k_asm); (case kK => exact rfl); (case kd => (dsimp only [Around.deeper]; omega)); (case ku => (dsimp only [Around.deeper]; omega)); (case kT => first | exact TreeAt.mono (fun p hp => by (repeat (first | assumption | exact List.mem_cons_self .. | refine List.mem_cons_of_mem _ ?_))) hl | exact TreeAt.mono (fun p hp => by (repeat (first | assumption | exact List.mem_cons_self .. | refine List.mem_cons_of_mem _ ?_))) hr); intro DS vS kS hS tkS gS IS FS NS OS GS; (try simp only [LCg.Off1] at OS); dsimp only) | walk1)) | (leave1; (try dsimp only))))
  (with_reducible rename IntsAre _ (List.map _ (rangeKs 0 _)) => hI8)
  rw [leaf_wv i] at hI8
  (with_reducible rename News h₀ L _ _ => kN2)
  exact hret _ _ _ _ _ _ hI8 (by k_asm) (fun p hp => (List.mem_cons.mp hp).elim (fun e => e ▸ kN2 _ (List.mem_cons_self ..)) fun hp => kN2 p (by (repeat (first | assumption | exact List.mem_cons_self .. | refine List.mem_cons_of_mem _ ?_)))) (by simp only [*]) (GMore.refl _)
end Mine
end
section -- CELLC
open PySem PySem.W PyProof.Rows PySem.Spec PySem.Calls
namespace Mine
theorem offCELLC : True := by
  w_top off
  exact trivial
open PyProof.Rows.LCg
noncomputable abbrev cellO : Obj := { cls := .type "cell", data := .cell none }
theorem nfe_one {M : Model} {A : Around} {E : Value → Shared → Prop} {s : Shared} {scope : Scope} {globals : Addr} {cl : List (Str × Addr)} {qual : Str} {env : Env} {x : Str} {Q : Env → Shared → Prop}
    (hone : ∀ n, cellsFrom n scope.names cl = (x, n) :: cl) (hpush : ∀ h, pushCells h scope.names = h.push cellO)
    (h : Q { scope := scope, locals := s.heap.objs.size, globals := globals, cells := (x, s.heap.objs.size + 1) :: cl, qual := qual, func := none, code := env.code, frame := env.frame, builtins := env.builtins } { s with heap := (s.heap.push { cls := .type "dict", data := .dict #[] }).push cellO }) :
    wpAny M A (newFunctionEnv scope globals cl [] qual none .none (some env)) Q E s := by
  simp only [newFunctionEnv, Option.isSome_some, if_true]
  refine wpAny_bind (wpAny_alloc ?_)
  refine wpAny_bind (wpAny_layCells _ (fun name kind cells => by cases hkc : kind == NameKind.cell <;> simp [hkc]) _ _ _ _ ?_)
  refine wpAny_bind ?_
  rw [List.forIn_nil]
  refine wpAny_pure (wpAny_pure ?_)
  dsimp only
  rw [hone, hpush, Heap.size_push]
  exact h
section
variable {prog : Program} {w : World} {A : Around} {E : Value → Shared → Prop} {s : Shared} {h₀ : Heap} {L : Addr} {m : Str → Option Value} {env : Env}
noncomputable def TurnC (prog : Program) (w : World) (A : Around) (h₀ : Heap) (L : Addr) (m : Str → Option Value) (env : Env) (elt : Expr) (x : Str) (scope : Scope) (cl : List (Str × Addr)) (s : Shared) (S : List (Addr × Obj) → Prop) (news : List (Addr × Obj)) (r : Int) (v : Value) : Prop :=
  ∀ I oI C oC c oc D m₂ ys h tk (E' : Value → Shared → Prop), NsObj oC m₂ → oc.data = .cell (some v) → Fr h₀ L h m → News h₀ L h ((I, oI) :: (C, oC) :: (D, lst ys) :: (c, oc) :: news) → Off3 I C D ((c, oc) :: news) → ((@Ne Nat I C) ∧ (@Ne Nat I D) ∧ (@Ne Nat C D)) → KPfMark →
    wpAny (model prog w) A (eval elt (compEnvC scope ((x, c) :: cl) C env)) (CompEnd h₀ L m { s with heap := h, toks := tk } I oI C oC D (lst ys) S (fun y news' => KCfEl ((c, oc) :: news) r y news')) E' { s with heap := h, toks := tk }
theorem block_C {α : Type} {elt iter : Expr} {x : Str} {px : Pos} {scope : Scope} {cl : List (Str × Addr)} {pos : Pos} {s₂ : Shared} {I : Addr} {fp : List Addr} {n : Nat} {P : Nat → Value → Prop} {St : Nat → Heap → Prop} {S : List (Addr × Obj) → Prop} {news : List (Addr × Obj)}
    {ks : List α} {Is : α → Value → Prop} (g : α → Int) {RR : Value → Addr → Result → Shared → Prop}
    (W : Walks prog w A I fp [I] n P St) (hsz : n ≤ sizeLine) (hks : ks.length = n) (hP : ∀ i v, i < n → P i v → ∃ k, ks[i]? = some k ∧ Is k v) (hIo : ∀ i h, St i h → ∃ o, h.get? I = some o)
    (hSt : ∀ i h h' o nw, St i h → h.get? I = some o → h'.get? I = some o → (∀ b o, h₀.get? b = some o → h'.get? b = some o) → News h₀ L h' nw → S nw → St i h')
    (hone : ∀ n, cellsFrom n scope.names cl = (x, n) :: cl) (hpush : ∀ h, pushCells h scope.names = h.push cellO) (hkind : scope.kind = .function) (hx : (relabel scope env).names.lookup x = some .cell) (hst : St 0 s₂.heap) (hfp : ∀ b ∈ fp, b < s₂.heap.objs.size)
    (F : Fr h₀ L s₂.heap m) (N : News h₀ L s₂.heap news) (hIL : L ≠ I) (hI₀ : h₀.get? I = none) (off : ∀ p ∈ news, p.1 ≠ I) (hS : ∀ p, S (p :: news))
    (turn : ∀ k v, k ∈ ks → Is k v → TurnC prog w A h₀ L m env elt x scope cl s₂ S news (g k) v)
    (hRR : ∀ D C h tk m' ys, Fr h₀ L h m → News h₀ L h ((D, lst ys) :: news) → Off1 D news → h.Ns C m' → h₀.get? C = none → h₀.get? D = none → C ≠ L → D ≠ L → C ≠ D → (∀ p ∈ news, p.1 ≠ C) → IntsAre ys (ks.map g) → RR (.ref D) C (.ok .next) { s₂ with heap := h, toks := tk }) :
    wpAny (model prog w) A (newList []) (fun acc s₃ => wpAny (model prog w) A (newFunctionEnv scope env.globals cl [] env.qual none .none (some env)) (fun cenv s₄ =>
      codeAny (model prog w) A (.compStart (.ListComp elt [⟨.Name x px, iter, [], 0⟩] scope pos) 0 (.ref I) acc { cenv with scope := relabel scope env }) (RR acc cenv.locals) s₄) E s₃) E s₂ := by
  revert W hsz hks hP hIo hSt hone hpush hkind hx hst hfp F N hIL hI₀ off hS turn hRR
  revert prog w A E h₀ L m env elt iter x px scope cl pos s₂ I fp n P St S news ks Is g RR
  revert α
  refine @epsT _ ?_; generalize ET _ = α
  refine @eps8 _ _ _ _ _ _ _ _ inferInstance neW neA inferInstance inferInstance inferInstance inferInstance inferInstance _ ?_; generalize E8_1 _ _ _ _ _ _ _ _ _ = prog; generalize E8_2 _ _ _ _ _ _ _ _ _ = w; generalize E8_3 _ _ _ _ _ _ _ _ _ = A; generalize E8_4 _ _ _ _ _ _ _ _ _ = E; generalize E8_5 _ _ _ _ _ _ _ _ _ = h₀; generalize E8_6 _ _ _ _ _ _ _ _ _ = L; generalize E8_7 _ _ _ _ _ _ _ _ _ = m; generalize E8_8 _ _ _ _ _ _ _ _ _ = env
  refine @eps8 _ _ _ _ _ _ _ _ inferInstance inferInstance inferInstance inferInstance neC inferInstance inferInstance neS _ ?_; generalize E8_1 _ _ _ _ _ _ _ _ _ = elt; generalize E8_2 _ _ _ _ _ _ _ _ _ = iter; generalize E8_3 _ _ _ _ _ _ _ _ _ = x; generalize E8_4 _ _ _ _ _ _ _ _ _ = px; generalize E8_5 _ _ _ _ _ _ _ _ _ = scope; generalize E8_6 _ _ _ _ _ _ _ _ _ = cl; generalize E8_7 _ _ _ _ _ _ _ _ _ = pos; generalize E8_8 _ _ _ _ _ _ _ _ _ = s₂
  refine @eps8 _ _ _ _ _ _ _ _ inferInstance inferInstance inferInstance inferInstance inferInstance inferInstance inferInstance inferInstance _ ?_; generalize E8_1 _ _ _ _ _ _ _ _ _ = I; generalize E8_2 _ _ _ _ _ _ _ _ _ = fp; generalize E8_3 _ _ _ _ _ _ _ _ _ = n; generalize E8_4 _ _ _ _ _ _ _ _ _ = P; generalize E8_5 _ _ _ _ _ _ _ _ _ = St; generalize E8_6 _ _ _ _ _ _ _ _ _ = S; generalize E8_7 _ _ _ _ _ _ _ _ _ = news; generalize E8_8 _ _ _ _ _ _ _ _ _ = ks
  refine @eps3 _ _ _ inferInstance inferInstance inferInstance _ ?_; generalize E3_1 _ _ _ _ = Is; generalize E3_2 _ _ _ _ = g; generalize E3_3 _ _ _ _ = RR
  intro W hsz hks hP hIo hSt hone hpush hkind hx hst hfp F N hIL hI₀ off hS turn hRR
  refine wpAny_newObj_type (nfe_one hone hpush ?_)
  dsimp only
  generalize hH2 : s₂.heap.push { cls := .type "list", dict := none, data := .seq ([] : List Value).toArray } = H2
  generalize hH3 : H2.push { cls := .type "dict", data := .dict #[] } = H3
  generalize hH4 : H3.push cellO = H4
  have hC : H2.objs.size = s₂.heap.objs.size + 1 := by rw [← hH2, Heap.size_push]
  have hc3 : H3.objs.size = H2.objs.size + 1 := by rw [← hH3, Heap.size_push]
  have hDC : s₂.heap.objs.size ≠ H2.objs.size := by rw [hC]; exact Nat.ne_of_lt (Nat.lt_succ_self _)
  have hcC : H2.objs.size + 1 ≠ H2.objs.size := Nat.succ_ne_self _
  have hcD : H2.objs.size + 1 ≠ s₂.heap.objs.size := by rw [hC]; exact Nat.ne_of_gt (Nat.lt_succ_of_lt (Nat.lt_succ_self _))
  have below : ∀ b, b < s₂.heap.objs.size → b ≠ H2.objs.size ∧ b ≠ s₂.heap.objs.size ∧ b ≠ H2.objs.size + 1 := fun b hb => ⟨by rw [hC]; exact Nat.ne_of_lt (Nat.lt_succ_of_lt hb), Nat.ne_of_lt hb, by rw [hC]; exact Nat.ne_of_lt (Nat.lt_succ_of_lt (Nat.lt_succ_of_lt hb))⟩
  have hDf : s₂.heap.objs.size ∉ fp := fun hm => Nat.lt_irrefl _ (hfp _ hm)
  have hCf : H2.objs.size ∉ fp := fun hm => by have := hfp _ hm; rw [hC] at this; exact Nat.lt_irrefl _ (Nat.lt_of_succ_lt this)
  have hcf : H2.objs.size + 1 ∉ fp := fun hm => by have := hfp _ hm; rw [hC] at this; exact Nat.lt_irrefl _ (Nat.lt_of_succ_lt (Nat.lt_of_succ_lt this))
  have hIf : I ∈ fp := W.sub I (List.mem_singleton.mpr rfl)
  have hIlt : I < s₂.heap.objs.size := hfp I hIf
  have p23 : ∀ b o, s₂.heap.get? b = some o → H2.get? b = some o := fun b o e => hH2 ▸ Heap.get?_push_of_some _ e
  have p34 : ∀ b o, H2.get? b = some o → H3.get? b = some o := fun b o e => hH3 ▸ Heap.get?_push_of_some _ e
  have p45 : ∀ b o, H3.get? b = some o → H4.get? b = some o := fun b o e => hH4 ▸ Heap.get?_push_of_some _ e
  have old : ∀ b o, s₂.heap.get? b = some o → H4.get? b = some o := fun b o e => p45 _ _ (p34 _ _ (p23 _ _ e))
  have hacc : H4.get? s₂.heap.objs.size = some (lst []) := p45 _ _ (p34 _ _ (hH2 ▸ Heap.get?_push_size _ rfl))
  have hns₁ : H4.Ns H2.objs.size fun _ => none := by
    have h1 : H3.Ns H2.objs.size fun _ => none := hH3 ▸ Heap.Ns.new H2 (.type "dict")
    exact h1.keeps p45
  have hcell₁ : H4.get? (H2.objs.size + 1) = some cellO := by rw [← hc3, ← hH4]; exact Heap.get?_push_size _ rfl
  have hst₁ : St 0 H4 := W.frame _ _ _ hst fun b _ o e => old b o e
  have fresh : ∀ a, s₂.heap.objs.size ≤ a → s₂.heap.get? a = none := fun a ha => by
    cases e : s₂.heap.get? a with
    | none => rfl
    | some o' => exact absurd (Heap.lt_size e) (Nat.not_lt.mpr ha)
  have fresh₀ : ∀ a, s₂.heap.objs.size ≤ a → h₀.get? a = none := fun a ha => by
    cases e : h₀.get? a with
    | none => rfl
    | some o' => have := F.keep a o' e; rw [fresh a ha] at this; cases this
  have hD₀ : h₀.get? s₂.heap.objs.size = none := fresh₀ _ (Nat.le_refl _)
  have hC₀ : h₀.get? H2.objs.size = none := fresh₀ _ (by rw [hC]; exact Nat.le_succ _)
  have hc₀ : h₀.get? (H2.objs.size + 1) = none := fresh₀ _ (by rw [hC]; exact Nat.le_succ_of_le (Nat.le_succ _))
  have hLlt : L < s₂.heap.objs.size := F.ns.lt
  have hDL : s₂.heap.objs.size ≠ L := Ne.symm (below L hLlt).2.1
  have hCL : H2.objs.size ≠ L := Ne.symm (below L hLlt).1
  have hcL : H2.objs.size + 1 ≠ L := Ne.symm (below L hLlt).2.2
  have hCI : I ≠ H2.objs.size := (below I hIlt).1
  have hDI : I ≠ s₂.heap.objs.size := (below I hIlt).2.1
  have hcI : I ≠ H2.objs.size + 1 := (below I hIlt).2.2
  have off₀ : ∀ p ∈ news, p.1 ≠ I ∧ p.1 ≠ H2.objs.size ∧ p.1 ≠ s₂.heap.objs.size ∧ p.1 ≠ H2.objs.size + 1 := fun p hp => ⟨off p hp, (below _ (Heap.lt_size (N p hp).1)).1, (below _ (Heap.lt_size (N p hp).1)).2.1, (below _ (Heap.lt_size (N p hp).1)).2.2⟩
  have loop : ∀ s₃ : Shared, s₃ = { s₂ with heap := H4 } →
      codeAny (model prog w) A (.compLoop (.ListComp elt [⟨.Name x px, iter, [], 0⟩] scope pos) 0 (.ref I) (.ref s₂.heap.objs.size) (compEnvC scope ((x, H2.objs.size + 1) :: cl) H2.objs.size env))
        (RR (.ref s₂.heap.objs.size) H2.objs.size) s₃ := by
    rintro s₃ rfl
    refine codeAny_compLoop_list
      (fun k s' => ∃ h' tk i ys m' cv, s' = { s₂ with heap := h', toks := tk } ∧ i ≤ n ∧ k = n + 1 - i ∧ IntsAre ys ((ks.take i).map g) ∧ St i h' ∧ Fr h₀ L h' m ∧ h'.Ns H2.objs.size m' ∧ h'.IsCell (H2.objs.size + 1) cv ∧ News h₀ L h' ((s₂.heap.objs.size, lst ys) :: news)) ?_ (n + 1)
      ⟨H4, _, 0, [], _, _, rfl, Nat.zero_le _, rfl, by rw [List.take_zero]; exact .nil, hst₁, F.keeps old, hns₁, ⟨_, hcell₁, rfl⟩, fun p hp => ?_⟩
    · rintro k s' ⟨h', tk, i, ys, m', cv, rfl, hi, rfl, hys, hst', F', hn', hcl', N'⟩
      have hyl : ys.length ≤ i := by have := hys.length; rw [List.length_map, List.length_take] at this; omega
      by_cases hlt : i < n
      · refine W.item i _ _ _ hlt hst' fun v h₂ tk₂ hPv hst₂ hk₂ => ?_
        have hcl₂ : h₂.IsCell (H2.objs.size + 1) cv := let ⟨o, ho, hd⟩ := hcl'; ⟨o, hk₂ _ _ (by simpa using Ne.symm hcI) ho, hd⟩
        refine wpAny_assign_Name (wpAny_storeName_cell (by simp [compEnvC, relabel, hkind]) hx (by simp [compEnvC, List.lookup]) hcl₂ fun h₃ hv₃ hs₃ => ?_)
        obtain ⟨k, hk, hkv⟩ := hP i v hlt hPv
        obtain ⟨oc, heC', hoc⟩ := hv₃
        have hn₂ : h₂.Ns H2.objs.size m' := hn'.at' fun o e => hk₂ _ o (by simpa using Ne.symm hCI) e
        have hn₃ : h₃.Ns H2.objs.size m' := hn₂.sameBut hs₃ (Ne.symm hcC)
        have hst₃ : St (i + 1) h₃ := W.frame _ _ _ hst₂ fun b hb o e => hs₃.extBut b o (fun q => hcf (by have q' : b = H2.objs.size + 1 := q; rw [← q']; exact hb)) e
        obtain ⟨oI, heI⟩ := hIo _ _ hst₃
        obtain ⟨oC, heC, hoC⟩ := ns_obj hn₃
        have F₃ : Fr h₀ L h₃ m := (fr_but F' hk₂ hIL hI₀).change hs₃ hcL hc₀
        have N₂ : News h₀ L h₂ ((s₂.heap.objs.size, lst ys) :: news) := news_but N' hk₂ fun p hp => by
          rcases List.mem_cons.mp hp with rfl | hp
          · exact Ne.symm hDI
          · exact (off₀ p hp).1
        have N₃ : News h₀ L h₃ ((I, oI) :: (H2.objs.size, oC) :: (s₂.heap.objs.size, lst ys) :: (H2.objs.size + 1, oc) :: news) := fun p hp => by
          rcases List.mem_cons.mp hp with rfl | hp
          · exact ⟨heI, Ne.symm hIL, hI₀⟩
          · rcases List.mem_cons.mp hp with rfl | hp
            · exact ⟨heC, hCL, hC₀⟩
            · rcases List.mem_cons.mp hp with rfl | hp
              · have z := N₂ _ (List.mem_cons_self ..)
                exact ⟨hs₃.extBut _ _ (Ne.symm hcD) z.1, z.2⟩
              · rcases List.mem_cons.mp hp with rfl | hp
                · exact ⟨heC', hcL, hc₀⟩
                · have z := N₂ p (List.mem_cons_of_mem _ hp)
                  exact ⟨hs₃.extBut _ _ (off₀ p hp).2.2.2 z.1, z.2⟩
        have off3 : Off3 I H2.objs.size s₂.heap.objs.size ((H2.objs.size + 1, oc) :: news) := Off3.of fun p hp => by
          rcases List.mem_cons.mp hp with rfl | hp
          · exact ⟨Ne.symm hcI, hcC, hcD⟩
          · exact ⟨(off₀ p hp).1, (off₀ p hp).2.1, (off₀ p hp).2.2.1⟩
        refine wpAny_mono (turn k v (List.mem_of_getElem? hk) hkv I oI H2.objs.size oC (H2.objs.size + 1) oc s₂.heap.objs.size m' ys h₃ tk₂ _ hoC hoc F₃ N₃ off3 ⟨hCI, hDI, Ne.symm hDC⟩ True.intro) (fun y s₅ h₅ => ?_) fun _ _ e => e
        obtain ⟨h₄, tk₄, news₄, rfl, F₄, N₄, off₄, hS₄, hnw, ty, hy⟩ := h₅
        subst hnw
        have zI := (N₄ (I, oI) List.mem_cons_self).1
        have zC := (N₄ (H2.objs.size, oC) (List.mem_cons_of_mem _ List.mem_cons_self)).1
        have zD := (N₄ (s₂.heap.objs.size, lst ys) (List.mem_cons_of_mem _ (List.mem_cons_of_mem _ List.mem_cons_self))).1
        have zc := (N₄ (H2.objs.size + 1, oc) (List.mem_cons_of_mem _ (List.mem_cons_of_mem _ (List.mem_cons_of_mem _ List.mem_cons_self)))).1
        have N₄' : News h₀ L h₄ ((H2.objs.size + 1, oc) :: news) := fun p hp => N₄ p (List.mem_cons_of_mem _ (List.mem_cons_of_mem _ (List.mem_cons_of_mem _ hp)))
        have hst₄ : St (i + 1) h₄ := hSt _ _ _ _ _ hst₃ heI zI F₄.keep N₄' hS₄
        refine append_at (hsz := by show ys.toArray.size ≤ sizeLine; rw [List.size_toArray]; exact Nat.le_trans (Nat.le_trans hyl hi) hsz) zD fun h₆ hs₆ hD₆ => ?_
        refine ⟨n + 1 - (i + 1), by omega, h₆, tk₄, i + 1, ys ++ [y], _, _, rfl, hlt, rfl, ?_, W.frame _ _ _ hst₄ fun b hb o e => hs₆.extBut b o (fun q => hDf (q ▸ hb)) e, F₄.change hs₆ hDL hD₀,
          (hoC.ns zC).sameBut hs₆ (Ne.symm hDC), ⟨oc, hs₆.extBut _ _ hcD zc, hoc⟩, fun p hp => ?_⟩
        · rw [hy, List.take_add_one, hk]
          simpa using IntsAre.append hys (.cons (g k) ty .nil)
        · rcases List.mem_cons.mp hp with rfl | hp
          · exact ⟨hD₆.trans (congrArg some (lst_snoc ys y)), hDL, hD₀⟩
          · exact ⟨hs₆.extBut _ _ (off₀ p hp).2.2.1 (N₄' p (List.mem_cons_of_mem _ hp)).1, (N₄' p (List.mem_cons_of_mem _ hp)).2⟩
      · obtain rfl : i = n := Nat.le_antisymm hi (Nat.not_lt.mp hlt)
        refine W.done _ _ _ hst' fun h₂ tk₂ hk₂ => ?_
        rw [← hks, List.take_length] at hys
        exact hRR _ _ h₂ tk₂ _ ys (fr_but F' hk₂ hIL hI₀) (news_but N' hk₂ fun p hp => by
          rcases List.mem_cons.mp hp with rfl | hp
          · exact Ne.symm hDI
          · exact (off₀ p hp).1) (Off3.one (I := I) (C := H2.objs.size) (Off3.of fun p hp => ⟨(off₀ p hp).1, (off₀ p hp).2.1, (off₀ p hp).2.2.1⟩)) (hn'.at' fun o e => hk₂ _ o (by simpa using Ne.symm hCI) e) hC₀ hD₀ hCL hDL (Ne.symm hDC) (fun p hp => (off₀ p hp).2.1) hys
    · rcases List.mem_cons.mp hp with rfl | hp
      · exact ⟨hacc, hDL, hD₀⟩
      · exact ⟨old _ _ (N p hp).1, (N p hp).2⟩
  exact codeAny_compStart_list (loop _ rfl) (W.self 0 _ _ _ hst₁ (loop _ rfl))
noncomputable def SrcCR (prog : Program) (w : World) (A : Around) (h₀ : Heap) (L : Addr) (m : Str → Option Value) (env : Env) (elt : Expr) (x : Str) (scope : Scope) (cl : List (Str × Addr)) (Q : Value → Shared → Prop) (xv : Value) (s₁ : Shared) : Prop :=
  ∃ r a b t u v n news, ∃ g : Int → Int, xv = .ref r ∧ A.handled = none ∧ Fr h₀ L s₁.heap m ∧ News h₀ L s₁.heap news ∧ IsRange s₁.heap r a b 1 t u v ∧ Builtin.Range.small a b 1 = true ∧ Builtin.Range.rangeSize a b 1 = ((n : Nat) : Int) ∧ n ≤ sizeLine ∧
    ∀ s₂ : Shared, (∃ h, s₂ = { s₁ with heap := h }) → (∀ k t, a ≤ k → k < a + (n : Int) → TurnC prog w A h₀ L m env elt x scope cl s₂ (fun _ => True) news (g k) (.int k t)) ∧ (∀ ys, IntsAre ys ((rangeKs a n).map g) → FinE h₀ L m s₂ Q ys news)
noncomputable def SrcCL (prog : Program) (w : World) (A : Around) (h₀ : Heap) (L : Addr) (m : Str → Option Value) (env : Env) (elt : Expr) (x : Str) (scope : Scope) (cl : List (Str × Addr)) (Q : Value → Shared → Prop) (xv : Value) (s₁ : Shared) : Prop :=
  ∃ ax its news, ∃ g : Value → Int, xv = .ref ax ∧ A.handled = none ∧ Fr h₀ L s₁.heap m ∧ News h₀ L s₁.heap news ∧ SrcAt h₀ ax its news ∧ its.size ≤ sizeLine ∧
    ∀ s₂ : Shared, (∃ h, s₂ = { s₁ with heap := h }) → (∀ v ∈ its.toList, TurnC prog w A h₀ L m env elt x scope cl s₂ (SrcAt h₀ ax its) news (g v) v) ∧ (∀ ys, IntsAre ys (its.toList.map g) → FinE h₀ L m s₂ Q ys news)
noncomputable def SrcC (prog : Program) (w : World) (A : Around) (h₀ : Heap) (L : Addr) (m : Str → Option Value) (env : Env) (elt : Expr) (x : Str) (scope : Scope) (cl : List (Str × Addr)) (Q : Value → Shared → Prop) (xv : Value) (s₁ : Shared) : Prop :=
  SrcCL prog w A h₀ L m env elt x scope cl Q xv s₁ ∨ SrcCR prog w A h₀ L m env elt x scope cl Q xv s₁
theorem SrcC.range {elt : Expr} {x : Str} {scope : Scope} {cl : List (Str × Addr)} {Q : Value → Shared → Prop} {r : Addr} {a b : Int} {t u v : Tok} {n : Nat} {news : List (Addr × Obj)} {s₁ : Shared} (g : Int → Int)
    (hh : A.handled = none) (F : Fr h₀ L s₁.heap m) (N : News h₀ L s₁.heap news) (hr : IsRange s₁.heap r a b 1 t u v) (hsm : Builtin.Range.small a b 1 = true) (hn : Builtin.Range.rangeSize a b 1 = ((n : Nat) : Int)) (hsz : n ≤ sizeLine)
    (h : ∀ g', ∀ k t, a ≤ k → k < a + (n : Int) → TurnC prog w A h₀ L m env elt x scope cl { s₁ with heap := g' } (fun _ => True) news (g k) (.int k t)) (hf : ∀ g' ys, IntsAre ys ((rangeKs a n).map g) → FinE h₀ L m { s₁ with heap := g' } Q ys news) :
    SrcC prog w A h₀ L m env elt x scope cl Q (.ref r) s₁ := .inr ⟨r, a, b, t, u, v, n, news, g, rfl, hh, F, N, hr, hsm, hn, hsz, fun _ ⟨g', e⟩ => e ▸ ⟨h g', hf g'⟩⟩
theorem SrcC.ledger {elt : Expr} {x : Str} {scope : Scope} {cl : List (Str × Addr)} {Q : Value → Shared → Prop} {ax : Addr} {vs : List Value} {k : Nat} {news : List (Addr × Obj)} {s₁ : Shared} (g : Value → Int)
    (hh : A.handled = none) (F : Fr h₀ L s₁.heap m) (N : News h₀ L s₁.heap news) (hm : (ax, ({ cls := .type "list", data := .seq vs.toArray k } : Obj)) ∈ news) (hsz : vs.length ≤ sizeLine)
    (h : ∀ g', ∀ v ∈ vs, TurnC prog w A h₀ L m env elt x scope cl { s₁ with heap := g' } (SrcAt h₀ ax vs.toArray) news (g v) v) (hf : ∀ g' ys, IntsAre ys (vs.map g) → FinE h₀ L m { s₁ with heap := g' } Q ys news) :
    SrcC prog w A h₀ L m env elt x scope cl Q (.ref ax) s₁ := .inl ⟨ax, vs.toArray, news, g, rfl, hh, F, N, .inr ⟨_, hm, rfl, _, rfl⟩, by simpa using hsz, fun _ ⟨g', e⟩ => e ▸ ⟨h g', hf g'⟩⟩
theorem ListComp_C {elt iter : Expr} {x : Str} {px : Pos} {scope : Scope} {cl : List (Str × Addr)} {pos : Pos} {Q : Value → Shared → Prop} (F₀ : Fr h₀ L s.heap m)
    (hclos : closureFor scope env = pure cl) (hone : ∀ n, cellsFrom n scope.names cl = (x, n) :: cl) (hpush : ∀ h, pushCells h scope.names = h.push cellO) (hkind : scope.kind = .function)
    (hnames : ∀ y ∈ scope.names, y.2 = .local → scope.names.lookup y.1 = some .local) (hx : (relabel scope env).names.lookup x = some .cell)
    (h : wpAny (model prog w) A (eval iter env) (SrcC prog w A h₀ L m env elt x scope cl Q) E s)
    (hs : ∀ x, foldedSetIterable iter env x = pure x := by intro _; rfl) :
    wpAny (model prog w) A (eval (.ListComp elt [⟨.Name x px, iter, [], 0⟩] scope pos) env) Q E s := by
  revert F₀ hclos hone hpush hkind hnames hx h hs
  revert prog w A E s h₀ L m env elt iter x px scope cl pos Q
  refine @eps8 _ _ _ _ _ _ _ _ inferInstance neW neA inferInstance neS inferInstance inferInstance inferInstance _ ?_; generalize E8_1 _ _ _ _ _ _ _ _ _ = prog; generalize E8_2 _ _ _ _ _ _ _ _ _ = w; generalize E8_3 _ _ _ _ _ _ _ _ _ = A; generalize E8_4 _ _ _ _ _ _ _ _ _ = E; generalize E8_5 _ _ _ _ _ _ _ _ _ = s; generalize E8_6 _ _ _ _ _ _ _ _ _ = h₀; generalize E8_7 _ _ _ _ _ _ _ _ _ = L; generalize E8_8 _ _ _ _ _ _ _ _ _ = m
  refine @eps8 _ _ _ _ _ _ _ _ inferInstance inferInstance inferInstance inferInstance inferInstance neC inferInstance inferInstance _ ?_; generalize E8_1 _ _ _ _ _ _ _ _ _ = env; generalize E8_2 _ _ _ _ _ _ _ _ _ = elt; generalize E8_3 _ _ _ _ _ _ _ _ _ = iter; generalize E8_4 _ _ _ _ _ _ _ _ _ = x; generalize E8_5 _ _ _ _ _ _ _ _ _ = px; generalize E8_6 _ _ _ _ _ _ _ _ _ = scope; generalize E8_7 _ _ _ _ _ _ _ _ _ = cl; generalize E8_8 _ _ _ _ _ _ _ _ _ = pos
  refine @eps1 _ inferInstance _ ?_; generalize E1 _ _ = Q
  intro F₀ hclos hone hpush hkind hnames hx h hs
  rw [eval_ListComp]
  refine wpAny_comprehension_free (use := none) rfl hs hclos hkind hnames (wpAny_mono h (fun xv s₁ h₁ => ?_) fun _ _ e => e)
  rcases h₁ with ⟨ax, its, news, g, rfl, hh, F, N, S, hsz, R⟩ | ⟨r, a, b, t, u, v, n, news, g, rfl, hh, F, N, hr, hsm, hn, hsz, R⟩
  · have hl := S.list F.keep N
    have hlt : ax < s₁.heap.objs.size := by obtain ⟨_, e, _⟩ := hl; exact Heap.lt_size e
    refine wpAny_pyIter_list hl ?_
    have up : ∀ b o, s₁.heap.get? b = some o → (s₁.heap.push { cls := .type "list_iterator", data := .fields #[.ref ax, .int 0 0] }).get? b = some o := fun b o e => Heap.get?_push_of_some _ e
    obtain ⟨R1, R2⟩ := R _ ⟨_, rfl⟩
    refine block_C (ks := its.toList) (Is := fun k v => k = v) g (Walks.list hh s₁.heap.objs.size ax (Nat.ne_of_lt hlt) its) hsz (by simp) (fun i v _ hv => ⟨v, by simpa using hv, rfl⟩) (fun i h st => by obtain ⟨o, e, _⟩ := st.1; exact ⟨o, e⟩) list_st hone hpush hkind hx ⟨⟨_, Heap.get?_push_size _ rfl, rfl, rfl⟩, hl.push _⟩ (fun b hb => ?_)
      (F.keeps up) (N.grown up) (Nat.ne_of_lt F.ns.lt) (next_is_new F) (fun p hp => Nat.ne_of_lt (Heap.lt_size (N p hp).1)) (fun p => S.elim .inl fun ⟨o, hm, r⟩ => .inr ⟨o, List.mem_cons_of_mem _ hm, r⟩) (fun k v hk e => e ▸ R1 k hk) ?_
    · show b < (s₁.heap.push _).objs.size
      rw [Heap.size_push]
      rcases List.mem_cons.mp hb with rfl | hb
      · exact Nat.lt_succ_self _
      · rw [List.mem_singleton.mp hb]; exact Nat.lt_succ_of_lt hlt
    · intro D C h tk m' ys F' N' o1 hn hC₀ hD₀ hCL hDL hCD offC fin
      refine ⟨m', hn, fun h'' hs'' => R2 ys fin D h'' tk (F'.change hs'' hCL hC₀) (fun p hp => ?_) o1⟩
      refine ⟨hs''.extBut _ _ ?_ (N' p hp).1, (N' p hp).2⟩
      rcases List.mem_cons.mp hp with rfl | hp
      · exact Ne.symm hCD
      · exact offC p hp
  · refine wpAny_pyIter_range hr hsm ?_
    obtain ⟨R1, R2⟩ := R _ ⟨_, rfl⟩
    refine block_C (ks := rangeKs a n) (Is := fun k v => ∃ t, v = .int k t) g (range_walks hh a n) hsz (rangeKs_length a n) (fun i v hi hv => by
      obtain ⟨t, e⟩ := hv
      exact ⟨a + (i : Int), by simp [rangeKs, hi], t, e⟩) (fun i h st => ⟨_, st⟩) range_st hone hpush hkind hx (by show IsRangeIter _ _ _ _ _; rw [hn]; simpa using Heap.get?_push_size _ rfl) (fun b hb => ?_)
      (F.keeps fun _ _ e => Heap.get?_push_of_some _ e) (N.grown fun _ _ e => Heap.get?_push_of_some _ e) (Nat.ne_of_lt F.ns.lt) (next_is_new F) (fun p hp => Nat.ne_of_lt (Heap.lt_size (N p hp).1)) (fun _ => trivial)
      (fun k v hk e => by obtain ⟨t, rfl⟩ := e; exact R1 k t (mem_rangeKs hk).1 (mem_rangeKs hk).2) ?_
    · rw [List.mem_singleton.mp hb]
      show s₁.heap.objs.size < (s₁.heap.push _).objs.size
      rw [Heap.size_push]; exact Nat.lt_succ_self _
    · intro D C h tk m' ys F' N' o1 hn hC₀ hD₀ hCL hDL hCD offC fin
      refine ⟨m', hn, fun h'' hs'' => R2 ys fin D h'' tk (F'.change hs'' hCL hC₀) (fun p hp => ?_) o1⟩
      refine ⟨hs''.extBut _ _ ?_ (N' p hp).1, (N' p hp).2⟩
      rcases List.mem_cons.mp hp with rfl | hp
      · exact Ne.symm hCD
      · exact offC p hp
theorem SrcC.r8 {elt : Expr} {x : Str} {scope : Scope} {cl : List (Str × Addr)} {Q : Value → Shared → Prop} {r : Addr} {t u v : Tok} {news : List (Addr × Obj)} {s₁ : Shared} (g : Int → Int)
    (hh : A.handled = none) (F : Fr h₀ L s₁.heap m) (N : News h₀ L s₁.heap news) (hr : IsRange s₁.heap r 0 8 1 t u v)
    (h : ∀ g', ∀ k t, 0 ≤ k → k < 8 → TurnC prog w A h₀ L m env elt x scope cl { s₁ with heap := g' } (fun _ => True) news (g k) (.int k t)) (hf : ∀ g' ys, IntsAre ys ((rangeKs 0 8).map g) → FinE h₀ L m { s₁ with heap := g' } Q ys news) :
    SrcC prog w A h₀ L m env elt x scope cl Q (.ref r) s₁ :=
  SrcC.range (n := 8) g hh F N hr (by decide) (rangeSize_nat 0 8) (by exact Nat.le_of_ble_eq_true rfl) (fun g' k t h1 h2 => h g' k t h1 (by simpa using h2)) hf
theorem src8 {elt : Expr} {x : Str} {scope : Scope} {cl : List (Str × Addr)} {Fin : Shared → List Value → List (Addr × Obj) → Prop} {r : Addr} {t u v : Tok} {news : List (Addr × Obj)} {s₁ : Shared} (g : Int → Int)
    (hh : A.handled = none) (F : Fr h₀ L s₁.heap m) (N : News h₀ L s₁.heap news) (hr : IsRange s₁.heap r 0 8 1 t u v)
    (turn : ∀ g' k t I oI C oC D m₂ ys h tk (E' : Value → Shared → Prop), 0 ≤ k → k < 8 → NsObj oC m₂ → m₂ x = some (.int k t) → Fr h₀ L h m → News h₀ L h ((I, oI) :: (C, oC) :: (D, lst ys) :: news) → Off3 I C D news → KPfMark →
      wpAny (model prog w) A (eval elt (compEnvC scope cl C env)) (CompEnd h₀ L m { s₁ with heap := h, gens := ({ s₁ with heap := g' } : Shared).gens, toks := tk } I oI C oC D (lst ys) (fun _ => True) (fun y news' => KCfEl news (g k) y news')) E' { s₁ with heap := h, toks := tk })
    (fin : ∀ g' ys, IntsAre ys ((rangeKs 0 8).map g) → Fin { s₁ with heap := g' } ys news) : LCg.CompSrc prog w A h₀ L m env elt x scope cl Fin (.ref r) s₁ :=
  LCg.CompSrc.range (n := 8) hh F N hr (by decide) (rangeSize_nat 0 8) (by exact Nat.le_of_ble_eq_true rfl) fun g' => kcf_range g (fun k t I oI C oC D m₂ ys h tk E' h1 h2 hC hx F' N' off _ mk => turn g' k t I oI C oC D m₂ ys h tk E' h1 (by simpa using h2) hC hx F' N' off mk) (fin g')
end
end Mine
end
section -- WVOPS
namespace Mine
theorem offWVOPS : True := by
  w_top off
  exact trivial
theorem term_bd (p : Bool) (j u : Nat) : -1 ≤ (if p = true then chi j u else 0) ∧ (if p = true then chi j u else 0) ≤ 1 := by
  unfold chi
  split
  · split <;> decide
  · decide
theorem WVat_sum (a u : Nat) : WVat a u = (if a.testBit 0 = true then chi 0 u else 0) + ((if a.testBit 1 = true then chi 1 u else 0) + ((if a.testBit 2 = true then chi 2 u else 0) + ((if a.testBit 3 = true then chi 3 u else 0) + ((if a.testBit 4 = true then chi 4 u else 0) + ((if a.testBit 5 = true then chi 5 u else 0) + ((if a.testBit 6 = true then chi 6 u else 0) + ((if a.testBit 7 = true then chi 7 u else 0) + 0))))))) := rfl
theorem WVat_bd (a u : Nat) : -8 ≤ WVat a u ∧ WVat a u ≤ 8 := by
  rw [WVat_sum]
  have h0 := term_bd (a.testBit 0) 0 u
  have h1 := term_bd (a.testBit 1) 1 u
  have h2 := term_bd (a.testBit 2) 2 u
  have h3 := term_bd (a.testBit 3) 3 u
  have h4 := term_bd (a.testBit 4) 4 u
  have h5 := term_bd (a.testBit 5) 5 u
  have h6 := term_bd (a.testBit 6) 6 u
  have h7 := term_bd (a.testBit 7) 7 u
  omega
noncomputable def WVi (a : Nat) (k : Int) : Int := WVat a k.toNat
theorem WVi_bd (a : Nat) (k : Int) : -8 ≤ WVi a k ∧ WVi a k ≤ 8 := WVat_bd a k.toNat
theorem xor_lt8 {a b : Int} (ha : 0 ≤ a) (ha' : a < 8) (hb : 0 ≤ b) (hb' : b < 8) : 0 ≤ Builtin.bitXor a b ∧ Builtin.bitXor a b < 8 := by
  have e1 : a = ((a.toNat : Nat) : Int) := by omega
  have e2 : b = ((b.toNat : Nat) : Int) := by omega
  rw [e1, e2, bXor]
  have h : a.toNat ^^^ b.toNat < 2 ^ 3 := Nat.xor_lt_two_pow (by omega) (by omega)
  omega
section
variable {prog : Program} {w : World} {A : Around} {E : Value → Shared → Prop} {s : Shared} {h₀ : Heap} {L D : Addr} {m : Str → Option Value} {news : List (Addr × Obj)} {vs : List Value} {n a : Nat} {k : Int} {t u : Tok}
theorem sub_wv {value slice : PySem.Expr} {Q : Value → Shared → Prop} (N : News h₀ L s.heap news) (hm : (D, listOf vs.toArray n) ∈ news) (hi : IntsAre vs (WV a)) (h0 : 0 ≤ k) (h1 : k < 8) (h : ∀ t, Q (.int (WVi a k) t) s)
    (hs : subscripted slice false (.ref D) (.int k u) = operate [.ref D, .int k u] (getItem (.ref D) (.int k u)) := by with_unfolding_all rfl) :
    wpAny (model prog w) A (subscriptTail value slice (.ref D) (.int k u)) Q E s := by
  refine ksa_sub N hm hi h0 (by rw [WV_len]; omega) (by omega) (fun t => ?_) hs
  rw [WV_get a (by omega)]
  exact h t
theorem sumN {l : Addr} {ns : List Int} {Q : Value → Shared → Prop} (hh : A.handled = none) (F : Fr h₀ L s.heap m) (N : News h₀ L s.heap news) (hm : (l, LCg.lst vs) ∈ news) (hi : IntsAre vs ns)
    (h : ∀ h' tk t', Fr h₀ L h' m → News h₀ L h' news → Q (.int ns.sum t') { s with heap := h', toks := tk }) :
    wpAny (model prog w) A (call (.builtin "sum") [.ref l]) Q E s := sumK hh F N ⟨_, (N _ hm).1, rfl, _, rfl⟩ hi h
theorem sub_any {value slice : PySem.Expr} {ns : List Int} {Q : Value → Shared → Prop} (N : News h₀ L s.heap news) (hm : (D, LCg.lst vs) ∈ news) (hi : IntsAre vs ns) (hl : ns.length = 8) (h0 : 0 ≤ k) (h1 : k < 8) (h : ∀ t, Q (.int (ns.getD k.toNat 0) t) s)
    (hs : subscripted slice false (.ref D) (.int k u) = operate [.ref D, .int k u] (getItem (.ref D) (.int k u)) := by with_unfolding_all rfl) :
    wpAny (model prog w) A (subscriptTail value slice (.ref D) (.int k u)) Q E s :=
  ksa_sub (n := vs.length) N hm hi h0 (by rw [hl]; omega) (by omega) h hs
theorem map8_len {g : Int → Int} : (List.map g (rangeKs 0 8)).length = 8 := by rw [List.length_map, rangeKs_length]
theorem mul_wv {a b : Nat} {i j : Int} {Q : Value → Shared → Prop} (h : Q (.int (WVi a i * WVi b j) s.toks) { s with toks := s.toks + 1 }) : wpAny (model prog w) A (binaryOp .Mult (.int (WVi a i) t) (.int (WVi b j) u)) Q E s := by
  have hb := WVi_bd a i
  exact mul_int h (IntMulOk.of_left (intBits_le_64 (by omega) (by omega)))
theorem xor8 {a b : Int} {Q : Value → Shared → Prop} (h : Q (.int (Builtin.bitXor a b) s.toks) { s with toks := s.toks + 1 }) : wpAny (model prog w) A (binaryOp .BitXor (.int a t) (.int b u)) Q E s :=
  xor_int h
end
end Mine
end
section -- WVLAW
namespace Mine
theorem offWVLAW : True := by
  w_top off
  exact trivial
noncomputable def sum8 (f : Nat → Int) : Int := f 0 + (f 1 + (f 2 + (f 3 + (f 4 + (f 5 + (f 6 + f 7))))))
theorem sum8_congr {f g : Nat → Int} (h : ∀ j, j < 8 → f j = g j) : sum8 f = sum8 g := by
  unfold sum8
  rw [h 0 (by decide), h 1 (by decide), h 2 (by decide), h 3 (by decide), h 4 (by decide), h 5 (by decide), h 6 (by decide), h 7 (by decide)]
theorem sum8_mul (c : Int) (f : Nat → Int) : c * sum8 f = sum8 fun j => c * f j := by
  unfold sum8; simp only [Int.mul_add]
theorem sum8_mul' (c : Int) (f : Nat → Int) : sum8 f * c = sum8 fun j => f j * c := by
  unfold sum8; simp only [Int.add_mul]
noncomputable def sumTo (f : Nat → Int) : Nat → Int
  | 0 => 0
  | n + 1 => sumTo f n + f n
theorem sum8_to (f : Nat → Int) : sum8 f = sumTo f 8 := by
  unfold sum8
  simp only [sumTo]
  omega
theorem sumTo_add (f g : Nat → Int) (n : Nat) : sumTo (fun j => f j + g j) n = sumTo f n + sumTo g n := by
  induction n with
  | zero => rfl
  | succ n ih => simp only [sumTo, ih]; omega
theorem sumTo_sub (f g : Nat → Int) (n : Nat) : sumTo (fun j => f j - g j) n = sumTo f n - sumTo g n := by
  induction n with
  | zero => rfl
  | succ n ih => simp only [sumTo, ih]; omega
theorem sumTo_zero (n : Nat) : sumTo (fun _ => 0) n = 0 := by
  induction n with
  | zero => rfl
  | succ n ih => simp only [sumTo, ih]; rfl
theorem sumTo_comm (F : Nat → Nat → Int) (m n : Nat) : sumTo (fun i => sumTo (fun j => F i j) n) m = sumTo (fun j => sumTo (fun i => F i j) m) n := by
  induction m with
  | zero => simp only [sumTo, sumTo_zero]
  | succ m ih => simp only [sumTo, ih, sumTo_add]
theorem sum8_add (f g : Nat → Int) : sum8 (fun j => f j + g j) = sum8 f + sum8 g := by simp only [sum8_to, sumTo_add]
theorem sum8_sub (f g : Nat → Int) : sum8 (fun j => f j - g j) = sum8 f - sum8 g := by simp only [sum8_to, sumTo_sub]
theorem sum8_comm (F : Nat → Nat → Int) : sum8 (fun i => sum8 fun j => F i j) = sum8 (fun j => sum8 fun i => F i j) := by
  simp only [sum8_to]
  exact sumTo_comm F 8 8
noncomputable def bt (a j : Nat) : Int := if a.testBit j = true then 1 else 0
theorem WVat_bt (a u : Nat) : WVat a u = sum8 fun j => bt a j * chi j u := by
  have e : ∀ j, (if a.testBit j = true then chi j u else 0) = bt a j * chi j u := by intro j; unfold bt; split <;> simp
  rw [WVat_sum]
  simp only [e]
  unfold sum8
  dsimp only
  omega
theorem orth : ∀ j, j < 8 → ∀ k, k < 8 → ∀ u, u < 8 → sum8 (fun v => chi j v * chi k (u ^^^ v)) = if j = k then 8 * chi j u else 0 := by decide +kernel
theorem pick (c : Nat → Int) (j : Nat) (hj : j < 8) : sum8 (fun k => if j = k then c k else 0) = c j := by
  have : j = 0 ∨ j = 1 ∨ j = 2 ∨ j = 3 ∨ j = 4 ∨ j = 5 ∨ j = 6 ∨ j = 7 := by omega
  rcases this with rfl | rfl | rfl | rfl | rfl | rfl | rfl | rfl <;> simp [sum8]
theorem bt_and (a b j : Nat) : bt (a &&& b) j = bt a j * bt b j := by
  unfold bt
  rw [Nat.testBit_and]
  cases a.testBit j <;> cases b.testBit j <;> rfl
theorem conv_at (a b u : Nat) (hu : u < 8) : sum8 (fun v => WVat a v * WVat b (u ^^^ v)) = 8 * WVat (a &&& b) u := by
  have e1 : ∀ v, WVat a v * WVat b (u ^^^ v) = sum8 fun j => sum8 fun k => (bt a j * bt b k) * (chi j v * chi k (u ^^^ v)) := by
    intro v
    rw [WVat_bt, WVat_bt, sum8_mul']
    refine sum8_congr fun j _ => ?_
    rw [sum8_mul]
    refine sum8_congr fun k _ => ?_
    rw [Int.mul_assoc, Int.mul_assoc, Int.mul_left_comm (chi j v)]
  rw [sum8_congr fun v _ => e1 v, sum8_comm, WVat_bt, sum8_mul]
  refine sum8_congr fun j hj => ?_
  rw [sum8_comm]
  have e2 : ∀ k, k < 8 → sum8 (fun v => (bt a j * bt b k) * (chi j v * chi k (u ^^^ v))) = if j = k then (bt a j * bt b k) * (8 * chi j u) else 0 := by
    intro k hk
    rw [← sum8_mul, orth j hj k hk u hu]
    split <;> simp
  rw [sum8_congr e2, pick (fun k => (bt a j * bt b k) * (8 * chi j u)) j hj, bt_and]
  rw [Int.mul_left_comm]
theorem op_at (k : Fin 3) (a b u : Nat) (hk : 0 < k.val) : WVat (opMask k a b) u = WVat a u + WVat b u - (k.val : Int) * WVat (a &&& b) u := by
  have e : ∀ j, bt (opMask k a b) j = bt a j + bt b j - (k.val : Int) * bt (a &&& b) j := by
    intro j
    match k, hk with
    | 1, _ =>
      unfold opMask bt
      dsimp only
      rw [Nat.testBit_or, Nat.testBit_and]
      cases a.testBit j <;> cases b.testBit j <;> decide
    | 2, _ =>
      unfold opMask bt
      dsimp only
      rw [Nat.testBit_xor, Nat.testBit_and]
      cases a.testBit j <;> cases b.testBit j <;> decide
  rw [WVat_bt, WVat_bt a, WVat_bt b, WVat_bt (a &&& b), sum8_mul, ← sum8_add, ← sum8_sub]
  refine sum8_congr fun j _ => ?_
  rw [e, Int.sub_mul, Int.add_mul, Int.mul_assoc]
theorem bt_not : ∀ m, m < 256 → ∀ j, j < 8 → bt (255 - m) j = 1 - bt m j := by decide +kernel
theorem chi_all : ∀ u, u < 8 → sum8 (fun j => chi j u) = 8 * (if ((u : Int) == 0) = true then 1 else 0) := by decide +kernel
theorem not_at (m u : Nat) (hm : m < 256) (hu : u < 8) : WVat (255 - m) u = 8 * (if ((u : Int) == 0) = true then 1 else 0) - WVat m u := by
  rw [WVat_bt, WVat_bt m, ← chi_all u hu, ← sum8_sub]
  refine sum8_congr fun j hj => ?_
  rw [bt_not m hm j hj, Int.sub_mul, Int.one_mul]
theorem map_rk (g : Int → Int) : List.map g (rangeKs 0 8) = (List.range 8).map fun i => g ((i : Nat) : Int) := by
  unfold rangeKs
  rw [List.map_map]
  refine List.map_congr_left fun i _ => ?_
  simp
theorem rk_congr {g : Int → Int} {f : Nat → Int} (h : ∀ i, i < 8 → g ((i : Nat) : Int) = f i) : List.map g (rangeKs 0 8) = (List.range 8).map f := by
  rw [map_rk]
  exact List.map_congr_left fun i hi => h i (List.mem_range.mp hi)
theorem rk_sum (g : Int → Int) : (List.map g (rangeKs 0 8)).sum = sum8 fun i => g ((i : Nat) : Int) := by
  rw [map_rk]
  show _ + (_ + (_ + (_ + (_ + (_ + (_ + (_ + 0))))))) = _
  unfold sum8
  rw [Int.add_zero]
theorem WVi_nat (a i : Nat) : WVi a ((i : Nat) : Int) = WVat a i := rfl
noncomputable abbrev convL (a b : Nat) : List Int := List.map (fun k' => (List.map (fun k'_1 => WVi a k'_1 * WVi b (Builtin.bitXor k' k'_1)) (rangeKs 0 8)).sum.fdiv 8) (rangeKs 0 8)
theorem convL_eq (a b : Nat) : convL a b = WV (a &&& b) := by
  unfold convL WV
  refine rk_congr fun u hu => ?_
  rw [rk_sum]
  have e : (sum8 fun i => WVi a ((i : Nat) : Int) * WVi b (Builtin.bitXor (u : Int) ((i : Nat) : Int))) = 8 * WVat (a &&& b) u := by
    rw [← conv_at a b u hu]
    refine sum8_congr fun i _ => ?_
    rw [bXor, WVi_nat, WVi_nat]
  rw [e]
  exact Int.mul_fdiv_cancel_left _ (by decide)
theorem opL_eq (k : Fin 3) (a b : Nat) (hk : 0 < k.val) : List.map (fun k' => WVi a k' + WVi b k' - ((k.val : Nat) : Int) * (convL a b).getD k'.toNat 0) (rangeKs 0 8) = WV (opMask k a b) := by
  rw [convL_eq]
  refine rk_congr fun u hu => ?_
  rw [op_at k a b u hk, WVi_nat, WVi_nat, Int.toNat_natCast, WV_get _ hu]
theorem notL_eq (m : Nat) (hm : m < 256) : List.map (fun k' => (8 * if (k' == 0) = true then 1 else 0) - (WV m).getD k'.toNat 0) (rangeKs 0 8) = WV (255 - m) := by
  refine rk_congr fun u hu => ?_
  rw [not_at m u hm hu, Int.toNat_natCast, WV_get _ hu]
end Mine
end
section -- WAVE1
namespace Mine
theorem offWAVE1 : True := by
  w_top off
  exact trivial
local macro_rules | `(tactic| k_all) => `(tactic| assumption)
local macro_rules | `(tactic| k_ne) => `(tactic| (refine neN ?_; (try dsimp only); first | (with_reducible first
  | assumption
  | exact And.left (by assumption)
  | exact And.left (And.right (by assumption))
  | exact And.left (And.right (And.right (by assumption)))
  | exact And.left (And.right (And.right (And.right (by assumption))))
  | exact And.left (And.right (And.right (And.right (And.right (by assumption)))))
  | exact And.left (And.right (And.right (And.right (And.right (And.right (by assumption))))))
  | exact And.left (And.right (And.right (And.right (And.right (And.right (And.right (by assumption)))))))
  | exact And.left (And.right (And.right (And.right (And.right (And.right (And.right (And.right (by assumption))))))))
  | exact And.left (And.right (And.right (And.right (And.right (And.right (And.right (And.right (And.right (by assumption)))))))))
  | exact And.right (by assumption)
  | exact And.right (And.right (by assumption))
  | exact And.right (And.right (And.right (by assumption)))
  | exact And.right (And.right (And.right (And.right (by assumption))))
  | exact And.right (And.right (And.right (And.right (And.right (by assumption)))))
  | exact And.right (And.right (And.right (And.right (And.right (And.right (by assumption))))))
  | exact And.right (And.right (And.right (And.right (And.right (And.right (And.right (by assumption)))))))
  | exact And.right (And.right (And.right (And.right (And.right (And.right (And.right (And.right (by assumption))))))))
  | exact Ne.symm (by assumption)
  | exact Ne.symm (And.left (by assumption))
  | exact Ne.symm (And.left (And.right (by assumption)))
  | exact Ne.symm (And.left (And.right (And.right (by assumption))))
  | exact Ne.symm (And.left (And.right (And.right (And.right (by assumption)))))
  | exact Ne.symm (And.left (And.right (And.right (And.right (And.right (by assumption))))))
  | exact Ne.symm (And.left (And.right (And.right (And.right (And.right (And.right (by assumption)))))))
  | exact Ne.symm (And.left (And.right (And.right (And.right (And.right (And.right (And.right (by assumption))))))))
  | exact Ne.symm (And.left (And.right (And.right (And.right (And.right (And.right (And.right (And.right (by assumption)))))))))
  | exact Ne.symm (And.left (And.right (And.right (And.right (And.right (And.right (And.right (And.right (And.right (by assumption))))))))))
  | exact Ne.symm (And.right (by assumption))
  | exact Ne.symm (And.right (And.right (by assumption)))
  | exact Ne.symm (And.right (And.right (And.right (by assumption))))
  | exact Ne.symm (And.right (And.right (And.right (And.right (by assumption)))))
  | exact Ne.symm (And.right (And.right (And.right (And.right (And.right (by assumption))))))
  | exact Ne.symm (And.right (And.right (And.right (And.right (And.right (And.right (by assumption)))))))
  | exact Ne.symm (And.right (And.right (And.right (And.right (And.right (And.right (And.right (by assumption))))))))
  | exact Ne.symm (And.right (And.right (And.right (And.right (And.right (And.right (And.right (And.right (by assumption)))))))))) | ((repeat (rename _ ≠ _ ∧ _ => z9; clear z9)); omega)))
theorem wave_f1 {ys : List Value} {k : _root_.Fin 3} {tu : Bool} {r : _root_.Fin 4} {l rt : T} (hI : IntsAre ys (List.map (fun k' => (8 * if (k' == 0) = true then 1 else 0) - (List.map (fun k' => WVi l.mask k' + WVi rt.mask k' - ((k.val : Nat) : Int) * (convL l.mask rt.mask).getD k'.toNat 0) (rangeKs 0 8)).getD k'.toNat 0) (rangeKs 0 8))) (hk : 0 < ((k.val : Nat) : Int)) (ht : tn tu ≠ 0) : IntsAre ys (WV (T.node k tu r l rt).mask) := by
  rw [opL_eq k _ _ (by omega), notL_eq _ (opMask_lt k l.mask_lt rt.mask_lt)] at hI
  cases tu with
  | true => exact hI
  | false => exact absurd rfl ht
theorem wave_f2 {ys : List Value} {k : _root_.Fin 3} {tu : Bool} {r : _root_.Fin 4} {l rt : T} (hI : IntsAre ys (List.map (fun k' => WVi l.mask k' + WVi rt.mask k' - ((k.val : Nat) : Int) * (convL l.mask rt.mask).getD k'.toNat 0) (rangeKs 0 8))) (hk : 0 < ((k.val : Nat) : Int)) (ht : tn tu = 0) : IntsAre ys (WV (T.node k tu r l rt).mask) := by
  rw [opL_eq k _ _ (by omega)] at hI
  cases tu with
  | false => exact hI
  | true => exact absurd ht (by decide)
theorem wave_f3 {ys : List Value} {k : _root_.Fin 3} {tu : Bool} {r : _root_.Fin 4} {l rt : T} (hI : IntsAre ys (List.map (fun k' => (8 * if (k' == 0) = true then 1 else 0) - (convL l.mask rt.mask).getD k'.toNat 0) (rangeKs 0 8))) (hk : ¬ 0 < ((k.val : Nat) : Int)) (ht : tn tu ≠ 0) : IntsAre ys (WV (T.node k tu r l rt).mask) := by
  have hk0 : k = 0 := by apply Fin.ext; show k.val = 0; omega
  subst hk0
  have hm := opMask_lt 0 l.mask_lt rt.mask_lt
  rw [convL_eq, notL_eq (l.mask &&& rt.mask) hm] at hI
  cases tu with
  | true => exact hI
  | false => exact absurd rfl ht
theorem wave_f4 {ys : List Value} {k : _root_.Fin 3} {tu : Bool} {r : _root_.Fin 4} {l rt : T} (hI : IntsAre ys (convL l.mask rt.mask)) (hk : ¬ 0 < ((k.val : Nat) : Int)) (ht : tn tu = 0) : IntsAre ys (WV (T.node k tu r l rt).mask) := by
  have hk0 : k = 0 := by apply Fin.ext; show k.val = 0; omega
  subst hk0
  rw [convL_eq] at hI
  cases tu with
  | false => exact hI
  | true => exact absurd ht (by decide)
theorem wave_node (w : World) (mean : ExcName → Option Value) (mg mb : Str → Option Value) (k : _root_.Fin 3) (tu : Bool) (r : _root_.Fin 4) (l rt : T) (D U : Nat) (hD : 20 ≤ D) (hU : 160 ≤ U) (IHl : VClaim w mean mg mb 251 D U l (WV l.mask)) (IHr : VClaim w mean mg mb 251 D U rt (WV rt.mask)) : VClaim w mean mg mb 251 (D + 1) (U + 3) (.node k tu r l rt) (WV (T.node k tu r l rt).mask) := by
  w_top off
  revert w mean mg mb k tu r l rt D U
  refine eps8 neW inferInstance inferInstance inferInstance inferInstance inferInstance inferInstance neT ?_; generalize E8_1 _ _ _ _ _ _ _ _ _ = w; generalize E8_2 _ _ _ _ _ _ _ _ _ = mean; generalize E8_3 _ _ _ _ _ _ _ _ _ = mg; generalize E8_4 _ _ _ _ _ _ _ _ _ = mb; generalize E8_5 _ _ _ _ _ _ _ _ _ = k; generalize E8_6 _ _ _ _ _ _ _ _ _ = tu; generalize E8_7 _ _ _ _ _ _ _ _ _ = r; generalize E8_8 _ _ _ _ _ _ _ _ _ = l
  refine eps3 neT inferInstance inferInstance ?_; generalize E3_1 _ _ _ _ = rt; generalize E3_2 _ _ _ _ = D; generalize E3_3 _ _ _ _ = U
  intro hD hU IHl IHr
  refine eps8 inferInstance inferInstance inferInstance inferInstance inferInstance inferInstance inferInstance inferInstance ?_; generalize E8_1 _ _ _ _ _ _ _ _ _ = dp; generalize E8_2 _ _ _ _ _ _ _ _ _ = un; generalize E8_3 _ _ _ _ _ _ _ _ _ = gd; generalize E8_4 _ _ _ _ _ _ _ _ _ = cn; generalize E8_5 _ _ _ _ _ _ _ _ _ = cs; generalize E8_6 _ _ _ _ _ _ _ _ _ = a; generalize E8_7 _ _ _ _ _ _ _ _ _ = ccd; generalize E8_8 _ _ _ _ _ _ _ _ _ = cl
  refine eps8 inferInstance neA inferInstance inferInstance inferInstance inferInstance inferInstance neS ?_; generalize E8_1 _ _ _ _ _ _ _ _ _ = outer; generalize E8_2 _ _ _ _ _ _ _ _ _ = A₀; generalize E8_3 _ _ _ _ _ _ _ _ _ = base; generalize E8_4 _ _ _ _ _ _ _ _ _ = h₀; generalize E8_5 _ _ _ _ _ _ _ _ _ = L; generalize E8_6 _ _ _ _ _ _ _ _ _ = m; generalize E8_7 _ _ _ _ _ _ _ _ _ = news; generalize E8_8 _ _ _ _ _ _ _ _ _ = s
  refine eps3 inferInstance inferInstance inferInstance ?_; generalize E3_1 _ _ _ _ = Q; generalize E3_2 _ _ _ _ = E; generalize E3_3 _ _ _ _ = v
  intro hB hF hX hN hT hk hdp hu hv hret
  obtain ⟨b, n, t1, t2, t3, vl, vr, rfl, hm, hl, hr⟩ := hv
  have hN1 : News h₀ L s.heap ((b, tupO #[.int (k.val : Int) t1, .int (tn tu) t2, .int (r.val : Int) t3, vl, vr] n) :: news) := fun p hp => (List.mem_cons.mp hp).elim (fun e => e ▸ hN _ hm) (hN p)
  clear hN
  have ht0 : 0 ≤ tn tu := by unfold tn; split <;> omega
  have ht1 : tn tu ≤ 1 := by unfold tn; split <;> omega
  have hk3 : ((k.val : Nat) : Int) < 3 := by have := k.isLt; omega
  refine wpAny_call ?_
  k_dflt ((refine' code_defC ?k1 ?k2 ?k3 ?k4 ?k5 ?kA ?kF ?kK ?k6 ?k7 ?k8 ?k9 ?kB ?kD ?_ ?c2 ?c3 ?c4; (case kA => exact rfl); (case kF => exact rfl); (case kK => assumption); (case k1 => k_asm); (case k2 => k_asm); (case k3 => k_asm); (case k4 => k_asm); (case k5 => k_asm); (case k6 => k_is); (case k7 => k_is); (case k8 => ktr_room); (case k9 => exact BindsTo.of_eq rfl); (case kB => exact rfl); (case kD => decide +kernel); (case c2 => exact rfl); (case c3 => exact rfl); (case c4 => exact rfl); k_whole; intro g' L' h' tk' cells' FG' F' N' Y' B' X' T' l1; (try k_lt l1); k_cells Y'; (try simp only [List.cons_append, List.nil_append] at N'); (try dsimp only); (try k_lift B'); (try k_fold)))
  (with_reducible rename _ ∧ AllLt _ _ => hl1)
  obtain ⟨ap1, ap2, ap3, ap4, ap5⟩ := apart5 (allLt_all hl1.2)
  have hwl := WV_len l.mask
  have hwr := WV_len rt.mask
  (repeat' (first | (k_unfold; (try dsimp only)) | ((first | ((with_reducible show wpAny _ _ (binaryOp Operator.BitXor (Value.int _ _) (Value.int _ _)) _ _ _); (k_here; k_dflt (refine xor8 ?_))) | (k_here; (with_reducible show wpAny _ _ (call (Value.builtin "sum") [Value.ref _]) _ _ _); k_dflt (refine' sumN ?k0 ?k1 ?k2 ?k3 ?k4 ?_; (case k0 => rfl); (case k1 => k_asm); (case k2 => k_asm); (case k3 => k_mem); (case k4 => assumption)); intro h' tk' t' F' N') | (k_here; (with_reducible show wpAny _ _ (binaryOp Operator.Mult (Value.int (WVi _ _) _) (Value.int (WVi _ _) _)) _ _ _); k_dflt (refine mul_wv ?_)) | (k_here; (with_reducible show wpAny _ _ (subscriptTail _ _ (Value.ref _) (Value.int (Builtin.bitXor _ _) _)) _ _ _); k_dflt (refine' sub_wv ?k1 ?k2 ?k3 ?k4 ?k5 ?_; (case k1 => k_asm); (case k2 => k_mem); (case k3 => assumption); (case k4 => exact (xor_lt8 (by assumption) (by assumption) (by assumption) (by assumption)).1); (case k5 => exact (xor_lt8 (by assumption) (by assumption) (by assumption) (by assumption)).2)); intro tW) | (k_here; (with_reducible show wpAny _ _ (subscriptTail _ _ (Value.ref _) (Value.int _ _)) _ _ _); k_dflt (refine' sub_wv ?k1 ?k2 ?k3 ?k4 ?k5 ?_; (case k1 => k_asm); (case k2 => k_mem); (case k3 => assumption); (case k4 => assumption); (case k5 => assumption)); intro tW) | (k_here; (with_reducible show wpAny _ _ (subscriptTail _ _ (Value.ref _) (Value.int _ _)) _ _ _); k_dflt (refine' sub_any ?k1 ?k2 ?k3 ?kl ?k4 ?k5 ?_; (case k1 => k_asm); (case k2 => k_mem); (case k3 => assumption); (case kl => exact map8_len); (case k4 => assumption); (case k5 => assumption)); intro tW) | ((fail_if_success (with_reducible show wpAny _ _ _ _ _ _)); (k_here; k_dflt (refine' src8 _ ?b1 ?b2 ?b3 ?b4 (fun g' k' t' I' oI' C' oC' D' m' ys' h' tk' E' hlo' hhi' hC' hx' F' N' off' hMark' => ?_) (fun g' => ?_); (case b1 => rfl); (case b2 => k_asm); (case b3 => k_asm); (case b4 => assumption); kcf_last); all_goals (try dsimp only))) | ((fail_if_success (with_reducible show wpAny _ _ _ _ _ _)); (unfold TurnC; intro I' oI' C' oC' c' oc' D' m' ys' h' tk' E' hC' hcd' F' N' off' ne' hMark'; clear ne'; (try dsimp only))) | ((fail_if_success (with_reducible show wpAny _ _ _ _ _ _)); (k_here; k_dflt (refine' SrcC.r8 _ ?b1 ?b2 ?b3 ?b4 (fun g' k' t' hlo' hhi' => ?_) (fun g' => ?_); (case b1 => rfl); (case b2 => k_asm); (case b3 => k_asm); (case b4 => assumption); kcf_last); all_goals (try dsimp only))) | ((with_reducible show wpAny _ _ (eval (Expr.ListComp _ _ _ _) _) _ _ _); (k_here; k_dflt (refine ListComp_C (F₀ := by k_asm) (by with_unfolding_all rfl) (by intro n; rfl) (by intro h; rfl) (by rfl) (by decide) (by rfl) ?_))) | (k_here; (with_reducible show wpAny _ _ (call (Value.ref 251) [_]) _ _ _); (first | (refine' IHl (_ + 1) (_ + 3) _ _ _ _ _ _ _ _ _ _ _ _ _ _ _ _ vl ?k1 ?k2 ?k3 ?k4 ?k5 ?kK ?kd ?ku ?kT ?_) | (refine' IHr (_ + 1) (_ + 3) _ _ _ _ _ _ _ _ _ _ _ _ _ _ _ _ vr ?k1 ?k2 ?k3 ?k4 ?k5 ?kK ?kd ?ku ?kT ?_)); (case k1 => k_asm); (case k2 => k_asm); (case k3 => k_asm); (case k4 => k_asm); (case k5 => k_asm); (case kK => exact rfl); (case kd => (dsimp only [Around.deeper]; omega)); (case ku => (dsimp only [Around.deeper]; omega)); (case kT => first | exact TreeAt.mono (fun p hp => by (repeat (first | assumption | exact List.mem_cons_self .. | refine List.mem_cons_of_mem _ ?_))) hl | exact TreeAt.mono (fun p hp => by (repeat (first | assumption | exact List.mem_cons_self .. | refine List.mem_cons_of_mem _ ?_))) hr); intro DS vS kS hS tkS gS IS FS NS OS GS; (try simp only [LCg.Off1] at OS); dsimp only) | walk1); (try dsimp only)) | (dsimp only; (first | ((with_reducible show wpAny _ _ (binaryOp Operator.BitXor (Value.int _ _) (Value.int _ _)) _ _ _); (k_here; k_dflt (refine xor8 ?_))) | (k_here; (with_reducible show wpAny _ _ (call (Value.builtin "sum") [Value.ref _]) _ _ _); k_dflt (refine' sumN ?k0 ?k1 ?k2 ?k3 ?k4 ?_; (case k0 => rfl); (case k1 => k_asm); (case k2 => k_asm); (case k3 => k_mem); (case k4 => assumption)); intro h' tk' t' F' N') | (k_here; (with_reducible show wpAny _ _ (binaryOp Operator.Mult (Value.int (WVi _ _) _) (Value.int (WVi _ _) _)) _ _ _); k_dflt (refine mul_wv ?_)) | (k_here; (with_reducible show wpAny _ _ (subscriptTail _ _ (Value.ref _) (Value.int (Builtin.bitXor _ _) _)) _ _ _); k_dflt (refine' sub_wv ?k1 ?k2 ?k3 ?k4 ?k5 ?_; (case k1 => k_asm); (case k2 => k_mem); (case k3 => assumption); (case k4 => exact (xor_lt8 (by assumption) (by assumption) (by assumption) (by assumption)).1); (case k5 => exact (xor_lt8 (by assumption) (by assumption) (by assumption) (by assumption)).2)); intro tW) | (k_here; (with_reducible show wpAny _ _ (subscriptTail _ _ (Value.ref _) (Value.int _ _)) _ _ _); k_dflt (refine' sub_wv ?k1 ?k2 ?k3 ?k4 ?k5 ?_; (case k1 => k_asm); (case k2 => k_mem); (case k3 => assumption); (case k4 => assumption); (case k5 => assumption)); intro tW) | (k_here; (with_reducible show wpAny _ _ (subscriptTail _ _ (Value.ref _) (Value.int _ _)) _ _ _); k_dflt (refine' sub_any ?k1 ?k2 ?k3 ?kl ?k4 ?k5 ?_; (case k1 => k_asm); (case k2 => k_mem); (case k3 => assumption); (case kl => exact map8_len); (case k4 => assumption); (case k5 => assumption)); intro tW) | ((fail_if_success (with_reducible show wpAny _ _ _ _ _ _)); (k_here; k_dflt (refine' src8 _ ?b1 ?b2 ?b3 ?b4 (fun g' k' t' I' oI' C' oC' D' m' ys' h' tk' E' hlo' hhi' hC' hx' F' N' off' hMark' => ?_) (fun g' => ?_); (case b1 => rfl); (case b2 => k_asm); (case b3 => k_asm); (case b4 => assumption); kcf_last); all_goals (try dsimp only))) | ((fail_if_success (with_reducible show wpAny _ _ _ _ _ _)); (unfold TurnC; intro I' oI' C' oC' c' oc' D' m' ys' h' tk' E' hC' hcd' F' N' off' ne' hMark'; clear ne'; (try dsimp only))) | ((fail_if_success (with_reducible show wpAny _ _ _ _ _ _)); (k_here; k_dflt (refine' SrcC.r8 _ ?b1 ?b2 ?b3 ?b4 (fun g' k' t' hlo' hhi' => ?_) (fun g' => ?_); (case b1 => rfl); (case b2 => k_asm); (case b3 => k_asm); (case b4 => assumption); kcf_last); all_goals (try dsimp only))) | ((with_reducible show wpAny _ _ (eval (Expr.ListComp _ _ _ _) _) _ _ _); (k_here; k_dflt (refine ListComp_C (F₀ := by k_asm) (by with_unfolding_all rfl) (by intro n; rfl) (by intro h; rfl) (by rfl) (by decide) (by rfl) ?_))) | (k_here; (with_reducible show wpAny _ _ (call (Value.ref 251) [_]) _ _ _); (first | (refine' IHl (_ + 1) (_ + 3) _ _ _ _ _ _ _ _ _ _ _ _ _ _ _ _ vl ?k1 ?k2 ?k3 ?k4 ?k5 ?kK ?kd ?ku ?kT ?_) | (refine' IHr (_ + 1) (_ + 3) _ _ _ _ _ _ _ _ _ _ _ _ _ _ _ _ vr ?k1 ?k2 ?k3 ?k4 ?k5 ?kK ?kd ?ku ?kT ?_)); (case k1 => k_asm); (case k2 => k_asm); (case k3 => k_asm); (case k4 => k_asm); (case k5 => k_asm); (case kK => exact rfl); (case kd => (dsimp only [Around.deeper]; omega)); (case ku => (dsimp only [Around.deeper]; omega)); (case kT => first | exact TreeAt.mono (fun p hp => by (repeat (first | assumption | exact List.mem_cons_self .. | refine List.mem_cons_of_mem _ ?_))) hl | exact TreeAt.mono (fun p hp => by (repeat (first | assumption | exact List.mem_cons_self .. | refine List.mem_cons_of_mem _ ?_))) hr); intro DS vS kS hS tkS gS IS FS NS OS GS; (try simp only [LCg.Off1] at OS); dsimp only) | walk1)) | (leave1; (try dsimp only))))
  · (with_reducible rename IntsAre _ (List.map _ (rangeKs 0 8)) => hI9)
    have hI9 := wave_f1 (r := r) hI9 (by assumption) (by assumption)
    (with_reducible rename News h₀ L _ _ => kN2)
    exact hret _ _ _ _ _ _ hI9 (by k_asm) (fun p hp => (List.mem_cons.mp hp).elim (fun e => e ▸ kN2 _ (List.mem_cons_self ..)) fun hp => kN2 p (by (repeat (first | assumption | exact List.mem_cons_self .. | refine List.mem_cons_of_mem _ ?_)))) (by (with_reducible rename _ ≠ _ ∧ _ => o9); simp only [o9]) (GMore.trans (by assumption) GS)
  · (with_reducible rename IntsAre _ (List.map _ (rangeKs 0 8)) => hI9)
    have hI9 := wave_f2 (r := r) hI9 (by assumption) (by assumption)
    (with_reducible rename News h₀ L _ _ => kN2)
    exact hret _ _ _ _ _ _ hI9 (by k_asm) (fun p hp => (List.mem_cons.mp hp).elim (fun e => e ▸ kN2 _ (List.mem_cons_self ..)) fun hp => kN2 p (by (repeat (first | assumption | exact List.mem_cons_self .. | refine List.mem_cons_of_mem _ ?_)))) (by (with_reducible rename _ ≠ _ ∧ _ => o9); simp only [o9]) (GMore.trans (by assumption) GS)
  · (with_reducible rename IntsAre _ (List.map _ (rangeKs 0 8)) => hI9)
    have hI9 := wave_f3 (r := r) hI9 (by assumption) (by assumption)
    (with_reducible rename News h₀ L _ _ => kN2)
    exact hret _ _ _ _ _ _ hI9 (by k_asm) (fun p hp => (List.mem_cons.mp hp).elim (fun e => e ▸ kN2 _ (List.mem_cons_self ..)) fun hp => kN2 p (by (repeat (first | assumption | exact List.mem_cons_self .. | refine List.mem_cons_of_mem _ ?_)))) (by (with_reducible rename _ ≠ _ ∧ _ => o9); simp only [o9]) (GMore.trans (by assumption) GS)
  · (with_reducible rename IntsAre _ (List.map _ (rangeKs 0 8)) => hI9)
    have hI9 := wave_f4 (r := r) hI9 (by assumption) (by assumption)
    (with_reducible rename News h₀ L _ _ => kN2)
    exact hret _ _ _ _ _ _ hI9 (by k_asm) (fun p hp => (List.mem_cons.mp hp).elim (fun e => e ▸ kN2 _ (List.mem_cons_self ..)) fun hp => kN2 p (by (repeat (first | assumption | exact List.mem_cons_self .. | refine List.mem_cons_of_mem _ ?_)))) (by (with_reducible rename _ ≠ _ ∧ _ => o9); simp only [o9]) (GMore.trans (by assumption) GS)
theorem vclaim_mono {w : World} {mean : ExcName → Option Value} {mg mb : Str → Option Value} {f : Addr} {D U D' U' : Nat} {τ : T} {ns : List Int} (h : VClaim w mean mg mb f D U τ ns) (h1 : D ≤ D') (h2 : U ≤ U') : VClaim w mean mg mb f D' U' τ ns := by
  intro dp un gd cn cs a ccd cl outer A₀ base h₀ L m news s Q E v hB hF hX hN hT hk hdp hu hv hret
  exact h dp un gd cn cs a ccd cl outer A₀ base h₀ L m news s Q E v hB hF hX hN hT hk (by omega) (by omega) hv hret
theorem waves_c (w : World) (mean : ExcName → Option Value) (mg mb : Str → Option Value) : ∀ τ : T, VClaim w mean mg mb 251 (20 + τ.lv) (160 + 3 * τ.lv) τ (WV τ.mask)
  | .leaf i => vclaim_mono (wave_leaf w mean mg mb i) (by omega) (by omega)
  | .node k tu r l rt => by
    have hl := waves_c w mean mg mb l
    have hr := waves_c w mean mg mb rt
    have e : (T.node k tu r l rt).lv = (if tu = true then 2 else 1) + max l.lv rt.lv := rfl
    have e2 : 1 ≤ (if tu = true then 2 else 1 : Nat) := by split <;> decide
    refine vclaim_mono (wave_node w mean mg mb k tu r l rt (20 + max l.lv rt.lv) (160 + 3 * max l.lv rt.lv) (by omega) (by omega) (vclaim_mono hl ?_ ?_) (vclaim_mono hr ?_ ?_)) ?_ ?_ <;> omega
end Mine
end
section -- NCL
namespace Mine
theorem offNCL : True := by
  w_top off
  exact trivial
noncomputable abbrev NClaim (w : World) (mean : ExcName → Option Value) (mg mb : Str → Option Value) (f : Addr) (D U : Nat) (vs : List Value) (R : Tok → Value) : Prop :=
  ∀ (dp un : Nat) (gd : Option (List Code)) (cn : Str) (cs : Scope) (a : Addr) (ccd : Value) (cl : List (Str × Addr)) (outer : List Env) (A₀ : Around) (base h₀ : Heap) (L : Addr) (m : Str → Option Value) (news : List (Addr × Obj)) (s : Shared) (Q E : Value → Shared → Prop),
    Below A₀ base outer h₀ → Fr h₀ L s.heap m → (hd.heap_1 w.params).In h₀ → News h₀ L s.heap news → Top VW LO mean mg mb h₀ → cs.kind = .function → dp + D < recursionLimit → un + U < cLine →
    (∀ t h' tk', Fr h₀ L h' m → News h₀ L h' news → Q (R t) { s with heap := h', toks := tk' }) → wpAny (model PG w) (ktrTop dp un gd cn cs L a ccd cl outer) (call (.ref f) vs) Q E s
end Mine
end
section -- SUBST
namespace Mine
theorem offSUBST : True := by
  w_top off
  exact trivial
noncomputable def subI (x y : Str) : Int := if (x == y) = true then 0 else if (Txt.lower x == Txt.lower y) = true then 1 else 2
theorem subst_c (w : World) (mean : ExcName → Option Value) (mg mb : Str → Option Value) (x y : Str) (tx ty : Tok) (hx : x.length ≤ 1) (hy : y.length ≤ 1) : NClaim w mean mg mb 76 20 160 [.str x tx, .str y ty] (fun t => .int (subI x y) t) := by
  w_top off
  intro dp un gd cn cs a ccd cl outer A₀ base h₀ L m news s Q E hB hF hX hN hT hk hdp hu hret
  refine wpAny_call ?_
  k_dflt cell_enter
  (with_reducible rename Fr _ _ _ (fun y => List.lookup y _) => FE0); have FE := fr2 FE0; clear FE0; dsimp only at FE
  (repeat' (first | (k_unfold; (try dsimp only)) | walk1 | (dsimp only; walk1) | (leave1; (try dsimp only))))
  · (with_reducible rename (x == y) = true => h1)
    rw [show subI x y = 0 by unfold subI; rw [if_pos h1]] at hret
    exact hret _ _ _ (by k_asm) (by k_asm)
  · (with_reducible rename (x == y) = false => h1)
    (with_reducible rename (Txt.lower x == Txt.lower y) = true => h2)
    rw [show subI x y = 1 by unfold subI; rw [if_neg (by rw [h1]; decide), if_pos h2]] at hret
    exact hret _ _ _ (by k_asm) (by k_asm)
  · (with_reducible rename (x == y) = false => h1)
    (with_reducible rename (Txt.lower x == Txt.lower y) = false => h2)
    rw [show subI x y = 2 by unfold subI; rw [if_neg (by rw [h1]; decide), if_neg (by rw [h2]; decide)]] at hret
    exact hret _ _ _ (by k_asm) (by k_asm)
end Mine
end
section -- ONES
namespace Mine
theorem offONES : True := by
  w_top off
  exact trivial
theorem ones_c (w : World) (mean : ExcName → Option Value) (mg mb : Str → Option Value) (n : Int) (t : Tok) (h0 : 0 ≤ n) (h8 : n < 8) : NClaim w mean mg mb 263 20 160 [.int n t] (fun t => .int (Int.fmod n 2 + Int.fmod (Int.fdiv n 2) 2 + Int.fdiv n 4) t) := by
  w_top off
  intro dp un gd cn cs a ccd cl outer A₀ base h₀ L m news s Q E hB hF hX hN hT hk hdp hu hret
  refine wpAny_call ?_
  k_dflt cell_enter
  (with_reducible rename Fr _ _ _ (fun y => List.lookup y _) => FE0); have FE := fr1 FE0; clear FE0; dsimp only at FE
  (repeat' (first | (k_unfold; (try dsimp only)) | walk1 | (dsimp only; walk1) | (leave1; (try dsimp only))))
  exact hret _ _ _ (by k_asm) (by k_asm)
end Mine
end
section -- PAIRC
open PySem PySem.W PyProof.Rows PySem.Spec PySem.Calls
namespace Mine
theorem offPAIRC : True := by
  w_top off
  exact trivial
open PyProof.Rows.LCg
section
variable {prog : Program} {w : World} {A : Around} {E : Value → Shared → Prop} {s : Shared} {h₀ : Heap} {L : Addr} {m : Str → Option Value} {env : Env}
noncomputable def PEnd (h₀ : Heap) (L : Addr) (m : Str → Option Value) (s₂ : Shared) (all : List (Addr × Obj)) (R : Value → Prop) (z : Value) (s₅ : Shared) : Prop :=
  ∃ h' tk', s₅ = { s₂ with heap := h', toks := tk' } ∧ Fr h₀ L h' m ∧ News h₀ L h' all ∧ R z
theorem PEnd.mk {h₀ : Heap} {L : Addr} {m : Str → Option Value} {s₂ : Shared} {all : List (Addr × Obj)} {R : Value → Prop} {z : Value} {h' : Heap} {tk' : Nat} (F : Fr h₀ L h' m) (N : News h₀ L h' all) (hR : R z) : PEnd h₀ L m s₂ all R z { s₂ with heap := h', toks := tk' } := ⟨_, _, rfl, F, N, hR⟩
noncomputable def PSrc (prog : Program) (w : World) (A : Around) (h₀ : Heap) (L : Addr) (m : Str → Option Value) (env : Env) (elt : Expr) (a b : Str) (pa pb tp : Pos) (kk : Nat) (scope : Scope) (cl : List (Str × Addr)) (Q : Value → Shared → Prop) (it : Value) (s₂ : Shared) : Prop :=
  ∃ I fp wr n, ∃ Pt : Nat → Value → Value → Prop, ∃ Md St, ∃ J : Nat → List Value → Prop, ∃ news, it = .ref I ∧ KTurns prog w A (.Tuple [.Name a pa, .Name b pb] kk tp) I fp wr n (fun i v h => ∃ T x y, v = .ref T ∧ Pt i x y ∧ h.IsTuple T #[x, y]) Md St ∧
    A.handled = none ∧ n ≤ sizeLine ∧ St 0 s₂.heap ∧ (∀ b ∈ fp, b < s₂.heap.objs.size) ∧ L ∉ fp ∧ (∀ b ∈ wr, h₀.get? b = none) ∧ (∀ p ∈ news, p.1 ∉ wr) ∧ Fr h₀ L s₂.heap m ∧ News h₀ L s₂.heap news ∧ (∀ b ∈ wr, b ∈ fp) ∧
    (∀ (s : Shared) (Q : Value → Shared → Prop) (E : Value → Shared → Prop), St 0 s.heap → Q (.ref I) s → wpAny (model prog w) A (pyIter (.ref I)) Q E s) ∧ J 0 [] ∧
    (∀ i x y ys own C oC D m₂ h tk (E' : Value → Shared → Prop), i < n → Pt i x y → J i ys → NsObj oC m₂ → m₂ a = some x → m₂ b = some y → Fr h₀ L h m → News h₀ L h ((C, oC) :: (D, lst ys) :: (news ++ own)) →
      wpAny (model prog w) A (eval elt (compEnvC scope cl C env)) (PEnd h₀ L m s₂ ((C, oC) :: (D, lst ys) :: (news ++ own)) fun z => J (i + 1) (ys ++ [z])) E' { s₂ with heap := h, toks := tk }) ∧
    (∀ ys, J n ys → FinE h₀ L m s₂ Q ys news)
theorem pair_block {elt iter : PySem.Expr} {a b : Str} {pa pb tp : Pos} {kk : Nat} {scope : Scope} {cl : List (Str × Addr)} {pos : Pos} {Q : Value → Shared → Prop} {it : Value} {s₂ : Shared}
    (hcell : ∀ y ∈ scope.names, y.2 ≠ .cell) (hkind : scope.kind = .function) (hxa : scope.names.lookup a = some .local) (hxb : scope.names.lookup b = some .local) (hab : ¬ a = b)
    (h : PSrc prog w A h₀ L m env elt a b pa pb tp kk scope cl Q it s₂) :
    wpAny (model prog w) A (newList []) (fun acc s₃ => wpAny (model prog w) A (newFunctionEnv scope env.globals cl [] env.qual none .none (some env)) (fun cenv s₄ =>
      codeAny (model prog w) A (.compStart (.ListComp elt [⟨.Tuple [.Name a pa, .Name b pb] kk tp, iter, [], 0⟩] scope pos) 0 it acc { cenv with scope := relabel scope env }) (compPost (model prog w) A E none Q acc cenv.locals) s₄) E s₃) E s₂ := by
  revert hcell hkind hxa hxb hab h
  revert prog w A E h₀ L m env elt iter a b pa pb tp kk scope cl pos Q it s₂
  refine @eps8 _ _ _ _ _ _ _ _ inferInstance neW neA inferInstance inferInstance inferInstance inferInstance inferInstance _ ?_; generalize E8_1 _ _ _ _ _ _ _ _ _ = prog; generalize E8_2 _ _ _ _ _ _ _ _ _ = w; generalize E8_3 _ _ _ _ _ _ _ _ _ = A; generalize E8_4 _ _ _ _ _ _ _ _ _ = E; generalize E8_5 _ _ _ _ _ _ _ _ _ = h₀; generalize E8_6 _ _ _ _ _ _ _ _ _ = L; generalize E8_7 _ _ _ _ _ _ _ _ _ = m; generalize E8_8 _ _ _ _ _ _ _ _ _ = env
  refine @eps8 _ _ _ _ _ _ _ _ inferInstance inferInstance inferInstance inferInstance inferInstance inferInstance inferInstance inferInstance _ ?_; generalize E8_1 _ _ _ _ _ _ _ _ _ = elt; generalize E8_2 _ _ _ _ _ _ _ _ _ = iter; generalize E8_3 _ _ _ _ _ _ _ _ _ = a; generalize E8_4 _ _ _ _ _ _ _ _ _ = b; generalize E8_5 _ _ _ _ _ _ _ _ _ = pa; generalize E8_6 _ _ _ _ _ _ _ _ _ = pb; generalize E8_7 _ _ _ _ _ _ _ _ _ = tp; generalize E8_8 _ _ _ _ _ _ _ _ _ = kk
  refine @eps6 _ _ _ _ _ _ neC inferInstance inferInstance inferInstance inferInstance neS _ ?_; generalize E6_1 _ _ _ _ _ _ _ = scope; generalize E6_2 _ _ _ _ _ _ _ = cl; generalize E6_3 _ _ _ _ _ _ _ = pos; generalize E6_4 _ _ _ _ _ _ _ = Q; generalize E6_5 _ _ _ _ _ _ _ = it; generalize E6_6 _ _ _ _ _ _ _ = s₂
  intro hcell hkind hxa hxb hab h
  obtain ⟨I, fp, wr, n, Pt, Md, St, J, news, rfl, W, hh, hsz, hst, hfp, hLf, hwr, hnw, F, N, hsub, hself, hJ0, turn, fin⟩ := h
  refine wpAny_newObj_type (wpAny_newFunctionEnv hcell (by intro y hy; simp at hy) (fun h₁ hns₁ hsb₁ => ?_) hkind)
  dsimp only at hns₁ hsb₁ ⊢
  generalize hH2 : s₂.heap.push { cls := .type "list", dict := none, data := .seq ([] : List Value).toArray } = H2 at hns₁ hsb₁ ⊢
  have hC : H2.objs.size = s₂.heap.objs.size + 1 := by rw [← hH2, Heap.size_push]
  have hDC : s₂.heap.objs.size ≠ H2.objs.size := by rw [hC]; exact Nat.ne_of_lt (Nat.lt_succ_self _)
  have below : ∀ b, b < s₂.heap.objs.size → b ≠ H2.objs.size ∧ b ≠ s₂.heap.objs.size := fun b hb => ⟨by rw [hC]; exact Nat.ne_of_lt (Nat.lt_succ_of_lt hb), Nat.ne_of_lt hb⟩
  have hDf : s₂.heap.objs.size ∉ fp := fun hm => Nat.lt_irrefl _ (hfp _ hm)
  have hCf : H2.objs.size ∉ fp := fun hm => by have := hfp _ hm; rw [hC] at this; exact Nat.lt_irrefl _ (Nat.lt_of_succ_lt this)
  have old : ∀ b o, s₂.heap.get? b = some o → h₁.get? b = some o := fun b o e => hsb₁.extBut b o (below b (Heap.lt_size e)).1 (Heap.get?_push_of_some _ (hH2 ▸ Heap.get?_push_of_some _ e))
  have hacc : h₁.get? s₂.heap.objs.size = some (lst []) := hsb₁.extBut _ _ hDC (Heap.get?_push_of_some _ (hH2 ▸ Heap.get?_push_size _ rfl))
  have hst₁ : St 0 h₁ := W.frame _ _ _ hst fun b _ o e => old b o e
  have fresh : ∀ a, s₂.heap.objs.size ≤ a → s₂.heap.get? a = none := fun a ha => by
    cases e : s₂.heap.get? a with
    | none => rfl
    | some o' => exact absurd (Heap.lt_size e) (Nat.not_lt.mpr ha)
  have fresh₀ : ∀ a, s₂.heap.objs.size ≤ a → h₀.get? a = none := fun a ha => by
    cases e : h₀.get? a with
    | none => rfl
    | some o' => have := F.keep a o' e; rw [fresh a ha] at this; cases this
  have hD₀ : h₀.get? s₂.heap.objs.size = none := fresh₀ _ (Nat.le_refl _)
  have hC₀ : h₀.get? H2.objs.size = none := fresh₀ _ (by rw [hC]; exact Nat.le_succ _)
  have hLlt : L < s₂.heap.objs.size := F.ns.lt
  have hDL : s₂.heap.objs.size ≠ L := Ne.symm (below L hLlt).2
  have hCL : H2.objs.size ≠ L := Ne.symm (below L hLlt).1
  have hLw : L ∉ wr := fun h => hLf (hsub _ h)
  have hDw : s₂.heap.objs.size ∉ wr := fun h => hDf (hsub _ h)
  have hCw : H2.objs.size ∉ wr := fun h => hCf (hsub _ h)
  have oldw : ∀ b o, h₀.get? b = some o → b ∉ wr := fun b o e hb => by rw [hwr b hb] at e; cases e
  have off₀ : ∀ p ∈ news, p.1 ≠ H2.objs.size ∧ p.1 ≠ s₂.heap.objs.size := fun p hp => below _ (Heap.lt_size (N p hp).1)
  have loop : ∀ s₃ : Shared, s₃ = { s₂ with heap := h₁, toks := s₂.toks + ([] : List (Str × Value)).length } →
      codeAny (model prog w) A (.compLoop (.ListComp elt [⟨.Tuple [.Name a pa, .Name b pb] kk tp, iter, [], 0⟩] scope pos) 0 (.ref I) (.ref s₂.heap.objs.size) (compEnvC scope cl H2.objs.size env))
        (compPost (model prog w) A E none Q (.ref s₂.heap.objs.size) H2.objs.size) s₃ := by
    rintro s₃ rfl
    refine kcp_loop
      (fun k s' => ∃ h' tk i ys m', s' = { s₂ with heap := h', toks := tk } ∧ i ≤ n ∧ k = n + 1 - i ∧ ys.length = i ∧ St i h' ∧ Fr h₀ L h' m ∧ h'.Ns H2.objs.size m' ∧ News h₀ L h' ((s₂.heap.objs.size, lst ys) :: news) ∧ J i ys) ?_ (n + 1)
      ⟨h₁, _, 0, [], _, rfl, Nat.zero_le _, rfl, rfl, hst₁, F.keeps old, hns₁, fun p hp => ?_, hJ0⟩
    · rintro k s' ⟨h', tk, i, ys, m', rfl, hi, rfl, hyl, hst', F', hn', N', hJ⟩
      by_cases hlt : i < n
      · refine W.item i _ _ _ hlt hst' fun v h₂ tk₂ hMd hk₂ => ?_
        refine W.go i v _ _ _ hMd fun h₃ hP hst₃ hk₃ => ?_
        obtain ⟨T, x, y, rfl, hPt, hT⟩ := hP
        have up₃ : ∀ c o, c ∉ wr → h'.get? c = some o → h₃.get? c = some o := fun c o hc e => hk₃ c o hc (hk₂ c o hc e)
        refine kcp_assign (env := compEnvC scope cl H2.objs.size env) hh hT (lookup_relabel_local hxa) (lookup_relabel_local hxb) (by simp [compEnvC, relabel, hkind]) (hn'.at' fun o e => up₃ _ o hCw e) fun h₄ tk₄ hn₄ hs₄ => ?_
        have up : ∀ c o, c ∉ wr → c ≠ H2.objs.size → h'.get? c = some o → h₄.get? c = some o := fun c o h1 h2 e => hs₄ c o h2 (up₃ c o h1 e)
        have hst₄ : St (i + 1) h₄ := W.frame _ _ _ hst₃ fun b hb o e => hs₄ b o (fun q => hCf (by have q' : b = H2.objs.size := q; rw [← q']; exact hb)) e
        obtain ⟨oC, heC, hoC⟩ := ns_obj hn₄
        have F₄ : Fr h₀ L h₄ m := ⟨F'.ns.at' fun o e => up _ o hLw (Ne.symm hCL) e, fun c o e => up c o (oldw c o e) (fun q => by rw [q, hC₀] at e; cases e) (F'.keep c o e), F'.above⟩
        have Nown : News h₀ L h₄ (PyProof.Rows.ownOf h₀ fp h₄) := news_ownOf hLf
        have N₄ : News h₀ L h₄ ((H2.objs.size, oC) :: (s₂.heap.objs.size, lst ys) :: (news ++ PyProof.Rows.ownOf h₀ fp h₄)) := fun q hq => by
          rcases List.mem_cons.mp hq with rfl | hq
          · exact ⟨heC, hCL, hC₀⟩
          · rcases List.mem_cons.mp hq with rfl | hq
            · have z := N' _ (List.mem_cons_self ..)
              exact ⟨up _ _ hDw hDC z.1, z.2⟩
            · rcases List.mem_append.mp hq with hq | hq
              · have z := N' q (List.mem_cons_of_mem _ hq)
                exact ⟨up _ _ (hnw q hq) (off₀ q hq).1 z.1, z.2⟩
              · exact Nown q hq
        refine wpAny_mono (turn i x y ys _ H2.objs.size oC s₂.heap.objs.size _ h₄ _ _ hlt hPt hJ hoC (by simp [hab]) (by simp) F₄ N₄) (fun z s₅ h₅ => ?_) fun _ _ e => e
        obtain ⟨h₅, tk₅, rfl, F₅, N₅, hJ₅⟩ := h₅
        have zC := (N₅ (H2.objs.size, oC) List.mem_cons_self).1
        have zD := (N₅ (s₂.heap.objs.size, lst ys) (List.mem_cons_of_mem _ List.mem_cons_self)).1
        have hst₅ : St (i + 1) h₅ := by
          refine W.frame _ _ _ hst₄ fun b hb o e => ?_
          cases hn : h₀.get? b with
          | some o₀ =>
            have : o₀ = o := by have q := F₄.keep b o₀ hn; rw [e] at q; exact (Option.some.inj q).symm
            exact this ▸ F₅.keep b o₀ hn
          | none => exact (N₅ _ (List.mem_cons_of_mem _ (List.mem_cons_of_mem _ (List.mem_append_right _ (mem_ownOf hb hn e))))).1
        refine append_at (hsz := by show ys.toArray.size ≤ sizeLine; rw [List.size_toArray, hyl]; exact Nat.le_trans hi hsz) zD fun h₆ hs₆ hD₆ => ?_
        refine ⟨n + 1 - (i + 1), by omega, h₆, tk₅, i + 1, ys ++ [z], _, rfl, hlt, rfl, by rw [List.length_append, List.length_singleton, hyl], W.frame _ _ _ hst₅ fun b hb o e => hs₆.extBut b o (fun q => hDf (q ▸ hb)) e, F₅.change hs₆ hDL hD₀,
          (hoC.ns zC).sameBut hs₆ (Ne.symm hDC), fun q hq => ?_, hJ₅⟩
        rcases List.mem_cons.mp hq with rfl | hq
        · exact ⟨hD₆.trans (congrArg some (lst_snoc ys z)), hDL, hD₀⟩
        · have z := N₅ q (List.mem_cons_of_mem _ (List.mem_cons_of_mem _ (List.mem_append_left _ hq)))
          exact ⟨hs₆.extBut _ _ (off₀ q hq).2 z.1, z.2⟩
      · have hin : i = n := Nat.le_antisymm hi (Nat.not_lt.mp hlt)
        subst hin
        refine W.done _ _ _ hst' fun h₂ tk₂ hk₂ => ?_
        have F₂ : Fr h₀ L h₂ m := ⟨F'.ns.at' fun o e => hk₂ _ o hLw e, fun c o e => hk₂ c o (oldw c o e) (F'.keep c o e), F'.above⟩
        refine ⟨m', hn'.at' fun o e => hk₂ _ o hCw e, fun h'' hs'' => fin ys hJ _ h'' tk₂ (F₂.change hs'' hCL hC₀) (fun p hp => ?_) ?_⟩
        · rcases List.mem_cons.mp hp with rfl | hp
          · have z := N' _ (List.mem_cons_self ..)
            exact ⟨hs''.extBut _ _ hDC (hk₂ _ _ hDw z.1), z.2⟩
          · have z := N' p (List.mem_cons_of_mem _ hp)
            exact ⟨hs''.extBut _ _ (off₀ p hp).1 (hk₂ _ _ (hnw p hp) z.1), z.2⟩
        · exact Off3.one (I := H2.objs.size) (C := H2.objs.size) (Off3.of fun p hp => ⟨(off₀ p hp).1, (off₀ p hp).1, (off₀ p hp).2⟩)
    · rcases List.mem_cons.mp hp with rfl | hp
      · exact ⟨hacc, hDL, hD₀⟩
      · exact ⟨old _ _ (N p hp).1, (N p hp).2⟩
  exact codeAny_compStart_list (loop _ rfl) (hself _ _ _ hst₁ (loop _ rfl))
theorem ListComp_E {elt iter : PySem.Expr} {a b : Str} {pa pb tp : Pos} {kk : Nat} {scope : Scope} {cl : List (Str × Addr)} {pos : Pos} {Q : Value → Shared → Prop} (_F₀ : Fr h₀ L s.heap m)
    (hclos : closureFor scope env = pure cl) (hcell : ∀ y ∈ scope.names, y.2 ≠ .cell) (hkind : scope.kind = .function)
    (hnames : ∀ y ∈ scope.names, y.2 = .local → scope.names.lookup y.1 = some .local) (hxa : scope.names.lookup a = some .local) (hxb : scope.names.lookup b = some .local) (hab : ¬ a = b)
    (h : wpAny (model prog w) A (eval iter env) (fun xv s₁ => wpAny (model prog w) A (pyIter xv) (fun it s₂ => PSrc prog w A h₀ L m env elt a b pa pb tp kk scope cl Q it s₂) E s₁) E s)
    (hs : ∀ x, foldedSetIterable iter env x = pure x := by intro _; rfl) :
    wpAny (model prog w) A (eval (.ListComp elt [⟨.Tuple [.Name a pa, .Name b pb] kk tp, iter, [], 0⟩] scope pos) env) Q E s := by
  rw [eval_ListComp]
  exact wpAny_comprehension_free (use := none) rfl hs hclos hkind hnames (wpAny_mono h (fun xv s₁ h₁ => wpAny_mono h₁ (fun it s₂ h₂ => pair_block hcell hkind hxa hxb hab h₂) fun _ _ e => e) fun _ _ e => e)
theorem kturns_mono {target : Expr} {I : Addr} {fp wr : List Addr} {n : Nat} {P P' Md : Nat → Value → Heap → Prop} {St : Nat → Heap → Prop} (W : KTurns prog w A target I fp wr n P Md St) (hP : ∀ i v h, P i v h → P' i v h) : KTurns prog w A target I fp wr n P' Md St :=
  { sub := W.sub, frame := W.frame, item := W.item, go := fun i v s Q E hm hQ => W.go i v s Q E hm fun h' hp => hQ h' (hP _ _ _ hp), done := W.done }
theorem enum_abc {elt : PySem.Expr} {a b : Str} {pa pb tp : Pos} {kk : Nat} {scope : Scope} {cl : List (Str × Addr)} {Q : Value → Shared → Prop} {t : Tok} {news : List (Addr × Obj)} (J : Nat → List Value → Prop)
    (hh : A.handled = none) (F : Fr h₀ L s.heap m) (N : News h₀ L s.heap news) (hJ0 : J 0 [])
    (turn : ∀ g' i t u ys own C oC D m₂ h tk (E' : Value → Shared → Prop), i < 3 → J i ys → NsObj oC m₂ → m₂ a = some (.int ((i : Nat) : Int) t) → m₂ b = some (.str ⟨#[97 + i]⟩ u) → Fr h₀ L h m → News h₀ L h ((C, oC) :: (D, lst ys) :: (news ++ own)) →
      wpAny (model prog w) A (eval elt (compEnvC scope cl C env)) (PEnd h₀ L m { s with heap := g' } ((C, oC) :: (D, lst ys) :: (news ++ own)) fun z => J (i + 1) (ys ++ [z])) E' { s with heap := h, toks := tk })
    (fin : ∀ g' ys, J 3 ys → FinE h₀ L m { s with heap := g' } Q ys news) :
    wpAny (model prog w) A (call (.type "enumerate") [.str (Str.ofString "abc") t]) (fun xv s₁ => wpAny (model prog w) A (pyIter xv) (fun it s₂ => PSrc prog w A h₀ L m env elt a b pa pb tp kk scope cl Q it s₂) E s₁) E s := by
  revert hh F N hJ0 turn fin
  revert prog w A E s h₀ L m env elt a b pa pb tp kk scope cl Q t news J
  refine @eps8 _ _ _ _ _ _ _ _ inferInstance neW neA inferInstance neS inferInstance inferInstance inferInstance _ ?_; generalize E8_1 _ _ _ _ _ _ _ _ _ = prog; generalize E8_2 _ _ _ _ _ _ _ _ _ = w; generalize E8_3 _ _ _ _ _ _ _ _ _ = A; generalize E8_4 _ _ _ _ _ _ _ _ _ = E; generalize E8_5 _ _ _ _ _ _ _ _ _ = s; generalize E8_6 _ _ _ _ _ _ _ _ _ = h₀; generalize E8_7 _ _ _ _ _ _ _ _ _ = L; generalize E8_8 _ _ _ _ _ _ _ _ _ = m
  refine @eps8 _ _ _ _ _ _ _ _ inferInstance inferInstance inferInstance inferInstance inferInstance inferInstance inferInstance inferInstance _ ?_; generalize E8_1 _ _ _ _ _ _ _ _ _ = env; generalize E8_2 _ _ _ _ _ _ _ _ _ = elt; generalize E8_3 _ _ _ _ _ _ _ _ _ = a; generalize E8_4 _ _ _ _ _ _ _ _ _ = b; generalize E8_5 _ _ _ _ _ _ _ _ _ = pa; generalize E8_6 _ _ _ _ _ _ _ _ _ = pb; generalize E8_7 _ _ _ _ _ _ _ _ _ = tp; generalize E8_8 _ _ _ _ _ _ _ _ _ = kk
  refine @eps6 _ _ _ _ _ _ neC inferInstance inferInstance inferInstance inferInstance inferInstance _ ?_; generalize E6_1 _ _ _ _ _ _ _ = scope; generalize E6_2 _ _ _ _ _ _ _ = cl; generalize E6_3 _ _ _ _ _ _ _ = Q; generalize E6_4 _ _ _ _ _ _ _ = t; generalize E6_5 _ _ _ _ _ _ _ = news; generalize E6_6 _ _ _ _ _ _ _ = J
  intro hh F N hJ0 turn fin
  refine call_enumerate_str fun h' hE hI hsz hk => ?_
  refine wpAny_pyIter_enum hE ?_
  have hty : strIterType (Str.ofString "abc") = "str_ascii_iterator" := by decide +kernel
  rw [hty] at hI
  have hsz3 : (Str.ofString "abc").cps.size = 3 := by decide +kernel
  have hLs : L < s.heap.objs.size := F.ns.lt
  have hne : s.heap.objs.size + 1 ≠ s.heap.objs.size := Nat.succ_ne_self _
  have W0 := (WalksT.enumerateD (Draws.strAscii (prog := prog) (w := w) (A := A.in1) hh s.heap.objs.size (Str.ofString "abc") t) (s.heap.objs.size + 1) hne (by simp) (by simp)).toU
  have W := kturns_mono (P' := fun i v h => ∃ T x y, v = .ref T ∧ ((∃ t, x = .int ((i : Nat) : Int) t) ∧ (∃ u, y = .str ⟨#[97 + i]⟩ u)) ∧ h.IsTuple T #[x, y]) (KTurns.ofWalksU (elts := [.Name a pa, .Name b pb]) (k := kk) (pos := tp) W0) (by
    rintro i v h ⟨T, vals, rfl, ⟨t', x, ⟨c, u, hc, rfl⟩, rfl⟩, hT⟩
    refine ⟨T, _, _, rfl, ⟨⟨t', rfl⟩, u, ?_⟩, hT⟩
    have h3 : i < 3 := by
      have := (Array.getElem?_eq_some_iff.mp hc).1
      omega
    have e : (Str.ofString "abc").cps = #[97, 98, 99] := by decide +kernel
    rw [e] at hc
    have : i = 0 ∨ i = 1 ∨ i = 2 := by omega
    rcases this with rfl | rfl | rfl
    · have : 97 = c := by simpa using hc
      rw [← this]
    · have : 98 = c := by simpa using hc
      rw [← this]
    · have : 99 = c := by simpa using hc
      rw [← this])
  refine ⟨s.heap.objs.size + 1, _, _, _, fun i x y => (∃ t, x = .int ((i : Nat) : Int) t) ∧ (∃ u, y = .str ⟨#[97 + i]⟩ u), _, _, J, news, rfl, W, hh, by rw [hsz3]; exact Nat.le_of_ble_eq_true rfl, ⟨⟨_, hE⟩, hI⟩, ?_, ?_, ?_, ?_, F.keeps hk, N.grown hk, fun b hb => hb, ?_, hJ0, ?_, ?_⟩
  · intro b hb
    show b < h'.objs.size
    rw [hsz]
    rcases List.mem_cons.mp hb with rfl | hb
    · exact Nat.lt_succ_self _
    · rw [List.mem_singleton.mp hb]; exact Nat.lt_succ_of_lt (Nat.lt_succ_self _)
  · intro hm
    rcases List.mem_cons.mp hm with e | hm
    · exact Nat.ne_of_lt (Nat.lt_succ_of_lt hLs) e
    · exact Nat.ne_of_lt hLs (List.mem_singleton.mp hm)
  · intro b hb
    rcases List.mem_cons.mp hb with rfl | hb
    · exact ktu_new F (Nat.le_succ _)
    · rw [List.mem_singleton.mp hb]; exact ktu_new F (Nat.le_refl _)
  · intro p hp hm
    have hlp := Heap.lt_size (N p hp).1
    rcases List.mem_cons.mp hm with e | hm
    · exact Nat.ne_of_lt (Nat.lt_succ_of_lt hlp) e
    · exact Nat.ne_of_lt hlp (List.mem_singleton.mp hm)
  · rintro s' Q' E' ⟨⟨o, he⟩, _⟩ hq
    exact wpAny_pyIter_enum he hq
  · rintro i x y ys own C oC D m₂ h tk E' hi ⟨⟨t', rfl⟩, u, rfl⟩ hJ hoC ha hb F₁ N₁
    exact turn h' i t' u ys own C oC D m₂ h tk E' (by rw [hsz3] at hi; exact hi) hJ hoC ha hb F₁ N₁
  · intro ys hJ
    rw [hsz3] at hJ
    exact fin h' ys hJ
end
end Mine
end
section -- WORD
namespace Mine
theorem offWORD : True := by
  w_top off
  exact trivial
local macro_rules | `(tactic| k_all) => `(tactic| assumption)
noncomputable def upc (n i : Nat) : Str := if n.testBit i = true then ⟨#[65 + i]⟩ else ⟨#[97 + i]⟩
noncomputable def JW (n i : Nat) (ys : List Value) : Prop := StrsAre ys ((List.range i).map (upc n))
theorem bit_at : ∀ n, n < 8 → ∀ i, i < 3 → ((Builtin.bitAnd ((n : Nat) : Int) (1 * 2 ^ ((i : Nat) : Int).toNat) = 0) ↔ n.testBit i = false) := by decide +kernel
theorem up_at : ∀ i, i < 3 → Txt.upper ⟨#[97 + i]⟩ = ⟨#[65 + i]⟩ := by decide +kernel
theorem jw_up {n i : Nat} {ys : List Value} {t : Tok} (hJ : JW n i ys) (hn : n < 8) (hi : i < 3) (h : Builtin.bitAnd ((n : Nat) : Int) (1 * 2 ^ ((i : Nat) : Int).toNat) ≠ 0) : JW n (i + 1) (ys ++ [.str (Txt.upper ⟨#[97 + i]⟩) t]) := by
  have e : upc n i = Txt.upper ⟨#[97 + i]⟩ := by
    unfold upc
    rw [up_at i hi, if_pos]
    cases hb : n.testBit i with
    | true => rfl
    | false => exact absurd ((bit_at n hn i hi).mpr hb) h
  unfold JW
  rw [List.range_succ, List.map_append, List.map_singleton, e]
  exact strsAre_snoc hJ
theorem jw_lo {n i : Nat} {ys : List Value} {t : Tok} (hJ : JW n i ys) (hn : n < 8) (hi : i < 3) (h : Builtin.bitAnd ((n : Nat) : Int) (1 * 2 ^ ((i : Nat) : Int).toNat) = 0) : JW n (i + 1) (ys ++ [.str ⟨#[97 + i]⟩ t]) := by
  have e : upc n i = ⟨#[97 + i]⟩ := by
    unfold upc
    rw [(bit_at n hn i hi).mp h]
    rfl
  unfold JW
  rw [List.range_succ, List.map_append, List.map_singleton, e]
  exact strsAre_snoc hJ
noncomputable def wordS (n : Nat) : Str := Txt.join (Str.ofString "") ((List.range 3).map (upc n))
theorem upc_len (n i : Nat) : (upc n i).length = 1 := by unfold upc; split <;> rfl
theorem word_c (w : World) (mean : ExcName → Option Value) (mg mb : Str → Option Value) (n : Nat) (hn : n < 8) (t : Tok) : NClaim w mean mg mb 256 20 160 [.int (n : Int) t] (fun t => .str (wordS n) t) := by
  w_top off
  revert w mean mg mb n t
  refine eps5 neW inferInstance inferInstance inferInstance inferInstance ?_; generalize E5_1 _ _ _ _ _ _ = w; generalize E5_2 _ _ _ _ _ _ = mean; generalize E5_3 _ _ _ _ _ _ = mg; generalize E5_4 _ _ _ _ _ _ = mb; generalize E5_5 _ _ _ _ _ _ = n
  intro hn
  refine eps1 inferInstance ?_; generalize E1 _ _ = t
  refine eps8 inferInstance inferInstance inferInstance inferInstance inferInstance inferInstance inferInstance inferInstance ?_; generalize E8_1 _ _ _ _ _ _ _ _ _ = dp; generalize E8_2 _ _ _ _ _ _ _ _ _ = un; generalize E8_3 _ _ _ _ _ _ _ _ _ = gd; generalize E8_4 _ _ _ _ _ _ _ _ _ = cn; generalize E8_5 _ _ _ _ _ _ _ _ _ = cs; generalize E8_6 _ _ _ _ _ _ _ _ _ = a; generalize E8_7 _ _ _ _ _ _ _ _ _ = ccd; generalize E8_8 _ _ _ _ _ _ _ _ _ = cl
  refine eps8 inferInstance neA inferInstance inferInstance inferInstance inferInstance inferInstance neS ?_; generalize E8_1 _ _ _ _ _ _ _ _ _ = outer; generalize E8_2 _ _ _ _ _ _ _ _ _ = A₀; generalize E8_3 _ _ _ _ _ _ _ _ _ = base; generalize E8_4 _ _ _ _ _ _ _ _ _ = h₀; generalize E8_5 _ _ _ _ _ _ _ _ _ = L; generalize E8_6 _ _ _ _ _ _ _ _ _ = m; generalize E8_7 _ _ _ _ _ _ _ _ _ = news; generalize E8_8 _ _ _ _ _ _ _ _ _ = s
  refine eps2 inferInstance inferInstance ?_; generalize E2_1 _ _ _ = Q; generalize E2_2 _ _ _ = E
  intro hB hF hX hN hT hk hdp hu hret
  refine wpAny_call ?_
  k_dflt ((refine' code_defC ?k1 ?k2 ?k3 ?k4 ?k5 ?kA ?kF ?kK ?k6 ?k7 ?k8 ?k9 ?kB ?kD ?_ ?c2 ?c3 ?c4; (case kA => exact rfl); (case kF => exact rfl); (case kK => assumption); (case k1 => k_asm); (case k2 => k_asm); (case k3 => k_asm); (case k4 => k_asm); (case k5 => k_asm); (case k6 => k_is); (case k7 => k_is); (case k8 => ktr_room); (case k9 => exact BindsTo.of_eq rfl); (case kB => exact rfl); (case kD => decide +kernel); (case c2 => exact rfl); (case c3 => exact rfl); (case c4 => exact rfl); k_whole; intro g' L' h' tk' cells' FG' F' N' Y' B' X' T' l1; (try k_lt l1); k_cells Y'; (try simp only [List.cons_append, List.nil_append] at N'); (try dsimp only); (try k_lift B'); (try k_fold)))
  (with_reducible rename ∀ p ∈ news, _ => hl1)
  obtain ⟨ap1, ap2, ap3, ap4, ap5⟩ := apart5 hl1
  (with_reducible rename _ = Data.cell _ => dn)
  have dn2 : _ = Data.cell (some (Value.int (n : Int) t)) := dn
  clear dn
  have hn8 : (n : Int) < 8 := by omega
  have hn0 : (0 : Int) ≤ (n : Int) := by omega
  clear ap1 ap2 ap3 ap4 ap5
  iterate 14 (first | ((with_reducible show wpAny _ _ (eval (Expr.ListComp _ _ _ _) _) _ _ _); (k_here; k_dflt (refine ListComp_E (by k_asm) (by with_unfolding_all rfl) (by decide) (by rfl) (by decide) (by rfl) (by rfl) (by decide) ?_))) | walk1)
  try dsimp only
  k_here
  refine' enum_abc (JW n) ?h0 ?F ?N ?j0 ?turn ?fin
  case h0 => rfl
  case F => k_asm
  case N => k_asm
  case j0 => exact .nil
  case turn =>
    intro gE i ti ui ys own C oC D m₂ hE tkE E' hi hJ hoC ha hb F1 N1
    simp only [List.cons_append] at N1
    try dsimp only
    have hi3 : ((i : Nat) : Int) < 3 := by omega
    have hi0 : (0 : Int) ≤ ((i : Nat) : Int) := by omega
    (repeat' (first | (k_unfold; (try dsimp only)) | (first | ((with_reducible show wpAny _ _ (eval (Expr.ListComp _ _ _ _) _) _ _ _); (k_here; k_dflt (refine ListComp_E (by k_asm) (by with_unfolding_all rfl) (by decide) (by rfl) (by decide) (by rfl) (by rfl) (by decide) ?_))) | walk1) | (dsimp only; (first | ((with_reducible show wpAny _ _ (eval (Expr.ListComp _ _ _ _) _) _ _ _); (k_here; k_dflt (refine ListComp_E (by k_asm) (by with_unfolding_all rfl) (by decide) (by rfl) (by decide) (by rfl) (by rfl) (by decide) ?_))) | walk1)) | (leave1; (try dsimp only))))
    · have h3 : i = 0 ∨ i = 1 ∨ i = 2 := by omega
      rcases h3 with rfl | rfl | rfl
      · (repeat' (first | (k_unfold; (try dsimp only)) | (first | ((with_reducible show wpAny _ _ (eval (Expr.ListComp _ _ _ _) _) _ _ _); (k_here; k_dflt (refine ListComp_E (by k_asm) (by with_unfolding_all rfl) (by decide) (by rfl) (by decide) (by rfl) (by rfl) (by decide) ?_))) | walk1) | (dsimp only; (first | ((with_reducible show wpAny _ _ (eval (Expr.ListComp _ _ _ _) _) _ _ _); (k_here; k_dflt (refine ListComp_E (by k_asm) (by with_unfolding_all rfl) (by decide) (by rfl) (by decide) (by rfl) (by rfl) (by decide) ?_))) | walk1)) | (leave1; (try dsimp only))))
        exact PEnd.mk F1 N1 (jw_up hJ hn hi (by assumption))
      · (repeat' (first | (k_unfold; (try dsimp only)) | (first | ((with_reducible show wpAny _ _ (eval (Expr.ListComp _ _ _ _) _) _ _ _); (k_here; k_dflt (refine ListComp_E (by k_asm) (by with_unfolding_all rfl) (by decide) (by rfl) (by decide) (by rfl) (by rfl) (by decide) ?_))) | walk1) | (dsimp only; (first | ((with_reducible show wpAny _ _ (eval (Expr.ListComp _ _ _ _) _) _ _ _); (k_here; k_dflt (refine ListComp_E (by k_asm) (by with_unfolding_all rfl) (by decide) (by rfl) (by decide) (by rfl) (by rfl) (by decide) ?_))) | walk1)) | (leave1; (try dsimp only))))
        exact PEnd.mk F1 N1 (jw_up hJ hn hi (by assumption))
      · (repeat' (first | (k_unfold; (try dsimp only)) | (first | ((with_reducible show wpAny _ _ (eval (Expr.ListComp _ _ _ _) _) _ _ _); (k_here; k_dflt (refine ListComp_E (by k_asm) (by with_unfolding_all rfl) (by decide) (by rfl) (by decide) (by rfl) (by rfl) (by decide) ?_))) | walk1) | (dsimp only; (first | ((with_reducible show wpAny _ _ (eval (Expr.ListComp _ _ _ _) _) _ _ _); (k_here; k_dflt (refine ListComp_E (by k_asm) (by with_unfolding_all rfl) (by decide) (by rfl) (by decide) (by rfl) (by rfl) (by decide) ?_))) | walk1)) | (leave1; (try dsimp only))))
        exact PEnd.mk F1 N1 (jw_up hJ hn hi (by assumption))
    · exact PEnd.mk F1 N1 (jw_lo hJ hn hi (by assumption))
  case fin =>
    intro gE ys hJ
    unfold LCg.FinE
    intro D hE tkE F1 N1 O1
    try dsimp only
    (repeat' (first | (k_unfold; (try dsimp only)) | (first | ((with_reducible show wpAny _ _ (eval (Expr.ListComp _ _ _ _) _) _ _ _); (k_here; k_dflt (refine ListComp_E (by k_asm) (by with_unfolding_all rfl) (by decide) (by rfl) (by decide) (by rfl) (by rfl) (by decide) ?_))) | walk1) | (dsimp only; (first | ((with_reducible show wpAny _ _ (eval (Expr.ListComp _ _ _ _) _) _ _ _); (k_here; k_dflt (refine ListComp_E (by k_asm) (by with_unfolding_all rfl) (by decide) (by rfl) (by decide) (by rfl) (by rfl) (by decide) ?_))) | walk1)) | (leave1; (try dsimp only))))
    refine join_N (items := ys.toArray) (n := ys.length) (by k_asm) (ys := (List.range 3).map (upc n)) (by exact hJ) rfl ?_ (by simp) fun t' k => ?_
    · intro x hx
      obtain ⟨i, _, rfl⟩ := List.mem_map.mp hx
      rw [upc_len]; decide
    · (repeat' (first | (k_unfold; (try dsimp only)) | (first | ((with_reducible show wpAny _ _ (eval (Expr.ListComp _ _ _ _) _) _ _ _); (k_here; k_dflt (refine ListComp_E (by k_asm) (by with_unfolding_all rfl) (by decide) (by rfl) (by decide) (by rfl) (by rfl) (by decide) ?_))) | walk1) | (dsimp only; (first | ((with_reducible show wpAny _ _ (eval (Expr.ListComp _ _ _ _) _) _ _ _); (k_here; k_dflt (refine ListComp_E (by k_asm) (by with_unfolding_all rfl) (by decide) (by rfl) (by decide) (by rfl) (by rfl) (by decide) ?_))) | walk1)) | (leave1; (try dsimp only))))
      (rename News h₀ L _ _ => kN2)
      exact hret _ _ _ (by k_asm) (fun p hp => kN2 p (List.mem_cons_of_mem _ (List.mem_cons_of_mem _ hp)))
end Mine
end
section -- RNG
open PySem PySem.W PyProof.Rows PySem.Spec PySem.Calls
namespace Mine
theorem offRNG : True := by
  w_top off
  exact trivial
open PyProof.Rows.LCg
section
variable {prog : Program} {w : World} {A : Around} {E : Value → Shared → Prop} {s : Shared} {h₀ : Heap} {L : Addr} {m : Str → Option Value} {env : Env}
noncomputable def rowI (p : Nat) : List Int := (List.range p).map fun (i : Nat) => 2 + ((i : Nat) : Int) * 2
theorem ints_at (us : List Value) : ∀ (ns : List Int), us.length = ns.length → (∀ (j : Nat) (v : Value) (n : Int), us[j]? = some v → ns[j]? = some n → ∃ t, v = .int n t) → IntsAre us ns := by
  induction us with
  | nil =>
    intro ns h _
    rw [List.length_eq_zero_iff.mp h.symm]
    exact .nil
  | cons u us ih =>
    intro ns h H
    cases ns with
    | nil => exact absurd h (Nat.succ_ne_zero _)
    | cons n ns =>
      obtain ⟨t, rfl⟩ := H 0 u n rfl rfl
      exact .cons n t (ih ns (Nat.succ.inj h) fun j v n hj hn => H (j + 1) v n hj hn)
theorem list_row {r : Addr} {b : Int} {t u v : Tok} {p : Nat} {news : List (Addr × Obj)} {Q : Value → Shared → Prop} (hh : A.handled = none) (F : Fr h₀ L s.heap m) (N : News h₀ L s.heap news) (hr : IsRange s.heap r 2 b 2 t u v) (hb : b = 2 * ((p : Int) + 1)) (hp1 : 1 ≤ p) (hp3 : p ≤ 3)
    (h : ∀ D us c h' tk, Fr h₀ L h' m → News h₀ L h' ((D, listOf (List.toArray us) c) :: news) → (∀ q ∈ news, @LT.lt Nat _ q.1 D) → IntsAre us (rowI p) → Q (.ref D) { s with heap := h', toks := tk }) :
    wpAny (model prog w) A (call (.type "list") [.ref r]) Q E s := by
  have hs : Builtin.Range.small 2 b 2 = true := by
    have : p = 1 ∨ p = 2 ∨ p = 3 := by omega
    rcases this with rfl | rfl | rfl <;> (subst hb; decide)
  have hn : Builtin.Range.rangeSize 2 b 2 = (p : Int) := by
    have : p = 1 ∨ p = 2 ∨ p = 3 := by omega
    rcases this with rfl | rfl | rfl <;> (subst hb; decide)
  refine call_list_range hh hr hs hn (by omega) fun h' tk acc c hk hD hI => ?_
  have hD' : h'.get? s.heap.objs.size = some (listOf (List.toArray acc.toList) c) := by
    rw [Array.toArray_toList]
    exact hD
  refine h _ acc.toList c h' tk (F.keeps hk) (news_pushed F N hk hD' rfl) (fun p hp => Heap.lt_size (N p hp).1) ?_
  refine ints_at _ _ (by rw [Array.length_toList, hI.1]; unfold rowI; rw [List.length_map, List.length_range]) fun j v n hj hn => ?_
  obtain ⟨t, e⟩ := hI.2 j v (by rw [← hj, Array.getElem?_toList])
  refine ⟨t, ?_⟩
  unfold rowI at hn
  rw [List.getElem?_map] at hn
  obtain ⟨i, hi, hn⟩ := Option.map_eq_some_iff.mp hn
  obtain ⟨hl, he⟩ := List.getElem?_eq_some_iff.mp hi
  rw [List.getElem_range hl] at he
  rw [e, ← hn, ← he]
noncomputable def rngItems (a n : Nat) : List Itm := (List.range' a n).map fun i => .tok fun t => .int ((i : Nat) : Int) t
theorem rng_turns {x : Str} {px : Pos} {body : List Stmt} {Q : Flow → Shared → Prop} {r : Addr} {b : Int} {t u v : Tok} {n : Nat} {m₀ : Str → Option Value} {news : List (Addr × Obj)}
    (hh : A.handled = none) (F : Fr h₀ env.locals s.heap m₀) (N : News h₀ env.locals s.heap news) (hr : IsRange s.heap r 0 b 1 t u v) (hb : b = (n : Int)) (hn : n ≤ 8)
    (rest₀ : ∀ I : Addr, (∀ p ∈ news, @LT.lt Nat _ p.1 I) → ItemsRest prog w A E h₀ env (.Name x px) body Q s [(I, "range_iterator")] [] (rngItems 0 n) m₀ news) :
    wpAny (model prog w) A (pyIter (.ref r)) (fun it s₂ => TurnsAt prog w A h₀ env (.Name x px) body Q E it s₂) E s := by
  subst hb
  have hsm : Builtin.Range.small 0 (n : Int) 1 = true := small_one (by omega) (by omega) (by omega) (by omega)
  have hsz : Builtin.Range.rangeSize 0 (n : Int) 1 = (n : Int) := by simpa using rangeSize_nat 0 n
  refine wpAny_pyIter_range hr hsm ?_
  refine ktu_core (tk0 := s.toks) (keep := []) (ws := [(s.heap.objs.size, "range_iterator")]) (xs := rngItems 0 n) (KTurns.ofWalks (range_walks hh (0 : Int) n).bound fun i v s Q E st q => wpAny_pure q) (by simp [rngItems]) (fun i v h hp => ?_) (fun i h st => ?_) (fun b hb => ?_) (fun b hb => by simpa using hb) (fun b hb => .inl (by simpa using hb)) ?_ (fun p hp hI => ?_) ?_ (F.push _) (fun p hp => ⟨Heap.get?_push_of_some _ (N p hp).1, (N p hp).2⟩) trivial (rest₀ _ fun p hp => Heap.lt_size (N p hp).1)
  · obtain ⟨hi, t', rfl⟩ := hp
    refine ⟨.tok fun t => .int ((i : Nat) : Int) t, ?_, t', ?_⟩
    · unfold rngItems
      rw [List.getElem?_map, List.getElem?_range' (by omega)]
      simp
    · simp
  · have st' : h.get? s.heap.objs.size = some _ := st
    exact ⟨[(s.heap.objs.size, _)], ⟨⟨rfl, rfl⟩, trivial⟩, fun p hp => by rw [List.mem_singleton.mp hp]; exact st'⟩
  · have hb' : b = s.heap.objs.size := by simpa using hb
    rw [hb']
    exact ⟨List.mem_cons_self .., next_is_new F⟩
  · intro hI
    exact absurd F.ns.lt ((List.mem_singleton.mp hI) ▸ Nat.lt_irrefl _)
  · exact absurd (Heap.lt_size (N p hp).1) ((List.mem_singleton.mp hI) ▸ Nat.lt_irrefl _)
  · show IsRangeIter _ _ _ _ _
    rw [hsz]
    simpa using Heap.get?_push_size _ rfl
theorem rng_ind {target : Expr} {body : List Stmt} {Q : Flow → Shared → Prop} {ws : List (Addr × String)} {keep : List (Addr × Obj)} (n : Nat)
    (J : Nat → (Str → Option Value) → List (Addr × Obj) → Prop)
    (hnil : ∀ m nw, J n m nw → ∀ h tk, Fr h₀ env.locals h m → News h₀ env.locals h nw → Q .next { s with heap := h, toks := tk })
    (hstep : ∀ i m nw, i < n → J i m nw → ∀ t h tk, Fr h₀ env.locals h m → AllObj ws (fun its => News h₀ env.locals h (its ++ nw) →
      wpAny (model prog w) A (assign target env (.int ((i : Nat) : Int) t)) (fun _ s₂ => wpAny (model prog w) A (execs body env) (UnrPostW h₀ env.locals { s with heap := h, toks := tk } its (fun m' n' => SubL keep n' ∧ J (i + 1) m' n') Q) E s₂) E { s with heap := h, toks := tk })) :
    ∀ (k i : Nat) m nw, i + k = n → J i m nw → ItemsRest prog w A E h₀ env target body Q s ws keep (rngItems i k) m nw
  | 0, i, m, nw, e, hJ => ItemsRest.zero (hnil m nw (by rw [← e]; exact hJ))
  | k + 1, i, m, nw, e, hJ => ItemsRest.tok fun t h tk F => allObj_mono (hstep i m nw (by omega) hJ t h tk F) fun its h1 hN =>
      wpAny_mono (h1 hN) (fun _ _ h2 => wpAny_mono h2 (fun _ _ h3 => unr_mono h3 fun m' n' h4 => ⟨h4.1, rng_ind n J hnil hstep k (i + 1) m' n' (by omega) h4.2⟩) fun _ _ e => e) fun _ _ e => e
end
end Mine
end
section -- LEV1
namespace Mine
theorem offLEV1 : True := by
  w_top off
  exact trivial
noncomputable abbrev mV (x : Str) (tx : Tok) (y : Str) (ty tz : Tok) (k : Nat) (tk : Tok) : Str → Option Value := fun z => if z = Str.ofString "pre" then some (.int (k : Int) tk) else if z = Str.ofString "max_cost" then some (.int 3 tz) else if z = Str.ofString "b" then some (.str y ty) else if z = Str.ofString "a" then some (.str x tx) else none
noncomputable def eqTo (x y : Str) (k : Nat) : Prop := ∀ j, j < k → Txt.item x (j : Int) = Txt.item y (j : Int)
theorem eqTo_succ {x y : Str} {k : Nat} (h : eqTo x y k) (e : Txt.item x (k : Int) = Txt.item y (k : Int)) : eqTo x y (k + 1) := by
  intro j hj
  by_cases h1 : j < k
  · exact h j h1
  · have : j = k := by omega
    rw [this]; exact e
theorem sl_len (x : Str) (k : Nat) (h : k ≤ x.length) : (Txt.slice x (some (k : Int)) none).length = x.length - k := by
  rw [← str_len, sl_from h, List.length_drop, str_len]
structure PrePost (x : Str) (tx : Tok) (y : Str) (ty tz : Tok) (h₀ : Heap) (L : Addr) (news : List (Addr × Obj)) (s : Shared) (f : Flow) (s' : Shared) : Prop where
  out : f = .next ∧ ∃ (k : Nat) (tk : Tok) (h : Heap) (tk' : Nat), s' = ⟨h, s.gens, s.drawn, tk', s.os⟩ ∧ Fr h₀ L h (mV x tx y ty tz k tk) ∧ News h₀ L h news ∧ k < 3 ∧ eqTo x y k ∧ Txt.item x (k : Int) ≠ Txt.item y (k : Int)
theorem mV_pre {x : Str} {tx : Tok} {y : Str} {ty tz tk t : Tok} {k : Nat} : (fun z => if z = Str.ofString "pre" then some (Value.int ((k : Int) + 1) t) else mV x tx y ty tz k tk z) = mV x tx y ty tz (k + 1) t := by
  funext z
  unfold mV
  by_cases h : z = Str.ofString "pre"
  · simp only [h, if_true]; rw [show ((k + 1 : Nat) : Int) = (k : Int) + 1 by omega]
  · simp only [h, if_false]
theorem item_ext {x y : Str} (hl : x.length = y.length) (h : ∀ j, j < x.length → Txt.item x (j : Int) = Txt.item y (j : Int)) : x = y := by
  refine str_ext ?_
  refine List.ext_getElem? fun i => ?_
  by_cases hi : i < x.length
  · have hx1 : i < x.cps.toList.length := by rw [str_len]; exact hi
    have hy1 : i < y.cps.toList.length := by rw [str_len, ← hl]; exact hi
    have e1 := it_at (x := x) (i := i) (c := x.cps.toList[i]) (List.getElem?_eq_getElem hx1)
    have e2 := it_at (x := y) (i := i) (c := y.cps.toList[i]) (List.getElem?_eq_getElem hy1)
    have e3 := h i hi
    rw [e1, e2] at e3
    rw [List.getElem?_eq_getElem hx1, List.getElem?_eq_getElem hy1]
    have e4 : (#[x.cps.toList[i]] : Array Nat) = #[y.cps.toList[i]] := by injection e3
    simpa using e4
  · rw [List.getElem?_eq_none (by rw [str_len]; omega), List.getElem?_eq_none (by rw [str_len]; omega)]
noncomputable abbrev mW (m0 : Str → Option Value) (xs : Str) (ta : Tok) (ys : Str) (tb : Tok) (q : Nat) (tq : Tok) : Str → Option Value := fun z => if z = Str.ofString "post" then some (.int (-(q : Int)) tq) else if z = Str.ofString "b" then some (.str ys tb) else if z = Str.ofString "a" then some (.str xs ta) else m0 z
noncomputable def eqEnd (xs ys : Str) (q : Nat) : Prop := ∀ j : Nat, j < q → Txt.item xs (-(j : Int) - 1) = Txt.item ys (-(j : Int) - 1)
noncomputable def cutq (xs : Str) (q : Nat) : Str := if q = 0 then Txt.slice xs none none else Txt.slice xs none (some (-(q : Int)))
structure PostPost (xs ys : Str) (n : Nat) (h₀ : Heap) (L : Addr) (news : List (Addr × Obj)) (m0 : Str → Option Value) (s : Shared) (f : Flow) (s' : Shared) : Prop where
  out : f = .next ∧ ∃ (q : Nat) (tq ta tb : Tok) (h : Heap) (tk' : Nat), s' = ⟨h, s.gens, s.drawn, tk', s.os⟩ ∧ Fr h₀ L h (mW m0 xs ta ys tb q tq) ∧ News h₀ L h news ∧ q < n ∧ eqEnd xs ys q ∧ Txt.item xs (-(q : Int) - 1) ≠ Txt.item ys (-(q : Int) - 1)
section
variable {prog : Program} {w : World} {A : Around} {E : Value → Shared → Prop} {s : Shared} {i : Int} {t : Tok} {Q : Bool → Shared → Prop}
theorem truthy_ne (hi : i ≠ 0) (h : Q true s) : wpAny (model prog w) A (truthy (.int i t)) Q E s := P.truthy_int (by rw [show (i != 0) = true by simpa using hi]; exact h)
theorem truthy_sne {x : Str} (hi : 0 < x.length) (h3 : x.length ≤ 3) (h : ∀ k, Q true { s with toks := k }) : wpAny (model prog w) A (truthy (.str x t)) Q E s := P.truthy_str (by omega) (by rw [show ((x.length : Int) != 0) = true by simp; omega]; exact h _)
theorem truthy_eq (hi : i = 0) (h : Q false s) : wpAny (model prog w) A (truthy (.int i t)) Q E s := P.truthy_int (by rw [show (i != 0) = false by simpa using hi]; exact h)
end
theorem cutq_zero (xs : Str) : cutq xs 0 = Txt.slice xs none none := rfl
theorem cutq_pos (xs : Str) {q : Nat} (h : 0 < q) : cutq xs q = Txt.slice xs none (some (-(q : Int))) := by unfold cutq; rw [if_neg (by omega)]
theorem mW_post {m0 : Str → Option Value} {xs ys : Str} {ta tb tq t : Tok} {q : Nat} : (fun z => if z = Str.ofString "post" then some (Value.int (-(q : Int) - 1) t) else mW m0 xs ta ys tb q tq z) = mW m0 xs ta ys tb (q + 1) t := by
  funext z
  unfold mW
  by_cases h : z = Str.ofString "post"
  · simp only [h, if_true]; rw [show -((q + 1 : Nat) : Int) = -(q : Int) - 1 by omega]
  · simp only [h, if_false]
theorem eqEnd_succ {x y : Str} {k : Nat} (h : eqEnd x y k) (e : Txt.item x (-(k : Int) - 1) = Txt.item y (-(k : Int) - 1)) : eqEnd x y (k + 1) := by
  intro j hj
  by_cases h1 : j < k
  · exact h j h1
  · have : j = k := by omega
    rw [this]; exact e
structure CutV (z : Str) (h₀ : Heap) (L : Addr) (news : List (Addr × Obj)) (m : Str → Option Value) (s : Shared) (v : Value) (s' : Shared) : Prop where
  out : ∃ (t : Tok) (h : Heap) (tk : Nat), v = .str z t ∧ s' = ⟨h, s.gens, s.drawn, tk, s.os⟩ ∧ Fr h₀ L h m ∧ News h₀ L h news
noncomputable abbrev mX (bi bc di mi ix su id : Option Value) (res : Int) (tr : Tok) (Dr : Addr) (mB : Str → Option Value) : Str → Option Value := fun z => if z = Str.ofString "insert_delete" then id else if z = Str.ofString "substitute" then su else if z = Str.ofString "index" then ix else if z = Str.ofString "minimum" then mi else if z = Str.ofString "distance" then di else if z = Str.ofString "bchar" then bc else if z = Str.ofString "bindex" then bi else if z = Str.ofString "result" then some (.int res tr) else if z = Str.ofString "row" then some (.ref Dr) else mB z
noncomputable abbrev mBB (b2 : Str) (t8 : Tok) (a2 : Str) (t6 : Tok) (m0 : Str → Option Value) : Str → Option Value := fun z => if z = Str.ofString "b" then some (.str b2 t8) else if z = Str.ofString "a" then some (.str a2 t6) else m0 z
theorem mX_init {x : Str} {tx : Tok} {y : Str} {ty tz tk : Tok} {k : Nat} {xs ys : Str} {ta tb tq : Tok} {q : Nat} {b2 a2 : Str} {t8 t6 tr : Tok} {Dr : Addr} {res : Int} : (fun z => if z = Str.ofString "result" then some (Value.int res tr) else if z = Str.ofString "row" then some (Value.ref Dr) else if z = Str.ofString "b" then some (Value.str b2 t8) else if z = Str.ofString "a" then some (Value.str a2 t6) else mW (mV x tx y ty tz k tk) xs ta ys tb q tq z) = mX none none none none none none none res tr Dr (mBB b2 t8 a2 t6 (mW (mV x tx y ty tz k tk) xs ta ys tb q tq)) := by
  funext z
  rcases Decidable.em (z = Str.ofString "insert_delete") with h0 | h0
  · subst h0; rfl
  rcases Decidable.em (z = Str.ofString "substitute") with h1 | h1
  · subst h1; rfl
  rcases Decidable.em (z = Str.ofString "index") with h2 | h2
  · subst h2; rfl
  rcases Decidable.em (z = Str.ofString "minimum") with h3 | h3
  · subst h3; rfl
  rcases Decidable.em (z = Str.ofString "distance") with h4 | h4
  · subst h4; rfl
  rcases Decidable.em (z = Str.ofString "bchar") with h5 | h5
  · subst h5; rfl
  rcases Decidable.em (z = Str.ofString "bindex") with h6 | h6
  · subst h6; rfl
  rcases Decidable.em (z = Str.ofString "result") with h7 | h7
  · subst h7; rfl
  rcases Decidable.em (z = Str.ofString "row") with h8 | h8
  · subst h8; rfl
  simp only [mX, h0, h1, h2, h3, h4, h5, h6, h7, h8, if_false]
theorem mX_outer {bi bc di mi ix su id bi' bc' di' mi' : Option Value} {res res' : Int} {tr tr' : Tok} {Dr : Addr} {mB : Str → Option Value} : (fun z => if z = Str.ofString "minimum" then mi' else if z = Str.ofString "result" then some (Value.int res' tr') else if z = Str.ofString "distance" then di' else if z = Str.ofString "bchar" then bc' else if z = Str.ofString "bindex" then bi' else mX bi bc di mi ix su id res tr Dr mB z) = mX bi' bc' di' mi' ix su id res' tr' Dr mB := by
  funext z
  rcases Decidable.em (z = Str.ofString "insert_delete") with h0 | h0
  · subst h0; rfl
  rcases Decidable.em (z = Str.ofString "substitute") with h1 | h1
  · subst h1; rfl
  rcases Decidable.em (z = Str.ofString "index") with h2 | h2
  · subst h2; rfl
  rcases Decidable.em (z = Str.ofString "minimum") with h3 | h3
  · subst h3; rfl
  rcases Decidable.em (z = Str.ofString "distance") with h4 | h4
  · subst h4; rfl
  rcases Decidable.em (z = Str.ofString "bchar") with h5 | h5
  · subst h5; rfl
  rcases Decidable.em (z = Str.ofString "bindex") with h6 | h6
  · subst h6; rfl
  rcases Decidable.em (z = Str.ofString "result") with h7 | h7
  · subst h7; rfl
  rcases Decidable.em (z = Str.ofString "row") with h8 | h8
  · subst h8; rfl
  simp only [mX, h0, h1, h2, h3, h4, h5, h6, h7, h8, if_false]
theorem mX_inner {bi bc di mi ix su id di' ix' su' id' : Option Value} {res res' : Int} {tr tr' : Tok} {Dr : Addr} {mB : Str → Option Value} : (fun z => if z = Str.ofString "result" then some (Value.int res' tr') else if z = Str.ofString "insert_delete" then id' else if z = Str.ofString "distance" then di' else if z = Str.ofString "substitute" then su' else if z = Str.ofString "index" then ix' else mX bi bc di mi ix su id res tr Dr mB z) = mX bi bc di' mi ix' su' id' res' tr' Dr mB := by
  funext z
  rcases Decidable.em (z = Str.ofString "insert_delete") with h0 | h0
  · subst h0; rfl
  rcases Decidable.em (z = Str.ofString "substitute") with h1 | h1
  · subst h1; rfl
  rcases Decidable.em (z = Str.ofString "index") with h2 | h2
  · subst h2; rfl
  rcases Decidable.em (z = Str.ofString "minimum") with h3 | h3
  · subst h3; rfl
  rcases Decidable.em (z = Str.ofString "distance") with h4 | h4
  · subst h4; rfl
  rcases Decidable.em (z = Str.ofString "bchar") with h5 | h5
  · subst h5; rfl
  rcases Decidable.em (z = Str.ofString "bindex") with h6 | h6
  · subst h6; rfl
  rcases Decidable.em (z = Str.ofString "result") with h7 | h7
  · subst h7; rfl
  rcases Decidable.em (z = Str.ofString "row") with h8 | h8
  · subst h8; rfl
  simp only [mX, h0, h1, h2, h3, h4, h5, h6, h7, h8, if_false]
theorem mX_inner2 {bi bc di mi ix su id di' ix' su' id' mi' : Option Value} {res res' : Int} {tr tr' : Tok} {Dr : Addr} {mB : Str → Option Value} : (fun z => if z = Str.ofString "minimum" then mi' else if z = Str.ofString "result" then some (Value.int res' tr') else if z = Str.ofString "insert_delete" then id' else if z = Str.ofString "distance" then di' else if z = Str.ofString "substitute" then su' else if z = Str.ofString "index" then ix' else mX bi bc di mi ix su id res tr Dr mB z) = mX bi bc di' mi' ix' su' id' res' tr' Dr mB := by
  funext z
  rcases Decidable.em (z = Str.ofString "insert_delete") with h0 | h0
  · subst h0; rfl
  rcases Decidable.em (z = Str.ofString "substitute") with h1 | h1
  · subst h1; rfl
  rcases Decidable.em (z = Str.ofString "index") with h2 | h2
  · subst h2; rfl
  rcases Decidable.em (z = Str.ofString "minimum") with h3 | h3
  · subst h3; rfl
  rcases Decidable.em (z = Str.ofString "distance") with h4 | h4
  · subst h4; rfl
  rcases Decidable.em (z = Str.ofString "bchar") with h5 | h5
  · subst h5; rfl
  rcases Decidable.em (z = Str.ofString "bindex") with h6 | h6
  · subst h6; rfl
  rcases Decidable.em (z = Str.ofString "result") with h7 | h7
  · subst h7; rfl
  rcases Decidable.em (z = Str.ofString "row") with h8 | h8
  · subst h8; rfl
  simp only [mX, h0, h1, h2, h3, h4, h5, h6, h7, h8, if_false]
theorem nameMX {h₀ h : Heap} {L : Addr} {bi bc di mi ix su id : Option Value} {res : Int} {tr : Tok} {Dr : Addr} {mB : Str → Option Value} (_ : Fr h₀ L h (mX bi bc di mi ix su id res tr Dr mB)) : ∃ mB', mB' = mB := ⟨_, rfl⟩
structure DS where
  row : List Int
  res : Int
  dist : Int
  mn : Int
noncomputable def imin (a b : Int) : Int := if b < a then b else a
noncomputable def dstep (c : Int) (i : Nat) (s : DS) : DS :=
  let r := imin (imin s.res (s.row.getD i 0) + 2) (s.dist + c)
  ⟨s.row.set i r, r, s.row.getD i 0, if r < s.mn then r else s.mn⟩
noncomputable def innerF (bc a : Str) (s0 : DS) : Nat → DS
  | 0 => s0
  | i + 1 => dstep (subI bc (Txt.item a ((i : Nat) : Int))) i (innerF bc a s0 i)
noncomputable def outS (a b : Str) (p : Nat) : Nat → List Int × Int × Bool
  | 0 => (rowI p, 0, true)
  | i + 1 => let s := innerF (Txt.item b ((i : Nat) : Int)) a ⟨(outS a b p i).1, ((i : Nat) : Int) * 2, ((i : Nat) : Int) * 2, 9223372036854775807⟩ p
    (s.row, s.res, decide (s.mn ≤ 3))
theorem nameF {h₀ h : Heap} {L : Addr} {m : Str → Option Value} (_ : Fr h₀ L h m) : ∃ h₀' L', h₀' = h₀ ∧ L' = L := ⟨_, _, rfl, rfl⟩
structure FinL (x y : Str) (k q : Nat) : Prop where
  f1 : k < 3
  f2 : q < 3 - k
  f3 : eqTo x y k
  f4 : Txt.item x (k : Int) ≠ Txt.item y (k : Int)
  f5 : eqEnd (Txt.slice x (some (k : Int)) none) (Txt.slice y (some (k : Int)) none) q
  f6 : Txt.item (Txt.slice x (some (k : Int)) none) (-(q : Int) - 1) ≠ Txt.item (Txt.slice y (some (k : Int)) none) (-(q : Int) - 1)
structure LevT (x y : Str) (d : Int) : Prop where
  cutx : ∀ k, k < 3 → ∀ q, q ≤ 3 - k → (cutq (Txt.slice x (some ((k : Nat) : Int)) none) q).length = 3 - k - q
  cuty : ∀ k, k < 3 → ∀ q, q ≤ 3 - k → (cutq (Txt.slice y (some ((k : Nat) : Int)) none) q).length = 3 - k - q
  slx : ∀ k, k < 3 → (Txt.slice x (some ((k : Nat) : Int)) none).length = 3 - k
  sly : ∀ k, k < 3 → (Txt.slice y (some ((k : Nat) : Int)) none).length = 3 - k
  bad : ∀ k, k < 3 → eqEnd (Txt.slice x (some ((k : Nat) : Int)) none) (Txt.slice y (some ((k : Nat) : Int)) none) (3 - k) → Txt.item x ((k : Nat) : Int) = Txt.item y ((k : Nat) : Int)
  fin : ∀ k q, FinL x y k q → (∀ i, i ≤ 3 - k - q → (outS (cutq (Txt.slice x (some ((k : Nat) : Int)) none) q) (cutq (Txt.slice y (some ((k : Nat) : Int)) none) q) (3 - k - q) i).2.2 = true) ∧ (outS (cutq (Txt.slice x (some ((k : Nat) : Int)) none) q) (cutq (Txt.slice y (some ((k : Nat) : Int)) none) q) (3 - k - q) (3 - k - q)).2.1 = d
theorem innerF_succ {bc a : Str} {s0 S : DS} {j : Nat} (hS : innerF bc a s0 j = S) : innerF bc a s0 (j + 1) = dstep (subI bc (Txt.item a ((j : Nat) : Int))) j S := by rw [innerF, hS]
noncomputable def rawI (c : Int) (j : Nat) (S : DS) : Int := (if S.dist + c < (if S.row.getD (((j : Nat) : Int)).toNat 0 < S.res then S.row.getD (((j : Nat) : Int)).toNat 0 else S.res) + 2 then S.dist + c else (if S.row.getD (((j : Nat) : Int)).toNat 0 < S.res then S.row.getD (((j : Nat) : Int)).toNat 0 else S.res) + 2)
theorem dstep_raw (c : Int) (j : Nat) (S : DS) : dstep c j S = ⟨S.row.set j (rawI c j S), rawI c j S, S.row.getD j 0, if rawI c j S < S.mn then rawI c j S else S.mn⟩ := rfl
theorem dstep_lt {c : Int} {j : Nat} {S : DS} (h : (if S.dist + c < (if S.row.getD (((j : Nat) : Int)).toNat 0 < S.res then S.row.getD (((j : Nat) : Int)).toNat 0 else S.res) + 2 then S.dist + c else (if S.row.getD (((j : Nat) : Int)).toNat 0 < S.res then S.row.getD (((j : Nat) : Int)).toNat 0 else S.res) + 2) < S.mn) : dstep c j S = ⟨S.row.set (((j : Nat) : Int)).toNat (if S.dist + c < (if S.row.getD (((j : Nat) : Int)).toNat 0 < S.res then S.row.getD (((j : Nat) : Int)).toNat 0 else S.res) + 2 then S.dist + c else (if S.row.getD (((j : Nat) : Int)).toNat 0 < S.res then S.row.getD (((j : Nat) : Int)).toNat 0 else S.res) + 2), (if S.dist + c < (if S.row.getD (((j : Nat) : Int)).toNat 0 < S.res then S.row.getD (((j : Nat) : Int)).toNat 0 else S.res) + 2 then S.dist + c else (if S.row.getD (((j : Nat) : Int)).toNat 0 < S.res then S.row.getD (((j : Nat) : Int)).toNat 0 else S.res) + 2), S.row.getD (((j : Nat) : Int)).toNat 0, (if S.dist + c < (if S.row.getD (((j : Nat) : Int)).toNat 0 < S.res then S.row.getD (((j : Nat) : Int)).toNat 0 else S.res) + 2 then S.dist + c else (if S.row.getD (((j : Nat) : Int)).toNat 0 < S.res then S.row.getD (((j : Nat) : Int)).toNat 0 else S.res) + 2)⟩ := by
  have h' : rawI c j S < S.mn := h
  rw [dstep_raw, if_pos h']
  rfl
theorem dstep_ge {c : Int} {j : Nat} {S : DS} (h : ¬ (if S.dist + c < (if S.row.getD (((j : Nat) : Int)).toNat 0 < S.res then S.row.getD (((j : Nat) : Int)).toNat 0 else S.res) + 2 then S.dist + c else (if S.row.getD (((j : Nat) : Int)).toNat 0 < S.res then S.row.getD (((j : Nat) : Int)).toNat 0 else S.res) + 2) < S.mn) : dstep c j S = ⟨S.row.set (((j : Nat) : Int)).toNat (if S.dist + c < (if S.row.getD (((j : Nat) : Int)).toNat 0 < S.res then S.row.getD (((j : Nat) : Int)).toNat 0 else S.res) + 2 then S.dist + c else (if S.row.getD (((j : Nat) : Int)).toNat 0 < S.res then S.row.getD (((j : Nat) : Int)).toNat 0 else S.res) + 2), (if S.dist + c < (if S.row.getD (((j : Nat) : Int)).toNat 0 < S.res then S.row.getD (((j : Nat) : Int)).toNat 0 else S.res) + 2 then S.dist + c else (if S.row.getD (((j : Nat) : Int)).toNat 0 < S.res then S.row.getD (((j : Nat) : Int)).toNat 0 else S.res) + 2), S.row.getD (((j : Nat) : Int)).toNat 0, S.mn⟩ := by
  have h' : ¬ rawI c j S < S.mn := h
  rw [dstep_raw, if_neg h']
  rfl
theorem offI {I I2 Dr : Addr} {oI oD oI2 : Obj} {news : List (Addr × Obj)} (h1 : @LT.lt Nat _ I I2) (h2 : @LT.lt Nat _ Dr I2) (h3 : ∀ p ∈ news, @LT.lt Nat _ p.1 I2) : ∀ p ∈ (I, oI) :: (Dr, oD) :: news, ∀ q ∈ [(I2, oI2)], p.1 ≠ q.1 := by
  intro p hp q hq
  rw [List.mem_singleton.mp hq]
  rcases List.mem_cons.mp hp with rfl | hp
  · exact Nat.ne_of_lt h1
  · rcases List.mem_cons.mp hp with rfl | hp
    · exact Nat.ne_of_lt h2
    · exact Nat.ne_of_lt (h3 p hp)
theorem innerF_len (bc a : Str) (s0 : DS) : ∀ j, (innerF bc a s0 j).row.length = s0.row.length
  | 0 => rfl
  | j + 1 => by rw [innerF, dstep]; simp only [List.length_set]; exact innerF_len bc a s0 j
theorem rowI_len (p : Nat) : (rowI p).length = p := by simp [rowI]
theorem outS_len (a b : Str) (p : Nat) : ∀ i, (outS a b p i).1.length = p
  | 0 => rowI_len p
  | i + 1 => by rw [outS]; dsimp only; rw [innerF_len]; exact outS_len a b p i
theorem nameObj {h₀ h : Heap} {L I : Addr} {o : Obj} {r : List (Addr × Obj)} (_ : News h₀ L h ((I, o) :: r)) : ∃ o', o' = o := ⟨_, rfl⟩
theorem lev_c (w : World) (mean : ExcName → Option Value) (mg mb : Str → Option Value) (x y : Str) (tx ty tz : Tok) (hx : x.length = 3) (hy : y.length = 3) (hne : (x == y) = false) (d : Int) (hT9 : LevT x y d) : NClaim w mean mg mb 83 40 300 [.str x tx, .str y ty, .int 3 tz] (fun t => .int d t) := by
  w_top off
  revert w mean mg mb x y tx ty tz d
  refine eps8 neW inferInstance inferInstance inferInstance inferInstance inferInstance inferInstance inferInstance ?_; generalize E8_1 _ _ _ _ _ _ _ _ _ = w; generalize E8_2 _ _ _ _ _ _ _ _ _ = mean; generalize E8_3 _ _ _ _ _ _ _ _ _ = mg; generalize E8_4 _ _ _ _ _ _ _ _ _ = mb; generalize E8_5 _ _ _ _ _ _ _ _ _ = x; generalize E8_6 _ _ _ _ _ _ _ _ _ = y; generalize E8_7 _ _ _ _ _ _ _ _ _ = tx; generalize E8_8 _ _ _ _ _ _ _ _ _ = ty
  refine eps1 inferInstance ?_; generalize E1 _ _ = tz
  intro hx hy hne
  refine eps1 inferInstance ?_; generalize E1 _ _ = d
  intro hT9
  refine eps8 inferInstance inferInstance inferInstance inferInstance inferInstance inferInstance inferInstance inferInstance ?_; generalize E8_1 _ _ _ _ _ _ _ _ _ = dp; generalize E8_2 _ _ _ _ _ _ _ _ _ = un; generalize E8_3 _ _ _ _ _ _ _ _ _ = gd; generalize E8_4 _ _ _ _ _ _ _ _ _ = cn; generalize E8_5 _ _ _ _ _ _ _ _ _ = cs; generalize E8_6 _ _ _ _ _ _ _ _ _ = a; generalize E8_7 _ _ _ _ _ _ _ _ _ = ccd; generalize E8_8 _ _ _ _ _ _ _ _ _ = cl
  refine eps8 inferInstance neA inferInstance inferInstance inferInstance inferInstance inferInstance neS ?_; generalize E8_1 _ _ _ _ _ _ _ _ _ = outer; generalize E8_2 _ _ _ _ _ _ _ _ _ = A₀; generalize E8_3 _ _ _ _ _ _ _ _ _ = base; generalize E8_4 _ _ _ _ _ _ _ _ _ = h₀; generalize E8_5 _ _ _ _ _ _ _ _ _ = L; generalize E8_6 _ _ _ _ _ _ _ _ _ = m; generalize E8_7 _ _ _ _ _ _ _ _ _ = news; generalize E8_8 _ _ _ _ _ _ _ _ _ = s
  refine eps2 inferInstance inferInstance ?_; generalize E2_1 _ _ _ = Q; generalize E2_2 _ _ _ = E
  intro hB hF hX hN hT hk hdp hu hret
  refine wpAny_call ?_
  k_dflt cell_enter
  (with_reducible rename Fr _ _ _ (fun y => List.lookup y _) => FE0); have FE := fr3 FE0; clear FE0; dsimp only at FE
  iterate 15 (first | (k_here; (with_reducible show wpAny _ _ (call (Value.type "list") [Value.ref _]) _ _ _); (rename IsRange _ _ _ _ _ _ _ _ => rgX); k_dflt (refine' list_row ?k0 ?k1 ?k2 rgX ?k4 ?k5 ?k6 ?_; (case k0 => rfl); (case k1 => k_asm); (case k2 => k_asm); (case k4 => rw [hca]); (case k5 => exact hp1); (case k6 => exact hp3)); intro Dr vr cr hR tkR FR NR lR IR; dsimp only) | ((with_reducible show wpAny _ _ (exec (Stmt.For _ _ _ _ _) _) _ _ _); (k_here; (rename Fr _ _ _ _ => lF'); (with_unfolding_all refine' For_turns lF' ?_; k_whole))) | ((with_reducible show wpAny _ _ (subscriptTail _ (Expr.Slice none (some (Expr.BoolOp _ _ _)) none _) _ _) _ _ _); (with_reducible rename Fr _ _ _ _ => F'); (with_reducible rename News _ _ _ _ => N'); k_dflt (first | refine slice_strN_nn (hsz := ?hsz) (s := ⟨_, _, _, _, _⟩) F' N' ?_ | refine slice_strN_ns (hsz := ?hsz) (s := ⟨_, _, _, _, _⟩) F' N' ?_); (case hsz => size_fits); intro _ _ _ _ _; (try dsimp only)) | ((with_reducible show wpAny _ _ (truthy (Value.int _ _)) _ _ _); (k_here; k_dflt (refine truthy_eq (by assumption) ?_))) | ((with_reducible show wpAny _ _ (truthy (Value.int _ _)) _ _ _); (k_here; k_dflt (refine truthy_ne (by assumption) ?_))) | ((with_reducible show wpAny _ _ (truthy (Value.str _ _)) _ _ _); (k_here; k_dflt (refine truthy_sne (by assumption) (by omega) ?_); intro kT)) | (k_here; (with_reducible show wpAny _ _ (subscriptTail _ _ (Value.str _ _) (Value.int _ _)) _ _ _); k_dflt (refine' KXi.item ?hk ?h0 ?h1 ?h2 ?_; (case hk => assumption); (case h0 => omega); (case h1 => omega); (case h2 => omega)); intro kxiE) | (k_here; (with_reducible show wpAny _ _ (subscriptTail _ _ (Value.str _ _) (Value.int _ _)) _ _ _); k_dflt (refine' KXi.item ?hk ?h0 ?h1 ?h2 ?_; (case hk => assumption); (case h0 => omega); (case h1 => omega); (case h2 => omega)); intro kxiE) | (k_here; (with_reducible show wpAny _ _ (call (Value.ref 76) [Value.str _ _, Value.str _ _]) _ _ _); k_dflt (refine' subst_c _ _ _ _ _ _ _ _ ?hx ?hy (_ + 1) (_ + 3) _ _ _ _ _ _ _ _ _ _ _ _ _ _ _ _ ?k1 ?k2 ?k3 ?k4 ?k5 ?kK ?kd ?ku ?_; (case hx => omega); (case hy => omega); (case k1 => k_asm); (case k2 => k_asm); (case k3 => k_asm); (case k4 => k_asm); (case k5 => k_asm); (case kK => exact rfl); (case kd => (dsimp only [Around.deeper]; omega)); (case ku => (dsimp only [Around.deeper]; omega))); intro tS hS tkS FS NS; dsimp only) | walk1)
  (with_reducible rename Fr _ _ _ (fun y => if y = Str.ofString "pre" then _ else _) => F2)
  (with_reducible rename News _ _ _ news => N2)
  obtain ⟨g9, L9, hg9, hL9⟩ := nameF F2
  subst hg9 hL9
  k_here
  refine wpAny_mono (Q := PrePost x tx y ty tz g9 L9 news s) ?loop ?rest (fun _ _ e => e)
  case loop =>
    refine While_inv (fun n m nw => ∃ (k : Nat) (tk : Tok), n = 3 - k ∧ k ≤ 3 ∧ m = mV x tx y ty tz k tk ∧ nw = news ∧ eqTo x y k) (n₀ := 3) F2 N2 ?J ?turn ?hE
    case hE => passes_own
    case J => exact ⟨0, _, rfl, by decide, rfl, rfl, fun j hj => absurd hj (Nat.not_lt_zero _)⟩
    case turn =>
      rintro n m₁ nw h₁ tk₁ F3 N3 ⟨k, tkk, rfl, hk3, rfl, hnw, heq⟩
      rw [hnw] at N3
      clear hnw F2 N2
      have hsx := sl_len x k (by omega)
      have hsy := sl_len y k (by omega)
      rw [hx] at hsx
      rw [hy] at hsy
      (repeat' (first | ((with_reducible rename (_ → _ → _) ∧ (_ → _) => z9); clear z9) | (k_unfold; (try dsimp only)) | (first | (k_here; (with_reducible show wpAny _ _ (call (Value.type "list") [Value.ref _]) _ _ _); (rename IsRange _ _ _ _ _ _ _ _ => rgX); k_dflt (refine' list_row ?k0 ?k1 ?k2 rgX ?k4 ?k5 ?k6 ?_; (case k0 => rfl); (case k1 => k_asm); (case k2 => k_asm); (case k4 => rw [hca]); (case k5 => exact hp1); (case k6 => exact hp3)); intro Dr vr cr hR tkR FR NR lR IR; dsimp only) | ((with_reducible show wpAny _ _ (exec (Stmt.For _ _ _ _ _) _) _ _ _); (k_here; (rename Fr _ _ _ _ => lF'); (with_unfolding_all refine' For_turns lF' ?_; k_whole))) | ((with_reducible show wpAny _ _ (subscriptTail _ (Expr.Slice none (some (Expr.BoolOp _ _ _)) none _) _ _) _ _ _); (with_reducible rename Fr _ _ _ _ => F'); (with_reducible rename News _ _ _ _ => N'); k_dflt (first | refine slice_strN_nn (hsz := ?hsz) (s := ⟨_, _, _, _, _⟩) F' N' ?_ | refine slice_strN_ns (hsz := ?hsz) (s := ⟨_, _, _, _, _⟩) F' N' ?_); (case hsz => size_fits); intro _ _ _ _ _; (try dsimp only)) | ((with_reducible show wpAny _ _ (truthy (Value.int _ _)) _ _ _); (k_here; k_dflt (refine truthy_eq (by assumption) ?_))) | ((with_reducible show wpAny _ _ (truthy (Value.int _ _)) _ _ _); (k_here; k_dflt (refine truthy_ne (by assumption) ?_))) | ((with_reducible show wpAny _ _ (truthy (Value.str _ _)) _ _ _); (k_here; k_dflt (refine truthy_sne (by assumption) (by omega) ?_); intro kT)) | (k_here; (with_reducible show wpAny _ _ (subscriptTail _ _ (Value.str _ _) (Value.int _ _)) _ _ _); k_dflt (refine' KXi.item ?hk ?h0 ?h1 ?h2 ?_; (case hk => assumption); (case h0 => omega); (case h1 => omega); (case h2 => omega)); intro kxiE) | (k_here; (with_reducible show wpAny _ _ (subscriptTail _ _ (Value.str _ _) (Value.int _ _)) _ _ _); k_dflt (refine' KXi.item ?hk ?h0 ?h1 ?h2 ?_; (case hk => assumption); (case h0 => omega); (case h1 => omega); (case h2 => omega)); intro kxiE) | (k_here; (with_reducible show wpAny _ _ (call (Value.ref 76) [Value.str _ _, Value.str _ _]) _ _ _); k_dflt (refine' subst_c _ _ _ _ _ _ _ _ ?hx ?hy (_ + 1) (_ + 3) _ _ _ _ _ _ _ _ _ _ _ _ _ _ _ _ ?k1 ?k2 ?k3 ?k4 ?k5 ?kK ?kd ?ku ?_; (case hx => omega); (case hy => omega); (case k1 => k_asm); (case k2 => k_asm); (case k3 => k_asm); (case k4 => k_asm); (case k5 => k_asm); (case kK => exact rfl); (case kd => (dsimp only [Around.deeper]; omega)); (case ku => (dsimp only [Around.deeper]; omega))); intro tS hS tkS FS NS; dsimp only) | walk1) | (dsimp only; (first | (k_here; (with_reducible show wpAny _ _ (call (Value.type "list") [Value.ref _]) _ _ _); (rename IsRange _ _ _ _ _ _ _ _ => rgX); k_dflt (refine' list_row ?k0 ?k1 ?k2 rgX ?k4 ?k5 ?k6 ?_; (case k0 => rfl); (case k1 => k_asm); (case k2 => k_asm); (case k4 => rw [hca]); (case k5 => exact hp1); (case k6 => exact hp3)); intro Dr vr cr hR tkR FR NR lR IR; dsimp only) | ((with_reducible show wpAny _ _ (exec (Stmt.For _ _ _ _ _) _) _ _ _); (k_here; (rename Fr _ _ _ _ => lF'); (with_unfolding_all refine' For_turns lF' ?_; k_whole))) | ((with_reducible show wpAny _ _ (subscriptTail _ (Expr.Slice none (some (Expr.BoolOp _ _ _)) none _) _ _) _ _ _); (with_reducible rename Fr _ _ _ _ => F'); (with_reducible rename News _ _ _ _ => N'); k_dflt (first | refine slice_strN_nn (hsz := ?hsz) (s := ⟨_, _, _, _, _⟩) F' N' ?_ | refine slice_strN_ns (hsz := ?hsz) (s := ⟨_, _, _, _, _⟩) F' N' ?_); (case hsz => size_fits); intro _ _ _ _ _; (try dsimp only)) | ((with_reducible show wpAny _ _ (truthy (Value.int _ _)) _ _ _); (k_here; k_dflt (refine truthy_eq (by assumption) ?_))) | ((with_reducible show wpAny _ _ (truthy (Value.int _ _)) _ _ _); (k_here; k_dflt (refine truthy_ne (by assumption) ?_))) | ((with_reducible show wpAny _ _ (truthy (Value.str _ _)) _ _ _); (k_here; k_dflt (refine truthy_sne (by assumption) (by omega) ?_); intro kT)) | (k_here; (with_reducible show wpAny _ _ (subscriptTail _ _ (Value.str _ _) (Value.int _ _)) _ _ _); k_dflt (refine' KXi.item ?hk ?h0 ?h1 ?h2 ?_; (case hk => assumption); (case h0 => omega); (case h1 => omega); (case h2 => omega)); intro kxiE) | (k_here; (with_reducible show wpAny _ _ (subscriptTail _ _ (Value.str _ _) (Value.int _ _)) _ _ _); k_dflt (refine' KXi.item ?hk ?h0 ?h1 ?h2 ?_; (case hk => assumption); (case h0 => omega); (case h1 => omega); (case h2 => omega)); intro kxiE) | (k_here; (with_reducible show wpAny _ _ (call (Value.ref 76) [Value.str _ _, Value.str _ _]) _ _ _); k_dflt (refine' subst_c _ _ _ _ _ _ _ _ ?hx ?hy (_ + 1) (_ + 3) _ _ _ _ _ _ _ _ _ _ _ _ _ _ _ _ ?k1 ?k2 ?k3 ?k4 ?k5 ?kK ?kd ?ku ?_; (case hx => omega); (case hy => omega); (case k1 => k_asm); (case k2 => k_asm); (case k3 => k_asm); (case k4 => k_asm); (case k5 => k_asm); (case kK => exact rfl); (case kd => (dsimp only [Around.deeper]; omega)); (case ku => (dsimp only [Around.deeper]; omega))); intro tS hS tkS FS NS; dsimp only) | walk1)) | (leave1; (try dsimp only))))
      · (with_reducible rename (Txt.item x _ == Txt.item y _) = true => h9)
        (with_reducible rename Fr _ _ _ (fun z => if z = Str.ofString "pre" then _ else _) => F9)
        (with_reducible rename News _ _ _ news => N9)
        (with_reducible rename ((Txt.slice y _ _).length : Int) ≠ 0 => h8)
        exact WhileStep.intro (n' := 3 - (k + 1)) F9 N9 (by omega) ⟨k + 1, _, rfl, by omega, mV_pre, rfl, eqTo_succ heq (eq_of_beq h9)⟩
      · (with_reducible rename (Txt.item x _ == Txt.item y _) = false => h9)
        (with_reducible rename ((Txt.slice y _ _).length : Int) ≠ 0 => h8)
        exact ⟨rfl, k, tkk, _, _, rfl, by k_asm, by k_asm, by omega, heq, fun e => by rw [e] at h9; simp at h9⟩
      · (with_reducible rename ((Txt.slice y _ _).length : Int) = 0 => h8)
        exact absurd (item_ext (hx.trans hy.symm) (fun j hj => heq j (by omega))) (by intro e; rw [e] at hne; simp at hne)
      · (with_reducible rename ((Txt.slice x _ _).length : Int) = 0 => h8)
        exact absurd (item_ext (hx.trans hy.symm) (fun j hj => heq j (by omega))) (by intro e; rw [e] at hne; simp at hne)
  case rest =>
    rintro f s' ⟨rfl, k, tkQ, h, tk', rfl, F3, N3, hk3, heq, hnk⟩
    clear F2 N2
    dsimp only
    iterate 27 (first | (first | (k_here; (with_reducible show wpAny _ _ (call (Value.type "list") [Value.ref _]) _ _ _); (rename IsRange _ _ _ _ _ _ _ _ => rgX); k_dflt (refine' list_row ?k0 ?k1 ?k2 rgX ?k4 ?k5 ?k6 ?_; (case k0 => rfl); (case k1 => k_asm); (case k2 => k_asm); (case k4 => rw [hca]); (case k5 => exact hp1); (case k6 => exact hp3)); intro Dr vr cr hR tkR FR NR lR IR; dsimp only) | ((with_reducible show wpAny _ _ (exec (Stmt.For _ _ _ _ _) _) _ _ _); (k_here; (rename Fr _ _ _ _ => lF'); (with_unfolding_all refine' For_turns lF' ?_; k_whole))) | ((with_reducible show wpAny _ _ (subscriptTail _ (Expr.Slice none (some (Expr.BoolOp _ _ _)) none _) _ _) _ _ _); (with_reducible rename Fr _ _ _ _ => F'); (with_reducible rename News _ _ _ _ => N'); k_dflt (first | refine slice_strN_nn (hsz := ?hsz) (s := ⟨_, _, _, _, _⟩) F' N' ?_ | refine slice_strN_ns (hsz := ?hsz) (s := ⟨_, _, _, _, _⟩) F' N' ?_); (case hsz => size_fits); intro _ _ _ _ _; (try dsimp only)) | ((with_reducible show wpAny _ _ (truthy (Value.int _ _)) _ _ _); (k_here; k_dflt (refine truthy_eq (by assumption) ?_))) | ((with_reducible show wpAny _ _ (truthy (Value.int _ _)) _ _ _); (k_here; k_dflt (refine truthy_ne (by assumption) ?_))) | ((with_reducible show wpAny _ _ (truthy (Value.str _ _)) _ _ _); (k_here; k_dflt (refine truthy_sne (by assumption) (by omega) ?_); intro kT)) | (k_here; (with_reducible show wpAny _ _ (subscriptTail _ _ (Value.str _ _) (Value.int _ _)) _ _ _); k_dflt (refine' KXi.item ?hk ?h0 ?h1 ?h2 ?_; (case hk => assumption); (case h0 => omega); (case h1 => omega); (case h2 => omega)); intro kxiE) | (k_here; (with_reducible show wpAny _ _ (subscriptTail _ _ (Value.str _ _) (Value.int _ _)) _ _ _); k_dflt (refine' KXi.item ?hk ?h0 ?h1 ?h2 ?_; (case hk => assumption); (case h0 => omega); (case h1 => omega); (case h2 => omega)); intro kxiE) | (k_here; (with_reducible show wpAny _ _ (call (Value.ref 76) [Value.str _ _, Value.str _ _]) _ _ _); k_dflt (refine' subst_c _ _ _ _ _ _ _ _ ?hx ?hy (_ + 1) (_ + 3) _ _ _ _ _ _ _ _ _ _ _ _ _ _ _ _ ?k1 ?k2 ?k3 ?k4 ?k5 ?kK ?kd ?ku ?_; (case hx => omega); (case hy => omega); (case k1 => k_asm); (case k2 => k_asm); (case k3 => k_asm); (case k4 => k_asm); (case k5 => k_asm); (case kK => exact rfl); (case kd => (dsimp only [Around.deeper]; omega)); (case ku => (dsimp only [Around.deeper]; omega))); intro tS hS tkS FS NS; dsimp only) | walk1) | (dsimp only; (first | (k_here; (with_reducible show wpAny _ _ (call (Value.type "list") [Value.ref _]) _ _ _); (rename IsRange _ _ _ _ _ _ _ _ => rgX); k_dflt (refine' list_row ?k0 ?k1 ?k2 rgX ?k4 ?k5 ?k6 ?_; (case k0 => rfl); (case k1 => k_asm); (case k2 => k_asm); (case k4 => rw [hca]); (case k5 => exact hp1); (case k6 => exact hp3)); intro Dr vr cr hR tkR FR NR lR IR; dsimp only) | ((with_reducible show wpAny _ _ (exec (Stmt.For _ _ _ _ _) _) _ _ _); (k_here; (rename Fr _ _ _ _ => lF'); (with_unfolding_all refine' For_turns lF' ?_; k_whole))) | ((with_reducible show wpAny _ _ (subscriptTail _ (Expr.Slice none (some (Expr.BoolOp _ _ _)) none _) _ _) _ _ _); (with_reducible rename Fr _ _ _ _ => F'); (with_reducible rename News _ _ _ _ => N'); k_dflt (first | refine slice_strN_nn (hsz := ?hsz) (s := ⟨_, _, _, _, _⟩) F' N' ?_ | refine slice_strN_ns (hsz := ?hsz) (s := ⟨_, _, _, _, _⟩) F' N' ?_); (case hsz => size_fits); intro _ _ _ _ _; (try dsimp only)) | ((with_reducible show wpAny _ _ (truthy (Value.int _ _)) _ _ _); (k_here; k_dflt (refine truthy_eq (by assumption) ?_))) | ((with_reducible show wpAny _ _ (truthy (Value.int _ _)) _ _ _); (k_here; k_dflt (refine truthy_ne (by assumption) ?_))) | ((with_reducible show wpAny _ _ (truthy (Value.str _ _)) _ _ _); (k_here; k_dflt (refine truthy_sne (by assumption) (by omega) ?_); intro kT)) | (k_here; (with_reducible show wpAny _ _ (subscriptTail _ _ (Value.str _ _) (Value.int _ _)) _ _ _); k_dflt (refine' KXi.item ?hk ?h0 ?h1 ?h2 ?_; (case hk => assumption); (case h0 => omega); (case h1 => omega); (case h2 => omega)); intro kxiE) | (k_here; (with_reducible show wpAny _ _ (subscriptTail _ _ (Value.str _ _) (Value.int _ _)) _ _ _); k_dflt (refine' KXi.item ?hk ?h0 ?h1 ?h2 ?_; (case hk => assumption); (case h0 => omega); (case h1 => omega); (case h2 => omega)); intro kxiE) | (k_here; (with_reducible show wpAny _ _ (call (Value.ref 76) [Value.str _ _, Value.str _ _]) _ _ _); k_dflt (refine' subst_c _ _ _ _ _ _ _ _ ?hx ?hy (_ + 1) (_ + 3) _ _ _ _ _ _ _ _ _ _ _ _ _ _ _ _ ?k1 ?k2 ?k3 ?k4 ?k5 ?kK ?kd ?ku ?_; (case hx => omega); (case hy => omega); (case k1 => k_asm); (case k2 => k_asm); (case k3 => k_asm); (case k4 => k_asm); (case k5 => k_asm); (case kK => exact rfl); (case kd => (dsimp only [Around.deeper]; omega)); (case ku => (dsimp only [Around.deeper]; omega))); intro tS hS tkS FS NS; dsimp only) | walk1)))
    (with_reducible rename Fr _ _ _ (fun z => if z = Str.ofString "post" then _ else _) => F4)
    (with_reducible rename News _ _ _ news => N4)
    have hxl := hT9.slx k hk3
    have hyl := hT9.sly k hk3
    have hcx := hT9.cutx k hk3
    have hcy := hT9.cuty k hk3
    have hbad := hT9.bad k hk3
    obtain ⟨n, hn⟩ : ∃ n, n = 3 - k := ⟨_, rfl⟩
    rw [← hn] at hxl hyl hcx hcy hbad
    generalize hxs : Txt.slice x (some (k : Int)) none = xs at *
    generalize hys : Txt.slice y (some (k : Int)) none = ys at *
    have hn3 : n ≤ 3 := by omega
    k_here
    refine wpAny_mono (Q := PostPost xs ys n g9 L9 news (mV x tx y ty tz k tkQ) s) ?loop2 ?rest2 (fun _ _ e => e)
    case loop2 =>
      refine While_inv (fun c m nw => ∃ (q : Nat) (tq ta tb : Tok), c = n - q ∧ q ≤ n ∧ m = mW (mV x tx y ty tz k tkQ) xs ta ys tb q tq ∧ nw = news ∧ eqEnd xs ys q) (n₀ := n) F4 N4 ?J2 ?turn2 ?hE2
      case hE2 => passes_own
      case J2 => exact ⟨0, _, _, _, by omega, Nat.zero_le _, rfl, rfl, fun j hj => absurd hj (Nat.not_lt_zero _)⟩
      case turn2 =>
        rintro c m₁ nw h₁ tk₁ F5 N5 ⟨q, tq, ta, tb, rfl, hqn, rfl, hnw, heq2⟩
        rw [hnw] at N5
        clear hnw F4 N4 hxs hys heq
        have hsx := hcx q hqn
        have hsy := hcy q hqn
        rcases Nat.eq_zero_or_pos q with rfl | hq0
        · rw [cutq_zero] at hsx hsy
          have hz : -(((0 : Nat)) : Int) = 0 := rfl
          (repeat' (first | ((with_reducible rename (_ → _ → _) ∧ (_ → _) => z9); clear z9) | (k_unfold; (try dsimp only)) | (first | (k_here; (with_reducible show wpAny _ _ (call (Value.type "list") [Value.ref _]) _ _ _); (rename IsRange _ _ _ _ _ _ _ _ => rgX); k_dflt (refine' list_row ?k0 ?k1 ?k2 rgX ?k4 ?k5 ?k6 ?_; (case k0 => rfl); (case k1 => k_asm); (case k2 => k_asm); (case k4 => rw [hca]); (case k5 => exact hp1); (case k6 => exact hp3)); intro Dr vr cr hR tkR FR NR lR IR; dsimp only) | ((with_reducible show wpAny _ _ (exec (Stmt.For _ _ _ _ _) _) _ _ _); (k_here; (rename Fr _ _ _ _ => lF'); (with_unfolding_all refine' For_turns lF' ?_; k_whole))) | ((with_reducible show wpAny _ _ (subscriptTail _ (Expr.Slice none (some (Expr.BoolOp _ _ _)) none _) _ _) _ _ _); (with_reducible rename Fr _ _ _ _ => F'); (with_reducible rename News _ _ _ _ => N'); k_dflt (first | refine slice_strN_nn (hsz := ?hsz) (s := ⟨_, _, _, _, _⟩) F' N' ?_ | refine slice_strN_ns (hsz := ?hsz) (s := ⟨_, _, _, _, _⟩) F' N' ?_); (case hsz => size_fits); intro _ _ _ _ _; (try dsimp only)) | ((with_reducible show wpAny _ _ (truthy (Value.int _ _)) _ _ _); (k_here; k_dflt (refine truthy_eq (by assumption) ?_))) | ((with_reducible show wpAny _ _ (truthy (Value.int _ _)) _ _ _); (k_here; k_dflt (refine truthy_ne (by assumption) ?_))) | ((with_reducible show wpAny _ _ (truthy (Value.str _ _)) _ _ _); (k_here; k_dflt (refine truthy_sne (by assumption) (by omega) ?_); intro kT)) | (k_here; (with_reducible show wpAny _ _ (subscriptTail _ _ (Value.str _ _) (Value.int _ _)) _ _ _); k_dflt (refine' KXi.item ?hk ?h0 ?h1 ?h2 ?_; (case hk => assumption); (case h0 => omega); (case h1 => omega); (case h2 => omega)); intro kxiE) | (k_here; (with_reducible show wpAny _ _ (subscriptTail _ _ (Value.str _ _) (Value.int _ _)) _ _ _); k_dflt (refine' KXi.item ?hk ?h0 ?h1 ?h2 ?_; (case hk => assumption); (case h0 => omega); (case h1 => omega); (case h2 => omega)); intro kxiE) | (k_here; (with_reducible show wpAny _ _ (call (Value.ref 76) [Value.str _ _, Value.str _ _]) _ _ _); k_dflt (refine' subst_c _ _ _ _ _ _ _ _ ?hx ?hy (_ + 1) (_ + 3) _ _ _ _ _ _ _ _ _ _ _ _ _ _ _ _ ?k1 ?k2 ?k3 ?k4 ?k5 ?kK ?kd ?ku ?_; (case hx => omega); (case hy => omega); (case k1 => k_asm); (case k2 => k_asm); (case k3 => k_asm); (case k4 => k_asm); (case k5 => k_asm); (case kK => exact rfl); (case kd => (dsimp only [Around.deeper]; omega)); (case ku => (dsimp only [Around.deeper]; omega))); intro tS hS tkS FS NS; dsimp only) | walk1) | (dsimp only; (first | (k_here; (with_reducible show wpAny _ _ (call (Value.type "list") [Value.ref _]) _ _ _); (rename IsRange _ _ _ _ _ _ _ _ => rgX); k_dflt (refine' list_row ?k0 ?k1 ?k2 rgX ?k4 ?k5 ?k6 ?_; (case k0 => rfl); (case k1 => k_asm); (case k2 => k_asm); (case k4 => rw [hca]); (case k5 => exact hp1); (case k6 => exact hp3)); intro Dr vr cr hR tkR FR NR lR IR; dsimp only) | ((with_reducible show wpAny _ _ (exec (Stmt.For _ _ _ _ _) _) _ _ _); (k_here; (rename Fr _ _ _ _ => lF'); (with_unfolding_all refine' For_turns lF' ?_; k_whole))) | ((with_reducible show wpAny _ _ (subscriptTail _ (Expr.Slice none (some (Expr.BoolOp _ _ _)) none _) _ _) _ _ _); (with_reducible rename Fr _ _ _ _ => F'); (with_reducible rename News _ _ _ _ => N'); k_dflt (first | refine slice_strN_nn (hsz := ?hsz) (s := ⟨_, _, _, _, _⟩) F' N' ?_ | refine slice_strN_ns (hsz := ?hsz) (s := ⟨_, _, _, _, _⟩) F' N' ?_); (case hsz => size_fits); intro _ _ _ _ _; (try dsimp only)) | ((with_reducible show wpAny _ _ (truthy (Value.int _ _)) _ _ _); (k_here; k_dflt (refine truthy_eq (by assumption) ?_))) | ((with_reducible show wpAny _ _ (truthy (Value.int _ _)) _ _ _); (k_here; k_dflt (refine truthy_ne (by assumption) ?_))) | ((with_reducible show wpAny _ _ (truthy (Value.str _ _)) _ _ _); (k_here; k_dflt (refine truthy_sne (by assumption) (by omega) ?_); intro kT)) | (k_here; (with_reducible show wpAny _ _ (subscriptTail _ _ (Value.str _ _) (Value.int _ _)) _ _ _); k_dflt (refine' KXi.item ?hk ?h0 ?h1 ?h2 ?_; (case hk => assumption); (case h0 => omega); (case h1 => omega); (case h2 => omega)); intro kxiE) | (k_here; (with_reducible show wpAny _ _ (subscriptTail _ _ (Value.str _ _) (Value.int _ _)) _ _ _); k_dflt (refine' KXi.item ?hk ?h0 ?h1 ?h2 ?_; (case hk => assumption); (case h0 => omega); (case h1 => omega); (case h2 => omega)); intro kxiE) | (k_here; (with_reducible show wpAny _ _ (call (Value.ref 76) [Value.str _ _, Value.str _ _]) _ _ _); k_dflt (refine' subst_c _ _ _ _ _ _ _ _ ?hx ?hy (_ + 1) (_ + 3) _ _ _ _ _ _ _ _ _ _ _ _ _ _ _ _ ?k1 ?k2 ?k3 ?k4 ?k5 ?kK ?kd ?ku ?_; (case hx => omega); (case hy => omega); (case k1 => k_asm); (case k2 => k_asm); (case k3 => k_asm); (case k4 => k_asm); (case k5 => k_asm); (case kK => exact rfl); (case kd => (dsimp only [Around.deeper]; omega)); (case ku => (dsimp only [Around.deeper]; omega))); intro tS hS tkS FS NS; dsimp only) | walk1)) | (leave1; (try dsimp only))))
          · (with_reducible rename (Txt.item xs _ == Txt.item ys _) = true => h9)
            (with_reducible rename Fr _ _ _ (fun z => if z = Str.ofString "post" then _ else _) => F9)
            (with_reducible rename News _ _ _ news => N9)
            (with_reducible rename ((Txt.slice ys _ _).length : Int) ≠ 0 => h8)
            exact WhileStep.intro (n' := n - (0 + 1)) F9 N9 (by omega) ⟨0 + 1, _, ta, tb, rfl, by omega, mW_post, rfl, eqEnd_succ heq2 (eq_of_beq h9)⟩
          · (with_reducible rename (Txt.item xs _ == Txt.item ys _) = false => h9)
            (with_reducible rename ((Txt.slice ys _ _).length : Int) ≠ 0 => h8)
            exact ⟨rfl, 0, tq, ta, tb, _, _, rfl, by k_asm, by k_asm, by omega, heq2, fun e => by rw [e] at h9; simp at h9⟩
          · (with_reducible rename ((Txt.slice ys _ _).length : Int) = 0 => h8)
            have hqn' : 0 = n := by omega
            exact absurd (hbad (hqn' ▸ heq2)) hnk
          · (with_reducible rename ((Txt.slice xs _ _).length : Int) = 0 => h8)
            have hqn' : 0 = n := by omega
            exact absurd (hbad (hqn' ▸ heq2)) hnk
        · rw [cutq_pos _ hq0] at hsx hsy
          have hz : -((q : Nat) : Int) ≠ 0 := by omega
          (repeat' (first | ((with_reducible rename (_ → _ → _) ∧ (_ → _) => z9); clear z9) | (k_unfold; (try dsimp only)) | (first | (k_here; (with_reducible show wpAny _ _ (call (Value.type "list") [Value.ref _]) _ _ _); (rename IsRange _ _ _ _ _ _ _ _ => rgX); k_dflt (refine' list_row ?k0 ?k1 ?k2 rgX ?k4 ?k5 ?k6 ?_; (case k0 => rfl); (case k1 => k_asm); (case k2 => k_asm); (case k4 => rw [hca]); (case k5 => exact hp1); (case k6 => exact hp3)); intro Dr vr cr hR tkR FR NR lR IR; dsimp only) | ((with_reducible show wpAny _ _ (exec (Stmt.For _ _ _ _ _) _) _ _ _); (k_here; (rename Fr _ _ _ _ => lF'); (with_unfolding_all refine' For_turns lF' ?_; k_whole))) | ((with_reducible show wpAny _ _ (subscriptTail _ (Expr.Slice none (some (Expr.BoolOp _ _ _)) none _) _ _) _ _ _); (with_reducible rename Fr _ _ _ _ => F'); (with_reducible rename News _ _ _ _ => N'); k_dflt (first | refine slice_strN_nn (hsz := ?hsz) (s := ⟨_, _, _, _, _⟩) F' N' ?_ | refine slice_strN_ns (hsz := ?hsz) (s := ⟨_, _, _, _, _⟩) F' N' ?_); (case hsz => size_fits); intro _ _ _ _ _; (try dsimp only)) | ((with_reducible show wpAny _ _ (truthy (Value.int _ _)) _ _ _); (k_here; k_dflt (refine truthy_eq (by assumption) ?_))) | ((with_reducible show wpAny _ _ (truthy (Value.int _ _)) _ _ _); (k_here; k_dflt (refine truthy_ne (by assumption) ?_))) | ((with_reducible show wpAny _ _ (truthy (Value.str _ _)) _ _ _); (k_here; k_dflt (refine truthy_sne (by assumption) (by omega) ?_); intro kT)) | (k_here; (with_reducible show wpAny _ _ (subscriptTail _ _ (Value.str _ _) (Value.int _ _)) _ _ _); k_dflt (refine' KXi.item ?hk ?h0 ?h1 ?h2 ?_; (case hk => assumption); (case h0 => omega); (case h1 => omega); (case h2 => omega)); intro kxiE) | (k_here; (with_reducible show wpAny _ _ (subscriptTail _ _ (Value.str _ _) (Value.int _ _)) _ _ _); k_dflt (refine' KXi.item ?hk ?h0 ?h1 ?h2 ?_; (case hk => assumption); (case h0 => omega); (case h1 => omega); (case h2 => omega)); intro kxiE) | (k_here; (with_reducible show wpAny _ _ (call (Value.ref 76) [Value.str _ _, Value.str _ _]) _ _ _); k_dflt (refine' subst_c _ _ _ _ _ _ _ _ ?hx ?hy (_ + 1) (_ + 3) _ _ _ _ _ _ _ _ _ _ _ _ _ _ _ _ ?k1 ?k2 ?k3 ?k4 ?k5 ?kK ?kd ?ku ?_; (case hx => omega); (case hy => omega); (case k1 => k_asm); (case k2 => k_asm); (case k3 => k_asm); (case k4 => k_asm); (case k5 => k_asm); (case kK => exact rfl); (case kd => (dsimp only [Around.deeper]; omega)); (case ku => (dsimp only [Around.deeper]; omega))); intro tS hS tkS FS NS; dsimp only) | walk1) | (dsimp only; (first | (k_here; (with_reducible show wpAny _ _ (call (Value.type "list") [Value.ref _]) _ _ _); (rename IsRange _ _ _ _ _ _ _ _ => rgX); k_dflt (refine' list_row ?k0 ?k1 ?k2 rgX ?k4 ?k5 ?k6 ?_; (case k0 => rfl); (case k1 => k_asm); (case k2 => k_asm); (case k4 => rw [hca]); (case k5 => exact hp1); (case k6 => exact hp3)); intro Dr vr cr hR tkR FR NR lR IR; dsimp only) | ((with_reducible show wpAny _ _ (exec (Stmt.For _ _ _ _ _) _) _ _ _); (k_here; (rename Fr _ _ _ _ => lF'); (with_unfolding_all refine' For_turns lF' ?_; k_whole))) | ((with_reducible show wpAny _ _ (subscriptTail _ (Expr.Slice none (some (Expr.BoolOp _ _ _)) none _) _ _) _ _ _); (with_reducible rename Fr _ _ _ _ => F'); (with_reducible rename News _ _ _ _ => N'); k_dflt (first | refine slice_strN_nn (hsz := ?hsz) (s := ⟨_, _, _, _, _⟩) F' N' ?_ | refine slice_strN_ns (hsz := ?hsz) (s := ⟨_, _, _, _, _⟩) F' N' ?_); (case hsz => size_fits); intro _ _ _ _ _; (try dsimp only)) | ((with_reducible show wpAny _ _ (truthy (Value.int _ _)) _ _ _); (k_here; k_dflt (refine truthy_eq (by assumption) ?_))) | ((with_reducible show wpAny _ _ (truthy (Value.int _ _)) _ _ _); (k_here; k_dflt (refine truthy_ne (by assumption) ?_))) | ((with_reducible show wpAny _ _ (truthy (Value.str _ _)) _ _ _); (k_here; k_dflt (refine truthy_sne (by assumption) (by omega) ?_); intro kT)) | (k_here; (with_reducible show wpAny _ _ (subscriptTail _ _ (Value.str _ _) (Value.int _ _)) _ _ _); k_dflt (refine' KXi.item ?hk ?h0 ?h1 ?h2 ?_; (case hk => assumption); (case h0 => omega); (case h1 => omega); (case h2 => omega)); intro kxiE) | (k_here; (with_reducible show wpAny _ _ (subscriptTail _ _ (Value.str _ _) (Value.int _ _)) _ _ _); k_dflt (refine' KXi.item ?hk ?h0 ?h1 ?h2 ?_; (case hk => assumption); (case h0 => omega); (case h1 => omega); (case h2 => omega)); intro kxiE) | (k_here; (with_reducible show wpAny _ _ (call (Value.ref 76) [Value.str _ _, Value.str _ _]) _ _ _); k_dflt (refine' subst_c _ _ _ _ _ _ _ _ ?hx ?hy (_ + 1) (_ + 3) _ _ _ _ _ _ _ _ _ _ _ _ _ _ _ _ ?k1 ?k2 ?k3 ?k4 ?k5 ?kK ?kd ?ku ?_; (case hx => omega); (case hy => omega); (case k1 => k_asm); (case k2 => k_asm); (case k3 => k_asm); (case k4 => k_asm); (case k5 => k_asm); (case kK => exact rfl); (case kd => (dsimp only [Around.deeper]; omega)); (case ku => (dsimp only [Around.deeper]; omega))); intro tS hS tkS FS NS; dsimp only) | walk1)) | (leave1; (try dsimp only))))
          · (with_reducible rename (Txt.item xs _ == Txt.item ys _) = true => h9)
            (with_reducible rename Fr _ _ _ (fun z => if z = Str.ofString "post" then _ else _) => F9)
            (with_reducible rename News _ _ _ news => N9)
            (with_reducible rename ((Txt.slice ys _ _).length : Int) ≠ 0 => h8)
            exact WhileStep.intro (n' := n - (q + 1)) F9 N9 (by omega) ⟨q + 1, _, ta, tb, rfl, by omega, mW_post, rfl, eqEnd_succ heq2 (eq_of_beq h9)⟩
          · (with_reducible rename (Txt.item xs _ == Txt.item ys _) = false => h9)
            (with_reducible rename ((Txt.slice ys _ _).length : Int) ≠ 0 => h8)
            exact ⟨rfl, q, tq, ta, tb, _, _, rfl, by k_asm, by k_asm, by omega, heq2, fun e => by rw [e] at h9; simp at h9⟩
          · (with_reducible rename ((Txt.slice ys _ _).length : Int) = 0 => h8)
            have hqn' : q = n := by omega
            exact absurd (hbad (hqn' ▸ heq2)) hnk
          · (with_reducible rename ((Txt.slice xs _ _).length : Int) = 0 => h8)
            have hqn' : q = n := by omega
            exact absurd (hbad (hqn' ▸ heq2)) hnk
    case rest2 =>
      rintro f s' ⟨rfl, q, tq, ta, tb, h, tk', rfl, F5, N5, hqn, heq2, hnq⟩
      clear F4 N4
      have hca := hcx q (by omega)
      have hcb := hcy q (by omega)
      have hfin : FinL x y k q := ⟨hk3, by omega, heq, hnk, hxs ▸ hys ▸ heq2, hxs ▸ hys ▸ hnq⟩
      clear hcx hcy hbad heq2 hnq heq hnk
      dsimp only
      iterate 2 (first | (k_here; (with_reducible show wpAny _ _ (call (Value.type "list") [Value.ref _]) _ _ _); (rename IsRange _ _ _ _ _ _ _ _ => rgX); k_dflt (refine' list_row ?k0 ?k1 ?k2 rgX ?k4 ?k5 ?k6 ?_; (case k0 => rfl); (case k1 => k_asm); (case k2 => k_asm); (case k4 => rw [hca]); (case k5 => exact hp1); (case k6 => exact hp3)); intro Dr vr cr hR tkR FR NR lR IR; dsimp only) | ((with_reducible show wpAny _ _ (exec (Stmt.For _ _ _ _ _) _) _ _ _); (k_here; (rename Fr _ _ _ _ => lF'); (with_unfolding_all refine' For_turns lF' ?_; k_whole))) | ((with_reducible show wpAny _ _ (subscriptTail _ (Expr.Slice none (some (Expr.BoolOp _ _ _)) none _) _ _) _ _ _); (with_reducible rename Fr _ _ _ _ => F'); (with_reducible rename News _ _ _ _ => N'); k_dflt (first | refine slice_strN_nn (hsz := ?hsz) (s := ⟨_, _, _, _, _⟩) F' N' ?_ | refine slice_strN_ns (hsz := ?hsz) (s := ⟨_, _, _, _, _⟩) F' N' ?_); (case hsz => size_fits); intro _ _ _ _ _; (try dsimp only)) | ((with_reducible show wpAny _ _ (truthy (Value.int _ _)) _ _ _); (k_here; k_dflt (refine truthy_eq (by assumption) ?_))) | ((with_reducible show wpAny _ _ (truthy (Value.int _ _)) _ _ _); (k_here; k_dflt (refine truthy_ne (by assumption) ?_))) | ((with_reducible show wpAny _ _ (truthy (Value.str _ _)) _ _ _); (k_here; k_dflt (refine truthy_sne (by assumption) (by omega) ?_); intro kT)) | (k_here; (with_reducible show wpAny _ _ (subscriptTail _ _ (Value.str _ _) (Value.int _ _)) _ _ _); k_dflt (refine' KXi.item ?hk ?h0 ?h1 ?h2 ?_; (case hk => assumption); (case h0 => omega); (case h1 => omega); (case h2 => omega)); intro kxiE) | (k_here; (with_reducible show wpAny _ _ (subscriptTail _ _ (Value.str _ _) (Value.int _ _)) _ _ _); k_dflt (refine' KXi.item ?hk ?h0 ?h1 ?h2 ?_; (case hk => assumption); (case h0 => omega); (case h1 => omega); (case h2 => omega)); intro kxiE) | (k_here; (with_reducible show wpAny _ _ (call (Value.ref 76) [Value.str _ _, Value.str _ _]) _ _ _); k_dflt (refine' subst_c _ _ _ _ _ _ _ _ ?hx ?hy (_ + 1) (_ + 3) _ _ _ _ _ _ _ _ _ _ _ _ _ _ _ _ ?k1 ?k2 ?k3 ?k4 ?k5 ?kK ?kd ?ku ?_; (case hx => omega); (case hy => omega); (case k1 => k_asm); (case k2 => k_asm); (case k3 => k_asm); (case k4 => k_asm); (case k5 => k_asm); (case kK => exact rfl); (case kd => (dsimp only [Around.deeper]; omega)); (case ku => (dsimp only [Around.deeper]; omega))); intro tS hS tkS FS NS; dsimp only) | walk1)
      k_here
      refine wpAny_mono (Q := CutV (cutq xs q) g9 L9 news (mW (mV x tx y ty tz k tkQ) xs ta ys tb q tq) s) ?c1 ?d1 (fun _ _ e => e)
      case c1 =>
        rcases Nat.eq_zero_or_pos q with rfl | hq0
        · have hz : -(((0 : Nat)) : Int) = 0 := rfl
          (repeat' (first | ((with_reducible rename (_ → _ → _) ∧ (_ → _) => z9); clear z9) | (k_unfold; (try dsimp only)) | (first | (k_here; (with_reducible show wpAny _ _ (call (Value.type "list") [Value.ref _]) _ _ _); (rename IsRange _ _ _ _ _ _ _ _ => rgX); k_dflt (refine' list_row ?k0 ?k1 ?k2 rgX ?k4 ?k5 ?k6 ?_; (case k0 => rfl); (case k1 => k_asm); (case k2 => k_asm); (case k4 => rw [hca]); (case k5 => exact hp1); (case k6 => exact hp3)); intro Dr vr cr hR tkR FR NR lR IR; dsimp only) | ((with_reducible show wpAny _ _ (exec (Stmt.For _ _ _ _ _) _) _ _ _); (k_here; (rename Fr _ _ _ _ => lF'); (with_unfolding_all refine' For_turns lF' ?_; k_whole))) | ((with_reducible show wpAny _ _ (subscriptTail _ (Expr.Slice none (some (Expr.BoolOp _ _ _)) none _) _ _) _ _ _); (with_reducible rename Fr _ _ _ _ => F'); (with_reducible rename News _ _ _ _ => N'); k_dflt (first | refine slice_strN_nn (hsz := ?hsz) (s := ⟨_, _, _, _, _⟩) F' N' ?_ | refine slice_strN_ns (hsz := ?hsz) (s := ⟨_, _, _, _, _⟩) F' N' ?_); (case hsz => size_fits); intro _ _ _ _ _; (try dsimp only)) | ((with_reducible show wpAny _ _ (truthy (Value.int _ _)) _ _ _); (k_here; k_dflt (refine truthy_eq (by assumption) ?_))) | ((with_reducible show wpAny _ _ (truthy (Value.int _ _)) _ _ _); (k_here; k_dflt (refine truthy_ne (by assumption) ?_))) | ((with_reducible show wpAny _ _ (truthy (Value.str _ _)) _ _ _); (k_here; k_dflt (refine truthy_sne (by assumption) (by omega) ?_); intro kT)) | (k_here; (with_reducible show wpAny _ _ (subscriptTail _ _ (Value.str _ _) (Value.int _ _)) _ _ _); k_dflt (refine' KXi.item ?hk ?h0 ?h1 ?h2 ?_; (case hk => assumption); (case h0 => omega); (case h1 => omega); (case h2 => omega)); intro kxiE) | (k_here; (with_reducible show wpAny _ _ (subscriptTail _ _ (Value.str _ _) (Value.int _ _)) _ _ _); k_dflt (refine' KXi.item ?hk ?h0 ?h1 ?h2 ?_; (case hk => assumption); (case h0 => omega); (case h1 => omega); (case h2 => omega)); intro kxiE) | (k_here; (with_reducible show wpAny _ _ (call (Value.ref 76) [Value.str _ _, Value.str _ _]) _ _ _); k_dflt (refine' subst_c _ _ _ _ _ _ _ _ ?hx ?hy (_ + 1) (_ + 3) _ _ _ _ _ _ _ _ _ _ _ _ _ _ _ _ ?k1 ?k2 ?k3 ?k4 ?k5 ?kK ?kd ?ku ?_; (case hx => omega); (case hy => omega); (case k1 => k_asm); (case k2 => k_asm); (case k3 => k_asm); (case k4 => k_asm); (case k5 => k_asm); (case kK => exact rfl); (case kd => (dsimp only [Around.deeper]; omega)); (case ku => (dsimp only [Around.deeper]; omega))); intro tS hS tkS FS NS; dsimp only) | walk1) | (dsimp only; (first | (k_here; (with_reducible show wpAny _ _ (call (Value.type "list") [Value.ref _]) _ _ _); (rename IsRange _ _ _ _ _ _ _ _ => rgX); k_dflt (refine' list_row ?k0 ?k1 ?k2 rgX ?k4 ?k5 ?k6 ?_; (case k0 => rfl); (case k1 => k_asm); (case k2 => k_asm); (case k4 => rw [hca]); (case k5 => exact hp1); (case k6 => exact hp3)); intro Dr vr cr hR tkR FR NR lR IR; dsimp only) | ((with_reducible show wpAny _ _ (exec (Stmt.For _ _ _ _ _) _) _ _ _); (k_here; (rename Fr _ _ _ _ => lF'); (with_unfolding_all refine' For_turns lF' ?_; k_whole))) | ((with_reducible show wpAny _ _ (subscriptTail _ (Expr.Slice none (some (Expr.BoolOp _ _ _)) none _) _ _) _ _ _); (with_reducible rename Fr _ _ _ _ => F'); (with_reducible rename News _ _ _ _ => N'); k_dflt (first | refine slice_strN_nn (hsz := ?hsz) (s := ⟨_, _, _, _, _⟩) F' N' ?_ | refine slice_strN_ns (hsz := ?hsz) (s := ⟨_, _, _, _, _⟩) F' N' ?_); (case hsz => size_fits); intro _ _ _ _ _; (try dsimp only)) | ((with_reducible show wpAny _ _ (truthy (Value.int _ _)) _ _ _); (k_here; k_dflt (refine truthy_eq (by assumption) ?_))) | ((with_reducible show wpAny _ _ (truthy (Value.int _ _)) _ _ _); (k_here; k_dflt (refine truthy_ne (by assumption) ?_))) | ((with_reducible show wpAny _ _ (truthy (Value.str _ _)) _ _ _); (k_here; k_dflt (refine truthy_sne (by assumption) (by omega) ?_); intro kT)) | (k_here; (with_reducible show wpAny _ _ (subscriptTail _ _ (Value.str _ _) (Value.int _ _)) _ _ _); k_dflt (refine' KXi.item ?hk ?h0 ?h1 ?h2 ?_; (case hk => assumption); (case h0 => omega); (case h1 => omega); (case h2 => omega)); intro kxiE) | (k_here; (with_reducible show wpAny _ _ (subscriptTail _ _ (Value.str _ _) (Value.int _ _)) _ _ _); k_dflt (refine' KXi.item ?hk ?h0 ?h1 ?h2 ?_; (case hk => assumption); (case h0 => omega); (case h1 => omega); (case h2 => omega)); intro kxiE) | (k_here; (with_reducible show wpAny _ _ (call (Value.ref 76) [Value.str _ _, Value.str _ _]) _ _ _); k_dflt (refine' subst_c _ _ _ _ _ _ _ _ ?hx ?hy (_ + 1) (_ + 3) _ _ _ _ _ _ _ _ _ _ _ _ _ _ _ _ ?k1 ?k2 ?k3 ?k4 ?k5 ?kK ?kd ?ku ?_; (case hx => omega); (case hy => omega); (case k1 => k_asm); (case k2 => k_asm); (case k3 => k_asm); (case k4 => k_asm); (case k5 => k_asm); (case kK => exact rfl); (case kd => (dsimp only [Around.deeper]; omega)); (case ku => (dsimp only [Around.deeper]; omega))); intro tS hS tkS FS NS; dsimp only) | walk1)) | (leave1; (try dsimp only))))
          exact ⟨_, _, _, rfl, rfl, by k_asm, by k_asm⟩
        · have hz : -((q : Nat) : Int) ≠ 0 := by omega
          rw [cutq_pos _ hq0]
          (repeat' (first | ((with_reducible rename (_ → _ → _) ∧ (_ → _) => z9); clear z9) | (k_unfold; (try dsimp only)) | (first | (k_here; (with_reducible show wpAny _ _ (call (Value.type "list") [Value.ref _]) _ _ _); (rename IsRange _ _ _ _ _ _ _ _ => rgX); k_dflt (refine' list_row ?k0 ?k1 ?k2 rgX ?k4 ?k5 ?k6 ?_; (case k0 => rfl); (case k1 => k_asm); (case k2 => k_asm); (case k4 => rw [hca]); (case k5 => exact hp1); (case k6 => exact hp3)); intro Dr vr cr hR tkR FR NR lR IR; dsimp only) | ((with_reducible show wpAny _ _ (exec (Stmt.For _ _ _ _ _) _) _ _ _); (k_here; (rename Fr _ _ _ _ => lF'); (with_unfolding_all refine' For_turns lF' ?_; k_whole))) | ((with_reducible show wpAny _ _ (subscriptTail _ (Expr.Slice none (some (Expr.BoolOp _ _ _)) none _) _ _) _ _ _); (with_reducible rename Fr _ _ _ _ => F'); (with_reducible rename News _ _ _ _ => N'); k_dflt (first | refine slice_strN_nn (hsz := ?hsz) (s := ⟨_, _, _, _, _⟩) F' N' ?_ | refine slice_strN_ns (hsz := ?hsz) (s := ⟨_, _, _, _, _⟩) F' N' ?_); (case hsz => size_fits); intro _ _ _ _ _; (try dsimp only)) | ((with_reducible show wpAny _ _ (truthy (Value.int _ _)) _ _ _); (k_here; k_dflt (refine truthy_eq (by assumption) ?_))) | ((with_reducible show wpAny _ _ (truthy (Value.int _ _)) _ _ _); (k_here; k_dflt (refine truthy_ne (by assumption) ?_))) | ((with_reducible show wpAny _ _ (truthy (Value.str _ _)) _ _ _); (k_here; k_dflt (refine truthy_sne (by assumption) (by omega) ?_); intro kT)) | (k_here; (with_reducible show wpAny _ _ (subscriptTail _ _ (Value.str _ _) (Value.int _ _)) _ _ _); k_dflt (refine' KXi.item ?hk ?h0 ?h1 ?h2 ?_; (case hk => assumption); (case h0 => omega); (case h1 => omega); (case h2 => omega)); intro kxiE) | (k_here; (with_reducible show wpAny _ _ (subscriptTail _ _ (Value.str _ _) (Value.int _ _)) _ _ _); k_dflt (refine' KXi.item ?hk ?h0 ?h1 ?h2 ?_; (case hk => assumption); (case h0 => omega); (case h1 => omega); (case h2 => omega)); intro kxiE) | (k_here; (with_reducible show wpAny _ _ (call (Value.ref 76) [Value.str _ _, Value.str _ _]) _ _ _); k_dflt (refine' subst_c _ _ _ _ _ _ _ _ ?hx ?hy (_ + 1) (_ + 3) _ _ _ _ _ _ _ _ _ _ _ _ _ _ _ _ ?k1 ?k2 ?k3 ?k4 ?k5 ?kK ?kd ?ku ?_; (case hx => omega); (case hy => omega); (case k1 => k_asm); (case k2 => k_asm); (case k3 => k_asm); (case k4 => k_asm); (case k5 => k_asm); (case kK => exact rfl); (case kd => (dsimp only [Around.deeper]; omega)); (case ku => (dsimp only [Around.deeper]; omega))); intro tS hS tkS FS NS; dsimp only) | walk1) | (dsimp only; (first | (k_here; (with_reducible show wpAny _ _ (call (Value.type "list") [Value.ref _]) _ _ _); (rename IsRange _ _ _ _ _ _ _ _ => rgX); k_dflt (refine' list_row ?k0 ?k1 ?k2 rgX ?k4 ?k5 ?k6 ?_; (case k0 => rfl); (case k1 => k_asm); (case k2 => k_asm); (case k4 => rw [hca]); (case k5 => exact hp1); (case k6 => exact hp3)); intro Dr vr cr hR tkR FR NR lR IR; dsimp only) | ((with_reducible show wpAny _ _ (exec (Stmt.For _ _ _ _ _) _) _ _ _); (k_here; (rename Fr _ _ _ _ => lF'); (with_unfolding_all refine' For_turns lF' ?_; k_whole))) | ((with_reducible show wpAny _ _ (subscriptTail _ (Expr.Slice none (some (Expr.BoolOp _ _ _)) none _) _ _) _ _ _); (with_reducible rename Fr _ _ _ _ => F'); (with_reducible rename News _ _ _ _ => N'); k_dflt (first | refine slice_strN_nn (hsz := ?hsz) (s := ⟨_, _, _, _, _⟩) F' N' ?_ | refine slice_strN_ns (hsz := ?hsz) (s := ⟨_, _, _, _, _⟩) F' N' ?_); (case hsz => size_fits); intro _ _ _ _ _; (try dsimp only)) | ((with_reducible show wpAny _ _ (truthy (Value.int _ _)) _ _ _); (k_here; k_dflt (refine truthy_eq (by assumption) ?_))) | ((with_reducible show wpAny _ _ (truthy (Value.int _ _)) _ _ _); (k_here; k_dflt (refine truthy_ne (by assumption) ?_))) | ((with_reducible show wpAny _ _ (truthy (Value.str _ _)) _ _ _); (k_here; k_dflt (refine truthy_sne (by assumption) (by omega) ?_); intro kT)) | (k_here; (with_reducible show wpAny _ _ (subscriptTail _ _ (Value.str _ _) (Value.int _ _)) _ _ _); k_dflt (refine' KXi.item ?hk ?h0 ?h1 ?h2 ?_; (case hk => assumption); (case h0 => omega); (case h1 => omega); (case h2 => omega)); intro kxiE) | (k_here; (with_reducible show wpAny _ _ (subscriptTail _ _ (Value.str _ _) (Value.int _ _)) _ _ _); k_dflt (refine' KXi.item ?hk ?h0 ?h1 ?h2 ?_; (case hk => assumption); (case h0 => omega); (case h1 => omega); (case h2 => omega)); intro kxiE) | (k_here; (with_reducible show wpAny _ _ (call (Value.ref 76) [Value.str _ _, Value.str _ _]) _ _ _); k_dflt (refine' subst_c _ _ _ _ _ _ _ _ ?hx ?hy (_ + 1) (_ + 3) _ _ _ _ _ _ _ _ _ _ _ _ _ _ _ _ ?k1 ?k2 ?k3 ?k4 ?k5 ?kK ?kd ?ku ?_; (case hx => omega); (case hy => omega); (case k1 => k_asm); (case k2 => k_asm); (case k3 => k_asm); (case k4 => k_asm); (case k5 => k_asm); (case kK => exact rfl); (case kd => (dsimp only [Around.deeper]; omega)); (case ku => (dsimp only [Around.deeper]; omega))); intro tS hS tkS FS NS; dsimp only) | walk1)) | (leave1; (try dsimp only))))
          exact ⟨_, _, _, rfl, rfl, by k_asm, by k_asm⟩
      case d1 =>
        rintro v s' ⟨t6, h6, tk6, rfl, rfl, F6, N6⟩
        clear F5 N5
        dsimp only
        iterate 4 (first | (k_here; (with_reducible show wpAny _ _ (call (Value.type "list") [Value.ref _]) _ _ _); (rename IsRange _ _ _ _ _ _ _ _ => rgX); k_dflt (refine' list_row ?k0 ?k1 ?k2 rgX ?k4 ?k5 ?k6 ?_; (case k0 => rfl); (case k1 => k_asm); (case k2 => k_asm); (case k4 => rw [hca]); (case k5 => exact hp1); (case k6 => exact hp3)); intro Dr vr cr hR tkR FR NR lR IR; dsimp only) | ((with_reducible show wpAny _ _ (exec (Stmt.For _ _ _ _ _) _) _ _ _); (k_here; (rename Fr _ _ _ _ => lF'); (with_unfolding_all refine' For_turns lF' ?_; k_whole))) | ((with_reducible show wpAny _ _ (subscriptTail _ (Expr.Slice none (some (Expr.BoolOp _ _ _)) none _) _ _) _ _ _); (with_reducible rename Fr _ _ _ _ => F'); (with_reducible rename News _ _ _ _ => N'); k_dflt (first | refine slice_strN_nn (hsz := ?hsz) (s := ⟨_, _, _, _, _⟩) F' N' ?_ | refine slice_strN_ns (hsz := ?hsz) (s := ⟨_, _, _, _, _⟩) F' N' ?_); (case hsz => size_fits); intro _ _ _ _ _; (try dsimp only)) | ((with_reducible show wpAny _ _ (truthy (Value.int _ _)) _ _ _); (k_here; k_dflt (refine truthy_eq (by assumption) ?_))) | ((with_reducible show wpAny _ _ (truthy (Value.int _ _)) _ _ _); (k_here; k_dflt (refine truthy_ne (by assumption) ?_))) | ((with_reducible show wpAny _ _ (truthy (Value.str _ _)) _ _ _); (k_here; k_dflt (refine truthy_sne (by assumption) (by omega) ?_); intro kT)) | (k_here; (with_reducible show wpAny _ _ (subscriptTail _ _ (Value.str _ _) (Value.int _ _)) _ _ _); k_dflt (refine' KXi.item ?hk ?h0 ?h1 ?h2 ?_; (case hk => assumption); (case h0 => omega); (case h1 => omega); (case h2 => omega)); intro kxiE) | (k_here; (with_reducible show wpAny _ _ (subscriptTail _ _ (Value.str _ _) (Value.int _ _)) _ _ _); k_dflt (refine' KXi.item ?hk ?h0 ?h1 ?h2 ?_; (case hk => assumption); (case h0 => omega); (case h1 => omega); (case h2 => omega)); intro kxiE) | (k_here; (with_reducible show wpAny _ _ (call (Value.ref 76) [Value.str _ _, Value.str _ _]) _ _ _); k_dflt (refine' subst_c _ _ _ _ _ _ _ _ ?hx ?hy (_ + 1) (_ + 3) _ _ _ _ _ _ _ _ _ _ _ _ _ _ _ _ ?k1 ?k2 ?k3 ?k4 ?k5 ?kK ?kd ?ku ?_; (case hx => omega); (case hy => omega); (case k1 => k_asm); (case k2 => k_asm); (case k3 => k_asm); (case k4 => k_asm); (case k5 => k_asm); (case kK => exact rfl); (case kd => (dsimp only [Around.deeper]; omega)); (case ku => (dsimp only [Around.deeper]; omega))); intro tS hS tkS FS NS; dsimp only) | walk1)
        (with_reducible rename Fr _ _ _ (fun z => if z = Str.ofString "a" then _ else _) => F7)
        (with_reducible rename News _ _ _ news => N7)
        k_here
        refine wpAny_mono (Q := CutV (cutq ys q) g9 L9 news (fun z => if z = Str.ofString "a" then some (.str (cutq xs q) t6) else mW (mV x tx y ty tz k tkQ) xs ta ys tb q tq z) s) ?c2 ?d2 (fun _ _ e => e)
        case c2 =>
          rcases Nat.eq_zero_or_pos q with rfl | hq0
          · have hz : -(((0 : Nat)) : Int) = 0 := rfl
            (repeat' (first | ((with_reducible rename (_ → _ → _) ∧ (_ → _) => z9); clear z9) | (k_unfold; (try dsimp only)) | (first | (k_here; (with_reducible show wpAny _ _ (call (Value.type "list") [Value.ref _]) _ _ _); (rename IsRange _ _ _ _ _ _ _ _ => rgX); k_dflt (refine' list_row ?k0 ?k1 ?k2 rgX ?k4 ?k5 ?k6 ?_; (case k0 => rfl); (case k1 => k_asm); (case k2 => k_asm); (case k4 => rw [hca]); (case k5 => exact hp1); (case k6 => exact hp3)); intro Dr vr cr hR tkR FR NR lR IR; dsimp only) | ((with_reducible show wpAny _ _ (exec (Stmt.For _ _ _ _ _) _) _ _ _); (k_here; (rename Fr _ _ _ _ => lF'); (with_unfolding_all refine' For_turns lF' ?_; k_whole))) | ((with_reducible show wpAny _ _ (subscriptTail _ (Expr.Slice none (some (Expr.BoolOp _ _ _)) none _) _ _) _ _ _); (with_reducible rename Fr _ _ _ _ => F'); (with_reducible rename News _ _ _ _ => N'); k_dflt (first | refine slice_strN_nn (hsz := ?hsz) (s := ⟨_, _, _, _, _⟩) F' N' ?_ | refine slice_strN_ns (hsz := ?hsz) (s := ⟨_, _, _, _, _⟩) F' N' ?_); (case hsz => size_fits); intro _ _ _ _ _; (try dsimp only)) | ((with_reducible show wpAny _ _ (truthy (Value.int _ _)) _ _ _); (k_here; k_dflt (refine truthy_eq (by assumption) ?_))) | ((with_reducible show wpAny _ _ (truthy (Value.int _ _)) _ _ _); (k_here; k_dflt (refine truthy_ne (by assumption) ?_))) | ((with_reducible show wpAny _ _ (truthy (Value.str _ _)) _ _ _); (k_here; k_dflt (refine truthy_sne (by assumption) (by omega) ?_); intro kT)) | (k_here; (with_reducible show wpAny _ _ (subscriptTail _ _ (Value.str _ _) (Value.int _ _)) _ _ _); k_dflt (refine' KXi.item ?hk ?h0 ?h1 ?h2 ?_; (case hk => assumption); (case h0 => omega); (case h1 => omega); (case h2 => omega)); intro kxiE) | (k_here; (with_reducible show wpAny _ _ (subscriptTail _ _ (Value.str _ _) (Value.int _ _)) _ _ _); k_dflt (refine' KXi.item ?hk ?h0 ?h1 ?h2 ?_; (case hk => assumption); (case h0 => omega); (case h1 => omega); (case h2 => omega)); intro kxiE) | (k_here; (with_reducible show wpAny _ _ (call (Value.ref 76) [Value.str _ _, Value.str _ _]) _ _ _); k_dflt (refine' subst_c _ _ _ _ _ _ _ _ ?hx ?hy (_ + 1) (_ + 3) _ _ _ _ _ _ _ _ _ _ _ _ _ _ _ _ ?k1 ?k2 ?k3 ?k4 ?k5 ?kK ?kd ?ku ?_; (case hx => omega); (case hy => omega); (case k1 => k_asm); (case k2 => k_asm); (case k3 => k_asm); (case k4 => k_asm); (case k5 => k_asm); (case kK => exact rfl); (case kd => (dsimp only [Around.deeper]; omega)); (case ku => (dsimp only [Around.deeper]; omega))); intro tS hS tkS FS NS; dsimp only) | walk1) | (dsimp only; (first | (k_here; (with_reducible show wpAny _ _ (call (Value.type "list") [Value.ref _]) _ _ _); (rename IsRange _ _ _ _ _ _ _ _ => rgX); k_dflt (refine' list_row ?k0 ?k1 ?k2 rgX ?k4 ?k5 ?k6 ?_; (case k0 => rfl); (case k1 => k_asm); (case k2 => k_asm); (case k4 => rw [hca]); (case k5 => exact hp1); (case k6 => exact hp3)); intro Dr vr cr hR tkR FR NR lR IR; dsimp only) | ((with_reducible show wpAny _ _ (exec (Stmt.For _ _ _ _ _) _) _ _ _); (k_here; (rename Fr _ _ _ _ => lF'); (with_unfolding_all refine' For_turns lF' ?_; k_whole))) | ((with_reducible show wpAny _ _ (subscriptTail _ (Expr.Slice none (some (Expr.BoolOp _ _ _)) none _) _ _) _ _ _); (with_reducible rename Fr _ _ _ _ => F'); (with_reducible rename News _ _ _ _ => N'); k_dflt (first | refine slice_strN_nn (hsz := ?hsz) (s := ⟨_, _, _, _, _⟩) F' N' ?_ | refine slice_strN_ns (hsz := ?hsz) (s := ⟨_, _, _, _, _⟩) F' N' ?_); (case hsz => size_fits); intro _ _ _ _ _; (try dsimp only)) | ((with_reducible show wpAny _ _ (truthy (Value.int _ _)) _ _ _); (k_here; k_dflt (refine truthy_eq (by assumption) ?_))) | ((with_reducible show wpAny _ _ (truthy (Value.int _ _)) _ _ _); (k_here; k_dflt (refine truthy_ne (by assumption) ?_))) | ((with_reducible show wpAny _ _ (truthy (Value.str _ _)) _ _ _); (k_here; k_dflt (refine truthy_sne (by assumption) (by omega) ?_); intro kT)) | (k_here; (with_reducible show wpAny _ _ (subscriptTail _ _ (Value.str _ _) (Value.int _ _)) _ _ _); k_dflt (refine' KXi.item ?hk ?h0 ?h1 ?h2 ?_; (case hk => assumption); (case h0 => omega); (case h1 => omega); (case h2 => omega)); intro kxiE) | (k_here; (with_reducible show wpAny _ _ (subscriptTail _ _ (Value.str _ _) (Value.int _ _)) _ _ _); k_dflt (refine' KXi.item ?hk ?h0 ?h1 ?h2 ?_; (case hk => assumption); (case h0 => omega); (case h1 => omega); (case h2 => omega)); intro kxiE) | (k_here; (with_reducible show wpAny _ _ (call (Value.ref 76) [Value.str _ _, Value.str _ _]) _ _ _); k_dflt (refine' subst_c _ _ _ _ _ _ _ _ ?hx ?hy (_ + 1) (_ + 3) _ _ _ _ _ _ _ _ _ _ _ _ _ _ _ _ ?k1 ?k2 ?k3 ?k4 ?k5 ?kK ?kd ?ku ?_; (case hx => omega); (case hy => omega); (case k1 => k_asm); (case k2 => k_asm); (case k3 => k_asm); (case k4 => k_asm); (case k5 => k_asm); (case kK => exact rfl); (case kd => (dsimp only [Around.deeper]; omega)); (case ku => (dsimp only [Around.deeper]; omega))); intro tS hS tkS FS NS; dsimp only) | walk1)) | (leave1; (try dsimp only))))
            exact ⟨_, _, _, rfl, rfl, by k_asm, by k_asm⟩
          · have hz : -((q : Nat) : Int) ≠ 0 := by omega
            rw [cutq_pos ys hq0]
            (repeat' (first | ((with_reducible rename (_ → _ → _) ∧ (_ → _) => z9); clear z9) | (k_unfold; (try dsimp only)) | (first | (k_here; (with_reducible show wpAny _ _ (call (Value.type "list") [Value.ref _]) _ _ _); (rename IsRange _ _ _ _ _ _ _ _ => rgX); k_dflt (refine' list_row ?k0 ?k1 ?k2 rgX ?k4 ?k5 ?k6 ?_; (case k0 => rfl); (case k1 => k_asm); (case k2 => k_asm); (case k4 => rw [hca]); (case k5 => exact hp1); (case k6 => exact hp3)); intro Dr vr cr hR tkR FR NR lR IR; dsimp only) | ((with_reducible show wpAny _ _ (exec (Stmt.For _ _ _ _ _) _) _ _ _); (k_here; (rename Fr _ _ _ _ => lF'); (with_unfolding_all refine' For_turns lF' ?_; k_whole))) | ((with_reducible show wpAny _ _ (subscriptTail _ (Expr.Slice none (some (Expr.BoolOp _ _ _)) none _) _ _) _ _ _); (with_reducible rename Fr _ _ _ _ => F'); (with_reducible rename News _ _ _ _ => N'); k_dflt (first | refine slice_strN_nn (hsz := ?hsz) (s := ⟨_, _, _, _, _⟩) F' N' ?_ | refine slice_strN_ns (hsz := ?hsz) (s := ⟨_, _, _, _, _⟩) F' N' ?_); (case hsz => size_fits); intro _ _ _ _ _; (try dsimp only)) | ((with_reducible show wpAny _ _ (truthy (Value.int _ _)) _ _ _); (k_here; k_dflt (refine truthy_eq (by assumption) ?_))) | ((with_reducible show wpAny _ _ (truthy (Value.int _ _)) _ _ _); (k_here; k_dflt (refine truthy_ne (by assumption) ?_))) | ((with_reducible show wpAny _ _ (truthy (Value.str _ _)) _ _ _); (k_here; k_dflt (refine truthy_sne (by assumption) (by omega) ?_); intro kT)) | (k_here; (with_reducible show wpAny _ _ (subscriptTail _ _ (Value.str _ _) (Value.int _ _)) _ _ _); k_dflt (refine' KXi.item ?hk ?h0 ?h1 ?h2 ?_; (case hk => assumption); (case h0 => omega); (case h1 => omega); (case h2 => omega)); intro kxiE) | (k_here; (with_reducible show wpAny _ _ (subscriptTail _ _ (Value.str _ _) (Value.int _ _)) _ _ _); k_dflt (refine' KXi.item ?hk ?h0 ?h1 ?h2 ?_; (case hk => assumption); (case h0 => omega); (case h1 => omega); (case h2 => omega)); intro kxiE) | (k_here; (with_reducible show wpAny _ _ (call (Value.ref 76) [Value.str _ _, Value.str _ _]) _ _ _); k_dflt (refine' subst_c _ _ _ _ _ _ _ _ ?hx ?hy (_ + 1) (_ + 3) _ _ _ _ _ _ _ _ _ _ _ _ _ _ _ _ ?k1 ?k2 ?k3 ?k4 ?k5 ?kK ?kd ?ku ?_; (case hx => omega); (case hy => omega); (case k1 => k_asm); (case k2 => k_asm); (case k3 => k_asm); (case k4 => k_asm); (case k5 => k_asm); (case kK => exact rfl); (case kd => (dsimp only [Around.deeper]; omega)); (case ku => (dsimp only [Around.deeper]; omega))); intro tS hS tkS FS NS; dsimp only) | walk1) | (dsimp only; (first | (k_here; (with_reducible show wpAny _ _ (call (Value.type "list") [Value.ref _]) _ _ _); (rename IsRange _ _ _ _ _ _ _ _ => rgX); k_dflt (refine' list_row ?k0 ?k1 ?k2 rgX ?k4 ?k5 ?k6 ?_; (case k0 => rfl); (case k1 => k_asm); (case k2 => k_asm); (case k4 => rw [hca]); (case k5 => exact hp1); (case k6 => exact hp3)); intro Dr vr cr hR tkR FR NR lR IR; dsimp only) | ((with_reducible show wpAny _ _ (exec (Stmt.For _ _ _ _ _) _) _ _ _); (k_here; (rename Fr _ _ _ _ => lF'); (with_unfolding_all refine' For_turns lF' ?_; k_whole))) | ((with_reducible show wpAny _ _ (subscriptTail _ (Expr.Slice none (some (Expr.BoolOp _ _ _)) none _) _ _) _ _ _); (with_reducible rename Fr _ _ _ _ => F'); (with_reducible rename News _ _ _ _ => N'); k_dflt (first | refine slice_strN_nn (hsz := ?hsz) (s := ⟨_, _, _, _, _⟩) F' N' ?_ | refine slice_strN_ns (hsz := ?hsz) (s := ⟨_, _, _, _, _⟩) F' N' ?_); (case hsz => size_fits); intro _ _ _ _ _; (try dsimp only)) | ((with_reducible show wpAny _ _ (truthy (Value.int _ _)) _ _ _); (k_here; k_dflt (refine truthy_eq (by assumption) ?_))) | ((with_reducible show wpAny _ _ (truthy (Value.int _ _)) _ _ _); (k_here; k_dflt (refine truthy_ne (by assumption) ?_))) | ((with_reducible show wpAny _ _ (truthy (Value.str _ _)) _ _ _); (k_here; k_dflt (refine truthy_sne (by assumption) (by omega) ?_); intro kT)) | (k_here; (with_reducible show wpAny _ _ (subscriptTail _ _ (Value.str _ _) (Value.int _ _)) _ _ _); k_dflt (refine' KXi.item ?hk ?h0 ?h1 ?h2 ?_; (case hk => assumption); (case h0 => omega); (case h1 => omega); (case h2 => omega)); intro kxiE) | (k_here; (with_reducible show wpAny _ _ (subscriptTail _ _ (Value.str _ _) (Value.int _ _)) _ _ _); k_dflt (refine' KXi.item ?hk ?h0 ?h1 ?h2 ?_; (case hk => assumption); (case h0 => omega); (case h1 => omega); (case h2 => omega)); intro kxiE) | (k_here; (with_reducible show wpAny _ _ (call (Value.ref 76) [Value.str _ _, Value.str _ _]) _ _ _); k_dflt (refine' subst_c _ _ _ _ _ _ _ _ ?hx ?hy (_ + 1) (_ + 3) _ _ _ _ _ _ _ _ _ _ _ _ _ _ _ _ ?k1 ?k2 ?k3 ?k4 ?k5 ?kK ?kd ?ku ?_; (case hx => omega); (case hy => omega); (case k1 => k_asm); (case k2 => k_asm); (case k3 => k_asm); (case k4 => k_asm); (case k5 => k_asm); (case kK => exact rfl); (case kd => (dsimp only [Around.deeper]; omega)); (case ku => (dsimp only [Around.deeper]; omega))); intro tS hS tkS FS NS; dsimp only) | walk1)) | (leave1; (try dsimp only))))
            exact ⟨_, _, _, rfl, rfl, by k_asm, by k_asm⟩
        case d2 =>
          rintro v s' ⟨t8, h8, tk8, rfl, rfl, F8, N8⟩
          clear F7 N7
          dsimp only
          obtain ⟨p, hp⟩ : ∃ p, p = n - q := ⟨_, rfl⟩
          rw [← hp] at hca hcb
          have hp3 : p ≤ 3 := by omega
          have hp1 : 1 ≤ p := by omega
          have hap : 0 < (cutq xs q).length := by omega
          have hbp : 0 < (cutq ys q).length := by omega
          have hres := hT9.fin k q hfin
          rw [hxs, hys, ← hn, ← hp] at hres
          obtain ⟨hal, hres⟩ := hres
          clear hxs hys
          generalize ha2 : cutq xs q = a2 at *
          generalize hb2 : cutq ys q = b2 at *
          iterate 153 (first | (first | (k_here; (with_reducible show wpAny _ _ (call (Value.type "list") [Value.ref _]) _ _ _); (rename IsRange _ _ _ _ _ _ _ _ => rgX); k_dflt (refine' list_row ?k0 ?k1 ?k2 rgX ?k4 ?k5 ?k6 ?_; (case k0 => rfl); (case k1 => k_asm); (case k2 => k_asm); (case k4 => rw [hca]); (case k5 => exact hp1); (case k6 => exact hp3)); intro Dr vr cr hR tkR FR NR lR IR; dsimp only) | ((with_reducible show wpAny _ _ (exec (Stmt.For _ _ _ _ _) _) _ _ _); (k_here; (rename Fr _ _ _ _ => lF'); (with_unfolding_all refine' For_turns lF' ?_; k_whole))) | ((with_reducible show wpAny _ _ (subscriptTail _ (Expr.Slice none (some (Expr.BoolOp _ _ _)) none _) _ _) _ _ _); (with_reducible rename Fr _ _ _ _ => F'); (with_reducible rename News _ _ _ _ => N'); k_dflt (first | refine slice_strN_nn (hsz := ?hsz) (s := ⟨_, _, _, _, _⟩) F' N' ?_ | refine slice_strN_ns (hsz := ?hsz) (s := ⟨_, _, _, _, _⟩) F' N' ?_); (case hsz => size_fits); intro _ _ _ _ _; (try dsimp only)) | ((with_reducible show wpAny _ _ (truthy (Value.int _ _)) _ _ _); (k_here; k_dflt (refine truthy_eq (by assumption) ?_))) | ((with_reducible show wpAny _ _ (truthy (Value.int _ _)) _ _ _); (k_here; k_dflt (refine truthy_ne (by assumption) ?_))) | ((with_reducible show wpAny _ _ (truthy (Value.str _ _)) _ _ _); (k_here; k_dflt (refine truthy_sne (by assumption) (by omega) ?_); intro kT)) | (k_here; (with_reducible show wpAny _ _ (subscriptTail _ _ (Value.str _ _) (Value.int _ _)) _ _ _); k_dflt (refine' KXi.item ?hk ?h0 ?h1 ?h2 ?_; (case hk => assumption); (case h0 => omega); (case h1 => omega); (case h2 => omega)); intro kxiE) | (k_here; (with_reducible show wpAny _ _ (subscriptTail _ _ (Value.str _ _) (Value.int _ _)) _ _ _); k_dflt (refine' KXi.item ?hk ?h0 ?h1 ?h2 ?_; (case hk => assumption); (case h0 => omega); (case h1 => omega); (case h2 => omega)); intro kxiE) | (k_here; (with_reducible show wpAny _ _ (call (Value.ref 76) [Value.str _ _, Value.str _ _]) _ _ _); k_dflt (refine' subst_c _ _ _ _ _ _ _ _ ?hx ?hy (_ + 1) (_ + 3) _ _ _ _ _ _ _ _ _ _ _ _ _ _ _ _ ?k1 ?k2 ?k3 ?k4 ?k5 ?kK ?kd ?ku ?_; (case hx => omega); (case hy => omega); (case k1 => k_asm); (case k2 => k_asm); (case k3 => k_asm); (case k4 => k_asm); (case k5 => k_asm); (case kK => exact rfl); (case kd => (dsimp only [Around.deeper]; omega)); (case ku => (dsimp only [Around.deeper]; omega))); intro tS hS tkS FS NS; dsimp only) | walk1) | (dsimp only; (first | (k_here; (with_reducible show wpAny _ _ (call (Value.type "list") [Value.ref _]) _ _ _); (rename IsRange _ _ _ _ _ _ _ _ => rgX); k_dflt (refine' list_row ?k0 ?k1 ?k2 rgX ?k4 ?k5 ?k6 ?_; (case k0 => rfl); (case k1 => k_asm); (case k2 => k_asm); (case k4 => rw [hca]); (case k5 => exact hp1); (case k6 => exact hp3)); intro Dr vr cr hR tkR FR NR lR IR; dsimp only) | ((with_reducible show wpAny _ _ (exec (Stmt.For _ _ _ _ _) _) _ _ _); (k_here; (rename Fr _ _ _ _ => lF'); (with_unfolding_all refine' For_turns lF' ?_; k_whole))) | ((with_reducible show wpAny _ _ (subscriptTail _ (Expr.Slice none (some (Expr.BoolOp _ _ _)) none _) _ _) _ _ _); (with_reducible rename Fr _ _ _ _ => F'); (with_reducible rename News _ _ _ _ => N'); k_dflt (first | refine slice_strN_nn (hsz := ?hsz) (s := ⟨_, _, _, _, _⟩) F' N' ?_ | refine slice_strN_ns (hsz := ?hsz) (s := ⟨_, _, _, _, _⟩) F' N' ?_); (case hsz => size_fits); intro _ _ _ _ _; (try dsimp only)) | ((with_reducible show wpAny _ _ (truthy (Value.int _ _)) _ _ _); (k_here; k_dflt (refine truthy_eq (by assumption) ?_))) | ((with_reducible show wpAny _ _ (truthy (Value.int _ _)) _ _ _); (k_here; k_dflt (refine truthy_ne (by assumption) ?_))) | ((with_reducible show wpAny _ _ (truthy (Value.str _ _)) _ _ _); (k_here; k_dflt (refine truthy_sne (by assumption) (by omega) ?_); intro kT)) | (k_here; (with_reducible show wpAny _ _ (subscriptTail _ _ (Value.str _ _) (Value.int _ _)) _ _ _); k_dflt (refine' KXi.item ?hk ?h0 ?h1 ?h2 ?_; (case hk => assumption); (case h0 => omega); (case h1 => omega); (case h2 => omega)); intro kxiE) | (k_here; (with_reducible show wpAny _ _ (subscriptTail _ _ (Value.str _ _) (Value.int _ _)) _ _ _); k_dflt (refine' KXi.item ?hk ?h0 ?h1 ?h2 ?_; (case hk => assumption); (case h0 => omega); (case h1 => omega); (case h2 => omega)); intro kxiE) | (k_here; (with_reducible show wpAny _ _ (call (Value.ref 76) [Value.str _ _, Value.str _ _]) _ _ _); k_dflt (refine' subst_c _ _ _ _ _ _ _ _ ?hx ?hy (_ + 1) (_ + 3) _ _ _ _ _ _ _ _ _ _ _ _ _ _ _ _ ?k1 ?k2 ?k3 ?k4 ?k5 ?kK ?kd ?ku ?_; (case hx => omega); (case hy => omega); (case k1 => k_asm); (case k2 => k_asm); (case k3 => k_asm); (case k4 => k_asm); (case k5 => k_asm); (case kK => exact rfl); (case kd => (dsimp only [Around.deeper]; omega)); (case ku => (dsimp only [Around.deeper]; omega))); intro tS hS tkS FS NS; dsimp only) | walk1)))
          (with_reducible rename Fr _ _ _ (fun z => if z = Str.ofString "result" then _ else _) => FO)
          (with_reducible rename News _ _ _ ((Dr, _) :: _) => NO)
          (rename IsRange _ _ _ _ _ _ _ _ => rgO)
          k_here
          refine rng_turns (n := p) rfl FO NO rgO (by rw [hcb]) (by omega) fun I hI => ?_
          have hID : @LT.lt Nat _ Dr I := hI _ (List.mem_cons_self ..)
          have hIn : ∀ p ∈ news, @LT.lt Nat _ p.1 I := fun p hp => hI _ (List.mem_cons_of_mem _ hp)
          rw [mX_init]
          obtain ⟨mB, hmB2⟩ := nameMX (fr_map FO mX_init)
          rw [← hmB2]
          refine rng_ind p (fun i m nw => ∃ (bi bc di mi ix su id : Option Value) (res : Int) (tr : Tok) (vs : List Value) (kv : Nat), m = mX bi bc di mi ix su id res tr Dr mB ∧ nw = (Dr, listOf vs.toArray kv) :: news ∧ IntsAre vs (outS a2 b2 p i).1 ∧ res = (outS a2 b2 p i).2.1) ?nil1 ?step1 p 0 _ _ (by omega) ?J1
          case J1 => exact ⟨_, _, _, _, _, _, _, _, _, vr, _, rfl, rfl, IR, rfl⟩
          case nil1 =>
            rintro m nw ⟨bi, bc, di, mi, ix, su, id, res, tr, vs, kv, rfl, rfl, hvs, rfl⟩ h tk F9 N9
            subst hmB2
            dsimp only
            (repeat' (first | ((with_reducible rename (_ → _ → _) ∧ (_ → _) => z9); clear z9) | (k_unfold; (try dsimp only)) | (first | (k_here; (with_reducible show wpAny _ _ (call (Value.type "list") [Value.ref _]) _ _ _); (rename IsRange _ _ _ _ _ _ _ _ => rgX); k_dflt (refine' list_row ?k0 ?k1 ?k2 rgX ?k4 ?k5 ?k6 ?_; (case k0 => rfl); (case k1 => k_asm); (case k2 => k_asm); (case k4 => rw [hca]); (case k5 => exact hp1); (case k6 => exact hp3)); intro Dr vr cr hR tkR FR NR lR IR; dsimp only) | ((with_reducible show wpAny _ _ (exec (Stmt.For _ _ _ _ _) _) _ _ _); (k_here; (rename Fr _ _ _ _ => lF'); (with_unfolding_all refine' For_turns lF' ?_; k_whole))) | ((with_reducible show wpAny _ _ (subscriptTail _ (Expr.Slice none (some (Expr.BoolOp _ _ _)) none _) _ _) _ _ _); (with_reducible rename Fr _ _ _ _ => F'); (with_reducible rename News _ _ _ _ => N'); k_dflt (first | refine slice_strN_nn (hsz := ?hsz) (s := ⟨_, _, _, _, _⟩) F' N' ?_ | refine slice_strN_ns (hsz := ?hsz) (s := ⟨_, _, _, _, _⟩) F' N' ?_); (case hsz => size_fits); intro _ _ _ _ _; (try dsimp only)) | ((with_reducible show wpAny _ _ (truthy (Value.int _ _)) _ _ _); (k_here; k_dflt (refine truthy_eq (by assumption) ?_))) | ((with_reducible show wpAny _ _ (truthy (Value.int _ _)) _ _ _); (k_here; k_dflt (refine truthy_ne (by assumption) ?_))) | ((with_reducible show wpAny _ _ (truthy (Value.str _ _)) _ _ _); (k_here; k_dflt (refine truthy_sne (by assumption) (by omega) ?_); intro kT)) | (k_here; (with_reducible show wpAny _ _ (subscriptTail _ _ (Value.str _ _) (Value.int _ _)) _ _ _); k_dflt (refine' KXi.item ?hk ?h0 ?h1 ?h2 ?_; (case hk => assumption); (case h0 => omega); (case h1 => omega); (case h2 => omega)); intro kxiE) | (k_here; (with_reducible show wpAny _ _ (subscriptTail _ _ (Value.str _ _) (Value.int _ _)) _ _ _); k_dflt (refine' KXi.item ?hk ?h0 ?h1 ?h2 ?_; (case hk => assumption); (case h0 => omega); (case h1 => omega); (case h2 => omega)); intro kxiE) | (k_here; (with_reducible show wpAny _ _ (call (Value.ref 76) [Value.str _ _, Value.str _ _]) _ _ _); k_dflt (refine' subst_c _ _ _ _ _ _ _ _ ?hx ?hy (_ + 1) (_ + 3) _ _ _ _ _ _ _ _ _ _ _ _ _ _ _ _ ?k1 ?k2 ?k3 ?k4 ?k5 ?kK ?kd ?ku ?_; (case hx => omega); (case hy => omega); (case k1 => k_asm); (case k2 => k_asm); (case k3 => k_asm); (case k4 => k_asm); (case k5 => k_asm); (case kK => exact rfl); (case kd => (dsimp only [Around.deeper]; omega)); (case ku => (dsimp only [Around.deeper]; omega))); intro tS hS tkS FS NS; dsimp only) | walk1) | (dsimp only; (first | (k_here; (with_reducible show wpAny _ _ (call (Value.type "list") [Value.ref _]) _ _ _); (rename IsRange _ _ _ _ _ _ _ _ => rgX); k_dflt (refine' list_row ?k0 ?k1 ?k2 rgX ?k4 ?k5 ?k6 ?_; (case k0 => rfl); (case k1 => k_asm); (case k2 => k_asm); (case k4 => rw [hca]); (case k5 => exact hp1); (case k6 => exact hp3)); intro Dr vr cr hR tkR FR NR lR IR; dsimp only) | ((with_reducible show wpAny _ _ (exec (Stmt.For _ _ _ _ _) _) _ _ _); (k_here; (rename Fr _ _ _ _ => lF'); (with_unfolding_all refine' For_turns lF' ?_; k_whole))) | ((with_reducible show wpAny _ _ (subscriptTail _ (Expr.Slice none (some (Expr.BoolOp _ _ _)) none _) _ _) _ _ _); (with_reducible rename Fr _ _ _ _ => F'); (with_reducible rename News _ _ _ _ => N'); k_dflt (first | refine slice_strN_nn (hsz := ?hsz) (s := ⟨_, _, _, _, _⟩) F' N' ?_ | refine slice_strN_ns (hsz := ?hsz) (s := ⟨_, _, _, _, _⟩) F' N' ?_); (case hsz => size_fits); intro _ _ _ _ _; (try dsimp only)) | ((with_reducible show wpAny _ _ (truthy (Value.int _ _)) _ _ _); (k_here; k_dflt (refine truthy_eq (by assumption) ?_))) | ((with_reducible show wpAny _ _ (truthy (Value.int _ _)) _ _ _); (k_here; k_dflt (refine truthy_ne (by assumption) ?_))) | ((with_reducible show wpAny _ _ (truthy (Value.str _ _)) _ _ _); (k_here; k_dflt (refine truthy_sne (by assumption) (by omega) ?_); intro kT)) | (k_here; (with_reducible show wpAny _ _ (subscriptTail _ _ (Value.str _ _) (Value.int _ _)) _ _ _); k_dflt (refine' KXi.item ?hk ?h0 ?h1 ?h2 ?_; (case hk => assumption); (case h0 => omega); (case h1 => omega); (case h2 => omega)); intro kxiE) | (k_here; (with_reducible show wpAny _ _ (subscriptTail _ _ (Value.str _ _) (Value.int _ _)) _ _ _); k_dflt (refine' KXi.item ?hk ?h0 ?h1 ?h2 ?_; (case hk => assumption); (case h0 => omega); (case h1 => omega); (case h2 => omega)); intro kxiE) | (k_here; (with_reducible show wpAny _ _ (call (Value.ref 76) [Value.str _ _, Value.str _ _]) _ _ _); k_dflt (refine' subst_c _ _ _ _ _ _ _ _ ?hx ?hy (_ + 1) (_ + 3) _ _ _ _ _ _ _ _ _ _ _ _ _ _ _ _ ?k1 ?k2 ?k3 ?k4 ?k5 ?kK ?kd ?ku ?_; (case hx => omega); (case hy => omega); (case k1 => k_asm); (case k2 => k_asm); (case k3 => k_asm); (case k4 => k_asm); (case k5 => k_asm); (case kK => exact rfl); (case kd => (dsimp only [Around.deeper]; omega)); (case ku => (dsimp only [Around.deeper]; omega))); intro tS hS tkS FS NS; dsimp only) | walk1)) | (leave1; (try dsimp only))))
            rw [hres]
            (rename News h₀ L _ _ => kN2)
            exact hret _ _ _ (by k_asm) (fun p hp => kN2 p (List.mem_cons_of_mem _ hp))
          case step1 =>
            rintro i m nw hip ⟨bi, bc, di, mi, ix, su, id, res, tr, vs, kv, rfl, rfl, hvs, hres⟩ t h tk F9
            subst hmB2
            ktu_objs
            iterate 39 (first | (first | (k_here; (with_reducible show wpAny _ _ (call (Value.type "list") [Value.ref _]) _ _ _); (rename IsRange _ _ _ _ _ _ _ _ => rgX); k_dflt (refine' list_row ?k0 ?k1 ?k2 rgX ?k4 ?k5 ?k6 ?_; (case k0 => rfl); (case k1 => k_asm); (case k2 => k_asm); (case k4 => rw [hca]); (case k5 => exact hp1); (case k6 => exact hp3)); intro Dr vr cr hR tkR FR NR lR IR; dsimp only) | ((with_reducible show wpAny _ _ (exec (Stmt.For _ _ _ _ _) _) _ _ _); (k_here; (rename Fr _ _ _ _ => lF'); (with_unfolding_all refine' For_turns lF' ?_; k_whole))) | ((with_reducible show wpAny _ _ (subscriptTail _ (Expr.Slice none (some (Expr.BoolOp _ _ _)) none _) _ _) _ _ _); (with_reducible rename Fr _ _ _ _ => F'); (with_reducible rename News _ _ _ _ => N'); k_dflt (first | refine slice_strN_nn (hsz := ?hsz) (s := ⟨_, _, _, _, _⟩) F' N' ?_ | refine slice_strN_ns (hsz := ?hsz) (s := ⟨_, _, _, _, _⟩) F' N' ?_); (case hsz => size_fits); intro _ _ _ _ _; (try dsimp only)) | ((with_reducible show wpAny _ _ (truthy (Value.int _ _)) _ _ _); (k_here; k_dflt (refine truthy_eq (by assumption) ?_))) | ((with_reducible show wpAny _ _ (truthy (Value.int _ _)) _ _ _); (k_here; k_dflt (refine truthy_ne (by assumption) ?_))) | ((with_reducible show wpAny _ _ (truthy (Value.str _ _)) _ _ _); (k_here; k_dflt (refine truthy_sne (by assumption) (by omega) ?_); intro kT)) | (k_here; (with_reducible show wpAny _ _ (subscriptTail _ _ (Value.str _ _) (Value.int _ _)) _ _ _); k_dflt (refine' KXi.item ?hk ?h0 ?h1 ?h2 ?_; (case hk => assumption); (case h0 => omega); (case h1 => omega); (case h2 => omega)); intro kxiE) | (k_here; (with_reducible show wpAny _ _ (subscriptTail _ _ (Value.str _ _) (Value.int _ _)) _ _ _); k_dflt (refine' KXi.item ?hk ?h0 ?h1 ?h2 ?_; (case hk => assumption); (case h0 => omega); (case h1 => omega); (case h2 => omega)); intro kxiE) | (k_here; (with_reducible show wpAny _ _ (call (Value.ref 76) [Value.str _ _, Value.str _ _]) _ _ _); k_dflt (refine' subst_c _ _ _ _ _ _ _ _ ?hx ?hy (_ + 1) (_ + 3) _ _ _ _ _ _ _ _ _ _ _ _ _ _ _ _ ?k1 ?k2 ?k3 ?k4 ?k5 ?kK ?kd ?ku ?_; (case hx => omega); (case hy => omega); (case k1 => k_asm); (case k2 => k_asm); (case k3 => k_asm); (case k4 => k_asm); (case k5 => k_asm); (case kK => exact rfl); (case kd => (dsimp only [Around.deeper]; omega)); (case ku => (dsimp only [Around.deeper]; omega))); intro tS hS tkS FS NS; dsimp only) | walk1) | (dsimp only; (first | (k_here; (with_reducible show wpAny _ _ (call (Value.type "list") [Value.ref _]) _ _ _); (rename IsRange _ _ _ _ _ _ _ _ => rgX); k_dflt (refine' list_row ?k0 ?k1 ?k2 rgX ?k4 ?k5 ?k6 ?_; (case k0 => rfl); (case k1 => k_asm); (case k2 => k_asm); (case k4 => rw [hca]); (case k5 => exact hp1); (case k6 => exact hp3)); intro Dr vr cr hR tkR FR NR lR IR; dsimp only) | ((with_reducible show wpAny _ _ (exec (Stmt.For _ _ _ _ _) _) _ _ _); (k_here; (rename Fr _ _ _ _ => lF'); (with_unfolding_all refine' For_turns lF' ?_; k_whole))) | ((with_reducible show wpAny _ _ (subscriptTail _ (Expr.Slice none (some (Expr.BoolOp _ _ _)) none _) _ _) _ _ _); (with_reducible rename Fr _ _ _ _ => F'); (with_reducible rename News _ _ _ _ => N'); k_dflt (first | refine slice_strN_nn (hsz := ?hsz) (s := ⟨_, _, _, _, _⟩) F' N' ?_ | refine slice_strN_ns (hsz := ?hsz) (s := ⟨_, _, _, _, _⟩) F' N' ?_); (case hsz => size_fits); intro _ _ _ _ _; (try dsimp only)) | ((with_reducible show wpAny _ _ (truthy (Value.int _ _)) _ _ _); (k_here; k_dflt (refine truthy_eq (by assumption) ?_))) | ((with_reducible show wpAny _ _ (truthy (Value.int _ _)) _ _ _); (k_here; k_dflt (refine truthy_ne (by assumption) ?_))) | ((with_reducible show wpAny _ _ (truthy (Value.str _ _)) _ _ _); (k_here; k_dflt (refine truthy_sne (by assumption) (by omega) ?_); intro kT)) | (k_here; (with_reducible show wpAny _ _ (subscriptTail _ _ (Value.str _ _) (Value.int _ _)) _ _ _); k_dflt (refine' KXi.item ?hk ?h0 ?h1 ?h2 ?_; (case hk => assumption); (case h0 => omega); (case h1 => omega); (case h2 => omega)); intro kxiE) | (k_here; (with_reducible show wpAny _ _ (subscriptTail _ _ (Value.str _ _) (Value.int _ _)) _ _ _); k_dflt (refine' KXi.item ?hk ?h0 ?h1 ?h2 ?_; (case hk => assumption); (case h0 => omega); (case h1 => omega); (case h2 => omega)); intro kxiE) | (k_here; (with_reducible show wpAny _ _ (call (Value.ref 76) [Value.str _ _, Value.str _ _]) _ _ _); k_dflt (refine' subst_c _ _ _ _ _ _ _ _ ?hx ?hy (_ + 1) (_ + 3) _ _ _ _ _ _ _ _ _ _ _ _ _ _ _ _ ?k1 ?k2 ?k3 ?k4 ?k5 ?kK ?kd ?ku ?_; (case hx => omega); (case hy => omega); (case k1 => k_asm); (case k2 => k_asm); (case k3 => k_asm); (case k4 => k_asm); (case k5 => k_asm); (case kK => exact rfl); (case kd => (dsimp only [Around.deeper]; omega)); (case ku => (dsimp only [Around.deeper]; omega))); intro tS hS tkS FS NS; dsimp only) | walk1)))
            (with_reducible rename Fr _ _ _ (fun z => if z = Str.ofString "minimum" then _ else _) => FI)
            (with_reducible rename News _ _ _ ((I, _) :: _) => NI)
            (rename IsRange _ _ _ _ _ _ _ _ => rgI)
            k_here
            refine rng_turns (n := p) rfl FI NI rgI (by rw [hca]) (by omega) fun I2 hI2 => ?_
            have hI2D : @LT.lt Nat _ Dr I2 := hI2 _ (List.mem_cons_of_mem _ (List.mem_cons_self ..))
            have hI2I : @LT.lt Nat _ I I2 := hI2 _ (List.mem_cons_self ..)
            have hI2n : ∀ p ∈ news, @LT.lt Nat _ p.1 I2 := fun p hp => hI2 _ (List.mem_cons_of_mem _ (List.mem_cons_of_mem _ hp))
            rw [mX_outer]
            obtain ⟨oI, hoI⟩ := nameObj NI
            rw [← hoI]
            refine rng_ind p (fun j m nw => ∃ (ti tbc td tm tr : Tok) (ix su id : Option Value) (vs : List Value) (kv : Nat), m = mX (some (.int ((i : Nat) : Int) ti)) (some (.str (Txt.item b2 ((i : Nat) : Int)) tbc)) (some (.int (innerF (Txt.item b2 ((i : Nat) : Int)) a2 ⟨(outS a2 b2 p i).1, ((i : Nat) : Int) * 2, ((i : Nat) : Int) * 2, 9223372036854775807⟩ j).dist td)) (some (.int (innerF (Txt.item b2 ((i : Nat) : Int)) a2 ⟨(outS a2 b2 p i).1, ((i : Nat) : Int) * 2, ((i : Nat) : Int) * 2, 9223372036854775807⟩ j).mn tm)) ix su id (innerF (Txt.item b2 ((i : Nat) : Int)) a2 ⟨(outS a2 b2 p i).1, ((i : Nat) : Int) * 2, ((i : Nat) : Int) * 2, 9223372036854775807⟩ j).res tr Dr (mBB b2 t8 a2 t6 (mW (mV x tx y ty tz k tkQ) xs ta ys tb q tq)) ∧ nw = (I, oI) :: (Dr, listOf vs.toArray kv) :: news ∧ IntsAre vs (innerF (Txt.item b2 ((i : Nat) : Int)) a2 ⟨(outS a2 b2 p i).1, ((i : Nat) : Int) * 2, ((i : Nat) : Int) * 2, 9223372036854775807⟩ j).row) ?nil2 ?step2 p 0 _ _ (by omega) ?J2
            case J2 => exact ⟨_, _, _, _, _, _, _, _, vs, _, rfl, rfl, hvs⟩
            case nil2 =>
              rintro m nw ⟨ti, tbc, td, tm, tr, ix, su, id, vs, kv, rfl, rfl, hvs⟩ h tk F9 N9
              have hmn := of_decide_eq_true (hal (i + 1) (by omega))
              dsimp only
              (repeat' (first | ((with_reducible rename (_ → _ → _) ∧ (_ → _) => z9); clear z9) | (k_unfold; (try dsimp only)) | (first | (k_here; (with_reducible show wpAny _ _ (call (Value.type "list") [Value.ref _]) _ _ _); (rename IsRange _ _ _ _ _ _ _ _ => rgX); k_dflt (refine' list_row ?k0 ?k1 ?k2 rgX ?k4 ?k5 ?k6 ?_; (case k0 => rfl); (case k1 => k_asm); (case k2 => k_asm); (case k4 => rw [hca]); (case k5 => exact hp1); (case k6 => exact hp3)); intro Dr vr cr hR tkR FR NR lR IR; dsimp only) | ((with_reducible show wpAny _ _ (exec (Stmt.For _ _ _ _ _) _) _ _ _); (k_here; (rename Fr _ _ _ _ => lF'); (with_unfolding_all refine' For_turns lF' ?_; k_whole))) | ((with_reducible show wpAny _ _ (subscriptTail _ (Expr.Slice none (some (Expr.BoolOp _ _ _)) none _) _ _) _ _ _); (with_reducible rename Fr _ _ _ _ => F'); (with_reducible rename News _ _ _ _ => N'); k_dflt (first | refine slice_strN_nn (hsz := ?hsz) (s := ⟨_, _, _, _, _⟩) F' N' ?_ | refine slice_strN_ns (hsz := ?hsz) (s := ⟨_, _, _, _, _⟩) F' N' ?_); (case hsz => size_fits); intro _ _ _ _ _; (try dsimp only)) | ((with_reducible show wpAny _ _ (truthy (Value.int _ _)) _ _ _); (k_here; k_dflt (refine truthy_eq (by assumption) ?_))) | ((with_reducible show wpAny _ _ (truthy (Value.int _ _)) _ _ _); (k_here; k_dflt (refine truthy_ne (by assumption) ?_))) | ((with_reducible show wpAny _ _ (truthy (Value.str _ _)) _ _ _); (k_here; k_dflt (refine truthy_sne (by assumption) (by omega) ?_); intro kT)) | (k_here; (with_reducible show wpAny _ _ (subscriptTail _ _ (Value.str _ _) (Value.int _ _)) _ _ _); k_dflt (refine' KXi.item ?hk ?h0 ?h1 ?h2 ?_; (case hk => assumption); (case h0 => omega); (case h1 => omega); (case h2 => omega)); intro kxiE) | (k_here; (with_reducible show wpAny _ _ (subscriptTail _ _ (Value.str _ _) (Value.int _ _)) _ _ _); k_dflt (refine' KXi.item ?hk ?h0 ?h1 ?h2 ?_; (case hk => assumption); (case h0 => omega); (case h1 => omega); (case h2 => omega)); intro kxiE) | (k_here; (with_reducible show wpAny _ _ (call (Value.ref 76) [Value.str _ _, Value.str _ _]) _ _ _); k_dflt (refine' subst_c _ _ _ _ _ _ _ _ ?hx ?hy (_ + 1) (_ + 3) _ _ _ _ _ _ _ _ _ _ _ _ _ _ _ _ ?k1 ?k2 ?k3 ?k4 ?k5 ?kK ?kd ?ku ?_; (case hx => omega); (case hy => omega); (case k1 => k_asm); (case k2 => k_asm); (case k3 => k_asm); (case k4 => k_asm); (case k5 => k_asm); (case kK => exact rfl); (case kd => (dsimp only [Around.deeper]; omega)); (case ku => (dsimp only [Around.deeper]; omega))); intro tS hS tkS FS NS; dsimp only) | walk1) | (dsimp only; (first | (k_here; (with_reducible show wpAny _ _ (call (Value.type "list") [Value.ref _]) _ _ _); (rename IsRange _ _ _ _ _ _ _ _ => rgX); k_dflt (refine' list_row ?k0 ?k1 ?k2 rgX ?k4 ?k5 ?k6 ?_; (case k0 => rfl); (case k1 => k_asm); (case k2 => k_asm); (case k4 => rw [hca]); (case k5 => exact hp1); (case k6 => exact hp3)); intro Dr vr cr hR tkR FR NR lR IR; dsimp only) | ((with_reducible show wpAny _ _ (exec (Stmt.For _ _ _ _ _) _) _ _ _); (k_here; (rename Fr _ _ _ _ => lF'); (with_unfolding_all refine' For_turns lF' ?_; k_whole))) | ((with_reducible show wpAny _ _ (subscriptTail _ (Expr.Slice none (some (Expr.BoolOp _ _ _)) none _) _ _) _ _ _); (with_reducible rename Fr _ _ _ _ => F'); (with_reducible rename News _ _ _ _ => N'); k_dflt (first | refine slice_strN_nn (hsz := ?hsz) (s := ⟨_, _, _, _, _⟩) F' N' ?_ | refine slice_strN_ns (hsz := ?hsz) (s := ⟨_, _, _, _, _⟩) F' N' ?_); (case hsz => size_fits); intro _ _ _ _ _; (try dsimp only)) | ((with_reducible show wpAny _ _ (truthy (Value.int _ _)) _ _ _); (k_here; k_dflt (refine truthy_eq (by assumption) ?_))) | ((with_reducible show wpAny _ _ (truthy (Value.int _ _)) _ _ _); (k_here; k_dflt (refine truthy_ne (by assumption) ?_))) | ((with_reducible show wpAny _ _ (truthy (Value.str _ _)) _ _ _); (k_here; k_dflt (refine truthy_sne (by assumption) (by omega) ?_); intro kT)) | (k_here; (with_reducible show wpAny _ _ (subscriptTail _ _ (Value.str _ _) (Value.int _ _)) _ _ _); k_dflt (refine' KXi.item ?hk ?h0 ?h1 ?h2 ?_; (case hk => assumption); (case h0 => omega); (case h1 => omega); (case h2 => omega)); intro kxiE) | (k_here; (with_reducible show wpAny _ _ (subscriptTail _ _ (Value.str _ _) (Value.int _ _)) _ _ _); k_dflt (refine' KXi.item ?hk ?h0 ?h1 ?h2 ?_; (case hk => assumption); (case h0 => omega); (case h1 => omega); (case h2 => omega)); intro kxiE) | (k_here; (with_reducible show wpAny _ _ (call (Value.ref 76) [Value.str _ _, Value.str _ _]) _ _ _); k_dflt (refine' subst_c _ _ _ _ _ _ _ _ ?hx ?hy (_ + 1) (_ + 3) _ _ _ _ _ _ _ _ _ _ _ _ _ _ _ _ ?k1 ?k2 ?k3 ?k4 ?k5 ?kK ?kd ?ku ?_; (case hx => omega); (case hy => omega); (case k1 => k_asm); (case k2 => k_asm); (case k3 => k_asm); (case k4 => k_asm); (case k5 => k_asm); (case kK => exact rfl); (case kd => (dsimp only [Around.deeper]; omega)); (case ku => (dsimp only [Around.deeper]; omega))); intro tS hS tkS FS NS; dsimp only) | walk1)) | (leave1; (try dsimp only))))
              (with_reducible rename Fr _ _ _ (mX _ _ _ _ _ _ _ _ _ _ _) => F10)
              (with_reducible rename News _ _ _ ((I, _) :: (Dr, _) :: _) => N10)
              refine ⟨_, _, _, (Dr, listOf vs.toArray kv) :: news, rfl, F10, N10, ?offO, trivial, _, _, _, _, _, _, _, _, _, vs, kv, rfl, rfl, hvs, rfl⟩
              case offO =>
                intro p hp q hq
                rw [List.mem_singleton.mp hq]
                rcases List.mem_cons.mp hp with rfl | hp
                · exact Nat.ne_of_lt hID
                · exact Nat.ne_of_lt (hIn p hp)
            case step2 =>
              rintro j m nw hjp ⟨ti, tbc, td, tm, tr, ix, su, id, vs, kv, rfl, rfl, hvs⟩ tj h tk F9
              have hrl := innerF_len (Txt.item b2 ((i : Nat) : Int)) a2 ⟨(outS a2 b2 p i).1, ((i : Nat) : Int) * 2, ((i : Nat) : Int) * 2, 9223372036854775807⟩ j
              rw [outS_len] at hrl
              generalize hSE : innerF (Txt.item b2 ((i : Nat) : Int)) a2 ⟨(outS a2 b2 p i).1, ((i : Nat) : Int) * 2, ((i : Nat) : Int) * 2, 9223372036854775807⟩ j = S at *
              ktu_objs
              (repeat' (first | ((with_reducible rename (_ → _ → _) ∧ (_ → _) => z9); clear z9) | (k_unfold; (try dsimp only)) | (first | (k_here; (with_reducible show wpAny _ _ (call (Value.type "list") [Value.ref _]) _ _ _); (rename IsRange _ _ _ _ _ _ _ _ => rgX); k_dflt (refine' list_row ?k0 ?k1 ?k2 rgX ?k4 ?k5 ?k6 ?_; (case k0 => rfl); (case k1 => k_asm); (case k2 => k_asm); (case k4 => rw [hca]); (case k5 => exact hp1); (case k6 => exact hp3)); intro Dr vr cr hR tkR FR NR lR IR; dsimp only) | ((with_reducible show wpAny _ _ (exec (Stmt.For _ _ _ _ _) _) _ _ _); (k_here; (rename Fr _ _ _ _ => lF'); (with_unfolding_all refine' For_turns lF' ?_; k_whole))) | ((with_reducible show wpAny _ _ (subscriptTail _ (Expr.Slice none (some (Expr.BoolOp _ _ _)) none _) _ _) _ _ _); (with_reducible rename Fr _ _ _ _ => F'); (with_reducible rename News _ _ _ _ => N'); k_dflt (first | refine slice_strN_nn (hsz := ?hsz) (s := ⟨_, _, _, _, _⟩) F' N' ?_ | refine slice_strN_ns (hsz := ?hsz) (s := ⟨_, _, _, _, _⟩) F' N' ?_); (case hsz => size_fits); intro _ _ _ _ _; (try dsimp only)) | ((with_reducible show wpAny _ _ (truthy (Value.int _ _)) _ _ _); (k_here; k_dflt (refine truthy_eq (by assumption) ?_))) | ((with_reducible show wpAny _ _ (truthy (Value.int _ _)) _ _ _); (k_here; k_dflt (refine truthy_ne (by assumption) ?_))) | ((with_reducible show wpAny _ _ (truthy (Value.str _ _)) _ _ _); (k_here; k_dflt (refine truthy_sne (by assumption) (by omega) ?_); intro kT)) | (k_here; (with_reducible show wpAny _ _ (subscriptTail _ _ (Value.str _ _) (Value.int _ _)) _ _ _); k_dflt (refine' KXi.item ?hk ?h0 ?h1 ?h2 ?_; (case hk => assumption); (case h0 => omega); (case h1 => omega); (case h2 => omega)); intro kxiE) | (k_here; (with_reducible show wpAny _ _ (subscriptTail _ _ (Value.str _ _) (Value.int _ _)) _ _ _); k_dflt (refine' KXi.item ?hk ?h0 ?h1 ?h2 ?_; (case hk => assumption); (case h0 => omega); (case h1 => omega); (case h2 => omega)); intro kxiE) | (k_here; (with_reducible show wpAny _ _ (call (Value.ref 76) [Value.str _ _, Value.str _ _]) _ _ _); k_dflt (refine' subst_c _ _ _ _ _ _ _ _ ?hx ?hy (_ + 1) (_ + 3) _ _ _ _ _ _ _ _ _ _ _ _ _ _ _ _ ?k1 ?k2 ?k3 ?k4 ?k5 ?kK ?kd ?ku ?_; (case hx => omega); (case hy => omega); (case k1 => k_asm); (case k2 => k_asm); (case k3 => k_asm); (case k4 => k_asm); (case k5 => k_asm); (case kK => exact rfl); (case kd => (dsimp only [Around.deeper]; omega)); (case ku => (dsimp only [Around.deeper]; omega))); intro tS hS tkS FS NS; dsimp only) | walk1) | (dsimp only; (first | (k_here; (with_reducible show wpAny _ _ (call (Value.type "list") [Value.ref _]) _ _ _); (rename IsRange _ _ _ _ _ _ _ _ => rgX); k_dflt (refine' list_row ?k0 ?k1 ?k2 rgX ?k4 ?k5 ?k6 ?_; (case k0 => rfl); (case k1 => k_asm); (case k2 => k_asm); (case k4 => rw [hca]); (case k5 => exact hp1); (case k6 => exact hp3)); intro Dr vr cr hR tkR FR NR lR IR; dsimp only) | ((with_reducible show wpAny _ _ (exec (Stmt.For _ _ _ _ _) _) _ _ _); (k_here; (rename Fr _ _ _ _ => lF'); (with_unfolding_all refine' For_turns lF' ?_; k_whole))) | ((with_reducible show wpAny _ _ (subscriptTail _ (Expr.Slice none (some (Expr.BoolOp _ _ _)) none _) _ _) _ _ _); (with_reducible rename Fr _ _ _ _ => F'); (with_reducible rename News _ _ _ _ => N'); k_dflt (first | refine slice_strN_nn (hsz := ?hsz) (s := ⟨_, _, _, _, _⟩) F' N' ?_ | refine slice_strN_ns (hsz := ?hsz) (s := ⟨_, _, _, _, _⟩) F' N' ?_); (case hsz => size_fits); intro _ _ _ _ _; (try dsimp only)) | ((with_reducible show wpAny _ _ (truthy (Value.int _ _)) _ _ _); (k_here; k_dflt (refine truthy_eq (by assumption) ?_))) | ((with_reducible show wpAny _ _ (truthy (Value.int _ _)) _ _ _); (k_here; k_dflt (refine truthy_ne (by assumption) ?_))) | ((with_reducible show wpAny _ _ (truthy (Value.str _ _)) _ _ _); (k_here; k_dflt (refine truthy_sne (by assumption) (by omega) ?_); intro kT)) | (k_here; (with_reducible show wpAny _ _ (subscriptTail _ _ (Value.str _ _) (Value.int _ _)) _ _ _); k_dflt (refine' KXi.item ?hk ?h0 ?h1 ?h2 ?_; (case hk => assumption); (case h0 => omega); (case h1 => omega); (case h2 => omega)); intro kxiE) | (k_here; (with_reducible show wpAny _ _ (subscriptTail _ _ (Value.str _ _) (Value.int _ _)) _ _ _); k_dflt (refine' KXi.item ?hk ?h0 ?h1 ?h2 ?_; (case hk => assumption); (case h0 => omega); (case h1 => omega); (case h2 => omega)); intro kxiE) | (k_here; (with_reducible show wpAny _ _ (call (Value.ref 76) [Value.str _ _, Value.str _ _]) _ _ _); k_dflt (refine' subst_c _ _ _ _ _ _ _ _ ?hx ?hy (_ + 1) (_ + 3) _ _ _ _ _ _ _ _ _ _ _ _ _ _ _ _ ?k1 ?k2 ?k3 ?k4 ?k5 ?kK ?kd ?ku ?_; (case hx => omega); (case hy => omega); (case k1 => k_asm); (case k2 => k_asm); (case k3 => k_asm); (case k4 => k_asm); (case k5 => k_asm); (case kK => exact rfl); (case kd => (dsimp only [Around.deeper]; omega)); (case ku => (dsimp only [Around.deeper]; omega))); intro tS hS tkS FS NS; dsimp only) | walk1)) | (leave1; (try dsimp only))))
              · (with_reducible rename (_ : Int) < S.mn => hlt)
                (with_reducible rename Fr _ _ _ (fun z => if z = Str.ofString "minimum" then _ else _) => F10)
                rw [mX_inner2] at F10
                (with_reducible rename News _ _ _ ((I2, _) :: (I, _) :: _) => N10)
                (with_reducible rename IntsAre (List.set _ _ _) _ => hi10)
                have e := (innerF_succ hSE).trans (dstep_lt hlt)
                refine' ⟨_, _, _, (I, oI) :: (Dr, listOf _ kv) :: news, rfl, F10, N10, offI hI2I hI2D hI2n, trivial, ti, tbc, _, _, _, _, _, _, _, kv, ?m1, rfl, ?m2⟩
                case m1 => rw [e]
                case m2 => rw [e]; exact hi10
              · (with_reducible rename ¬ (_ : Int) < S.mn => hlt)
                (with_reducible rename Fr _ _ _ (fun z => if z = Str.ofString "result" then _ else _) => F10)
                rw [mX_inner] at F10
                (with_reducible rename News _ _ _ ((I2, _) :: (I, _) :: _) => N10)
                (with_reducible rename IntsAre (List.set _ _ _) _ => hi10)
                have e := (innerF_succ hSE).trans (dstep_ge hlt)
                refine' ⟨_, _, _, (I, oI) :: (Dr, listOf _ kv) :: news, rfl, F10, N10, offI hI2I hI2D hI2n, trivial, ti, tbc, _, _, _, _, _, _, _, kv, ?m1, rfl, ?m2⟩
                case m1 => rw [e]
                case m2 => rw [e]; exact hi10
end Mine
end
section -- LEVF
namespace Mine
theorem offLEVF : True := by
  w_top off
  exact trivial
noncomputable def popc (n : Nat) : Nat := n % 2 + n / 2 % 2 + n / 4 % 2
noncomputable def wl (n : Nat) : Str := ⟨#[if n.testBit 0 = true then 65 else 97, if n.testBit 1 = true then 66 else 98, if n.testBit 2 = true then 67 else 99]⟩
theorem wl_eq : ∀ n, n < 8 → wordS n = wl n := by decide +kernel
theorem f_sl : ∀ n, n < 8 → ∀ k, k < 3 → (Txt.slice (wl n) (some ((k : Nat) : Int)) none).length = 3 - k := by decide +kernel
theorem f_cut : ∀ n, n < 8 → ∀ k, k < 3 → ∀ q, q < 4 - k → (cutq (Txt.slice (wl n) (some ((k : Nat) : Int)) none) q).length = 3 - k - q := by decide +kernel
theorem f_bad : ∀ i, i < 8 → ∀ j, j < 8 → i ≠ j → ∀ k, k < 3 → (∀ r, r < 3 - k → Txt.item (Txt.slice (wl i) (some ((k : Nat) : Int)) none) (-((r : Nat) : Int) - 1) = Txt.item (Txt.slice (wl j) (some ((k : Nat) : Int)) none) (-((r : Nat) : Int) - 1)) → Txt.item (wl i) ((k : Nat) : Int) = Txt.item (wl j) ((k : Nat) : Int) := by decide +kernel
noncomputable def condB (x y : Str) (k q : Nat) : Bool := (List.range k).all (fun r => Txt.item x ((r : Nat) : Int) == Txt.item y ((r : Nat) : Int)) && !(Txt.item x ((k : Nat) : Int) == Txt.item y ((k : Nat) : Int)) && (List.range q).all (fun r => Txt.item (Txt.slice x (some ((k : Nat) : Int)) none) (-((r : Nat) : Int) - 1) == Txt.item (Txt.slice y (some ((k : Nat) : Int)) none) (-((r : Nat) : Int) - 1)) && !(Txt.item (Txt.slice x (some ((k : Nat) : Int)) none) (-((q : Nat) : Int) - 1) == Txt.item (Txt.slice y (some ((k : Nat) : Int)) none) (-((q : Nat) : Int) - 1))
noncomputable def goodB (x y : Str) (k q : Nat) (d : Int) : Bool := (List.range (4 - k - q)).all (fun r => (outS (cutq (Txt.slice x (some ((k : Nat) : Int)) none) q) (cutq (Txt.slice y (some ((k : Nat) : Int)) none) q) (3 - k - q) r).2.2) && ((outS (cutq (Txt.slice x (some ((k : Nat) : Int)) none) q) (cutq (Txt.slice y (some ((k : Nat) : Int)) none) q) (3 - k - q) (3 - k - q)).2.1 == d)
theorem f_fin : ∀ i, i < 8 → ∀ j, j < 8 → i ≠ j → ∀ k, k < 3 → ∀ q, q < 3 - k → (!condB (wl i) (wl j) k q || goodB (wl i) (wl j) k q ((popc (i ^^^ j) : Nat) : Int)) = true := by decide +kernel
theorem cond_of {x y : Str} {k q : Nat} (h : FinL x y k q) : condB x y k q = true := by
  unfold condB
  simp only [Bool.and_eq_true, List.all_eq_true, List.mem_range, beq_iff_eq, Bool.not_eq_true', beq_eq_false_iff_ne]
  exact ⟨⟨⟨h.f3, h.f4⟩, h.f5⟩, h.f6⟩
theorem levT (i j : Nat) (hi : i < 8) (hj : j < 8) (hij : i ≠ j) : LevT (wordS i) (wordS j) ((popc (i ^^^ j) : Nat) : Int) := by
  rw [wl_eq i hi, wl_eq j hj]
  refine ⟨fun k hk q hq => f_cut i hi k hk q (by omega), fun k hk q hq => f_cut j hj k hk q (by omega), f_sl i hi, f_sl j hj, f_bad i hi j hj hij, fun k q h => ?_⟩
  have h1 := f_fin i hi j hj hij k h.f1 q h.f2
  rw [cond_of h] at h1
  simp only [Bool.not_true, Bool.false_or] at h1
  unfold goodB at h1
  simp only [Bool.and_eq_true, List.all_eq_true, List.mem_range, beq_iff_eq] at h1
  have := h.f2
  exact ⟨fun r hr => h1.1 r (by omega), h1.2⟩
theorem wl_len : ∀ n, n < 8 → (wl n).length = 3 := by decide +kernel
theorem wl_ne : ∀ i, i < 8 → ∀ j, j < 8 → i ≠ j → (wl i == wl j) = false := by decide +kernel
theorem lev_w (w : World) (mean : ExcName → Option Value) (mg mb : Str → Option Value) (i j : Nat) (hi : i < 8) (hj : j < 8) (hij : i ≠ j) (tx ty tz : Tok) : NClaim w mean mg mb 83 40 300 [.str (wordS i) tx, .str (wordS j) ty, .int 3 tz] (fun t => .int ((popc (i ^^^ j) : Nat) : Int) t) :=
  lev_c w mean mg mb _ _ tx ty tz (by rw [wl_eq i hi]; exact wl_len i hi) (by rw [wl_eq j hj]; exact wl_len j hj) (by rw [wl_eq i hi, wl_eq j hj]; exact wl_ne i hi j hj hij) _ (levT i j hi hj hij)
end Mine
end
section -- SREF
namespace Mine
theorem offSREF : True := by
  w_top off
  exact trivial
theorem slot_re_search : Slot "re.Pattern" "search" "re.Pattern.search" :=
  .of (owner := "re.Pattern") (n := "search") (by rw [typeLookup_type, builtinLookup_eq_fast]; kernel_rfl) (by decide +kernel) (by decide +kernel) (by decide +kernel)
    (by first | exact .inl (by decide +kernel) | exact .inr (by decide +kernel)) (by rw [isSubtype_type]; kernel_rfl)
theorem type_re_search : typeOf (.builtin "re.Pattern.search") = pure (.type "method_descriptor") := by show builtinType _ = _; rw [builtinType_eq_fast]; kernel_rfl
theorem entry_re_search : entryFor table "re.Pattern.search" = some Builtin.«re.Pattern.search» := entryFor_of_tree (by kernel_rfl)
end Mine
namespace Mine
theorem plainAttrs_re : PlainAttrs "re.Pattern" :=
  ⟨⟨"object.__getattribute__", by rw [typeLookup_type, builtinLookup_eq_fast]; kernel_rfl, by decide +kernel⟩, by rw [typeLookup_type, builtinLookup_eq_fast]; kernel_rfl⟩
theorem args_re_search_2 (a b : Value) : argsOk "re.Pattern.search" ⟨[a, b], []⟩ := by
  unfold argsOk
  kernel_rfl
end Mine
end
section -- SRER
open PySem.Builtin PySem.Builtin.Re
namespace Mine
theorem offSRER : True := by
  w_top off
  exact trivial
noncomputable def runsTo : Nat → Sre.M → Option Sre.M
  | 0, _ => none
  | t + 1, m => let m := m.runFor reTurnSteps; if m.outcome.isSome then some m else runsTo t m
noncomputable def failedB (m : Sre.M) : Bool := match m.outcome with
  | some .failed => true
  | _ => false
section
variable {M : Model} {A : Around} {E : Value → Shared → Prop} {s : Shared}
theorem drive {Q : Sre.M → Shared → Prop} : ∀ (t n : Nat) (m m' : Sre.M), runsTo t m = some m' → t ≤ n → Q m' s → wpAny M A (reDrive n m) Q E s
  | 0, _, _, _, h, _, _ => nomatch h
  | t + 1, 0, _, _, _, h, _ => absurd h (by omega)
  | t + 1, n + 1, m, m', h, hn, hq => by
    unfold runsTo at h
    unfold reDrive
    dsimp only at h ⊢
    split at h
    · rename_i ho
      cases h
      rw [if_pos ho]
      exact wpAny_pure hq
    · rename_i ho
      rw [if_neg ho]
      exact wpAny_bind (wpAny_rule (drive t n _ m' h (by omega) hq))
theorem rules {Q : PUnit → Shared → Prop} (f : Nat → Bool) (g : Nat → String) (h : Q ⟨⟩ s) : ∀ l : List Nat, wpAny M A (forIn l PUnit.unit fun i _ => (if f i = true then (rule (g i) >>= fun _ => pure (ForInStep.yield PUnit.unit)) else pure (ForInStep.yield PUnit.unit))) Q E s
  | [] => wpAny_pure h
  | i :: l => by
    rw [List.forIn_cons]
    by_cases hf : f i = true
    · rw [if_pos hf]
      exact wpAny_bind (wpAny_bind (wpAny_rule (wpAny_pure (rules f g h l))))
    · rw [if_neg hf]
      exact wpAny_bind (wpAny_pure (rules f g h l))
theorem run_end {Q : Option Sre.M → Shared → Prop} {t : Nat} {m m' : Sre.M} (hr : runsTo t m = some m') (ht : t ≤ 2 ^ 64) (hf : failedB m' = true) (h : Q none s) : wpAny M A (reRunToEnd m) Q E s := by
  unfold reRunToEnd
  refine wpAny_bind (drive t (2 ^ 64) m m' hr ht ?_)
  refine wpAny_bind (rules (fun i => m'.seen.has i) (fun i => Sre.names.getD i "") ?_ _)
  unfold failedB at hf
  split at hf
  · rename_i ho
    rw [ho]
    exact wpAny_pure h
  · cases hf
theorem named (x : Str) (t : Tok) : reNamed "re.Pattern.search" "search" ["string", "pos", "endpos"] 1 [.str x t] [] = pure [some (.str x t), none, none] := by rfl
theorem search_body {p q : Addr} {po qo : Obj} {pv fv : Value} {n0 : Nat} {codes : Array Value} {x : Str} {t : Tok} {tp tf tg tw : Tok} {Q : Fin → Shared → Prop} {k : Nat} {m' : Sre.M}
    (hp : s.heap.get? p = some po) (hpd : po.data = .fields #[pv, fv, .int 0 tg, .none, .none, .ref q, .int 0 tw]) (hq : s.heap.get? q = some qo) (hqd : qo.data = .seq codes n0)
    (hr : runsTo k (Sre.forSearch ((codes.map reRawOf).map (·.toNat)) x.cps 0 (min 0 x.cps.size) (min ((2 ^ 63 - 1 : Int)).toNat x.cps.size) false) = some m') (hk : k ≤ 2 ^ 64) (hf : failedB m' = true)
    (h : Q (.done (.ret .none)) s) : wpAny M A (Builtin.«re.Pattern.search» ⟨[.ref p, .str x t], []⟩) Q E s := by
  unfold Builtin.«re.Pattern.search»
  refine wpAny_bind ?_
  unfold reTarget
  dsimp only
  rw [named]
  refine wpAny_bind (wpAny_pure ?_)
  dsimp only
  refine wpAny_bind (wpAny_pure ?_)
  refine wpAny_bind (wpAny_pure ?_)
  refine wpAny_bind (wpAny_fieldsOf hp hpd ?_)
  have e2 : reTextOf (.str x t) = pure (x.cps, 0) := by rfl
  rw [e2]
  refine wpAny_bind (wpAny_pure ?_)
  dsimp only
  show wpAny M A (reNoCollectionInside (.str x t) 0 >>= fun _ => reRawItems (.ref q) >>= fun c => pure (ReTarget.mk (.ref p) (.str x t) (c.map (·.toNat)) x.cps 0 0 (min (Int.toNat 0) x.cps.size) (min (2 ^ 63 - 1 : Int).toNat x.cps.size))) _ E s
  have e3 : reNoCollectionInside (.str x t) 0 = pure () := by rfl
  rw [e3]
  refine wpAny_bind (wpAny_pure ?_)
  unfold reRawItems
  refine wpAny_bind (wpAny_bind (wpAny_seqItems hq hqd (wpAny_pure ?_)))
  refine wpAny_pure ?_
  unfold reAnswer
  refine wpAny_bind (run_end hr hk hf ?_)
  exact wpAny_pure h
noncomputable def okS (codes : Array Nat) (x : Str) : Bool := match runsTo 400 (Sre.forSearch codes x.cps 0 (min 0 x.cps.size) (min ((2 ^ 63 - 1 : Int)).toNat x.cps.size) false) with
  | some m' => failedB m'
  | none => false
theorem call_search {prog : Program} {w : World} {p q : Addr} {po qo : Obj} {pv fv : Value} {n0 : Nat} {codes : Array Value} {x : Str} {t tg tw : Tok} {Q : Value → Shared → Prop}
    (hp : s.heap.get? p = some po) (hpc : po.cls = .type "re.Pattern") (hpd : po.data = .fields #[pv, fv, .int 0 tg, .none, .none, .ref q, .int 0 tw]) (hq : s.heap.get? q = some qo) (hqd : qo.data = .seq codes n0)
    (hok : okS ((codes.map reRawOf).map (·.toNat)) x = true)
    (h : Q .none s) : wpAny (model prog w) A (call (.builtin "re.Pattern.search") [.ref p, .str x t]) Q E s := by
  unfold okS at hok
  split at hok
  · rename_i m' hr
    refine wpAny_call_entry slot_re_search (s := s) ⟨_, hp, hpc⟩ entry_re_search ?_ (args_re_search_2 _ _)
    exact search_body (tp := 0) (tf := 0) hp hpd hq hqd hr (by omega) hok ⟨_, rfl, h⟩
  · cases hok
end
end Mine
end
section -- CONV
namespace Mine
theorem offCONV : True := by
  w_top off
  exact trivial
section
variable {w : World} {A : Around} {E : Value → Shared → Prop} {s : Shared} {h₀ : Heap} {L : Addr} {m : Str → Option Value} {p q : Addr} {po qo : Obj}
theorem re_meth {pl : Sem Bool} {Q : Value × List Value → Shared → Prop} (F : Fr h₀ L s.heap m) (X : (hd.heap_1 w.params).In h₀) (e : (hd.heap_1 w.params).lookup p = some po) (hc : po.cls = .type "re.Pattern") (hdi : po.dict = none)
    (h : Q (.builtin "re.Pattern.search", [.ref p]) s) : wpAny (model PG w) A (getMethod (.ref p) (Str.ofString "search") pl) Q E s :=
  getMethod_builtin ⟨_, F.keep _ _ (X _ _ e), hc⟩ plainAttrs_re slot_re_search type_re_search (fun a e' => by cases e'; exact ⟨_, F.keep _ _ (X _ _ e), hdi⟩) h
theorem re_call {x : Str} {t tg tw : Tok} {pv fv : Value} {n0 : Nat} {codes : Array Value} {Q : Value → Shared → Prop} (F : Fr h₀ L s.heap m) (X : (hd.heap_1 w.params).In h₀) (e : (hd.heap_1 w.params).lookup p = some po) (hc : po.cls = .type "re.Pattern")
    (hpd : po.data = .fields #[pv, fv, .int 0 tg, .none, .none, .ref q, .int 0 tw]) (eq : (hd.heap_1 w.params).lookup q = some qo) (hqd : qo.data = .seq codes n0) {cds : Array Nat} (hok : okS cds x = true) (hcd : (codes.map PySem.Builtin.Re.reRawOf).map Int.toNat = cds) (h : Q .none s) :
    wpAny (model PG w) A (call (.builtin "re.Pattern.search") [.ref p, .str x t]) Q E s :=
  call_search (F.keep _ _ (X _ _ e)) hc hpd (F.keep _ _ (X _ _ eq)) hqd (hcd ▸ hok) h
end
noncomputable def code88 : Array Nat := #[14, 10, 4, 1, 1, 22, 0, 31, 16, 127, 0, 13, 7, 22, 0, 31, 16, 127, 0, 1]
noncomputable def code93 : Array Nat := #[14, 14, 4, 1, 1, 9, 4294966783, 0, 0, 2147483648, 0, 0, 0, 0, 0, 13, 11, 9, 4294966783, 0, 0, 2147483648, 0, 0, 0, 0, 0, 1]
noncomputable def dig (n : Nat) : Str := ⟨#[48 + n]⟩
theorem ok88 : ∀ n, n < 8 → okS code88 (wl n) = true := by decide +kernel
theorem ok93 : ∀ n, n < 8 → okS code93 (dig n) = true := by decide +kernel
theorem ok88w (n : Nat) (h : n < 8) : okS code88 (wordS n) = true := by rw [wl_eq n h]; exact ok88 n h
theorem conv_t (w : World) (mean : ExcName → Option Value) (mg mb : Str → Option Value) (x : Str) (tx : Tok) (sv : Value) (hok : okS code88 x = true) :
  ∀ (dp un : Nat) (gd : Option (List Code)) (cn : Str) (cs : Scope) (a : Addr) (ccd : Value) (cl : List (Str × Addr)) (outer : List Env) (A₀ : Around) (base h₀ : Heap) (L : Addr) (m : Str → Option Value) (news : List (Addr × Obj)) (s : Shared) (Q E : Value → Shared → Prop),
    Below A₀ base outer h₀ → Fr h₀ L s.heap m → (hd.heap_1 w.params).In h₀ → News h₀ L s.heap news → Top VW LO mean mg mb h₀ → cs.kind = .function → dp + 40 < recursionLimit → un + 200 < cLine →
    (∀ t h' tk', Fr h₀ L h' m → News h₀ L h' news → Q (.str x t) { s with heap := h', toks := tk' }) → wpAny (model PG w) (ktrTop dp un gd cn cs L a ccd cl outer) (call (.ref 115) [sv, .str x tx] [(Str.ofString "name", .bool true)]) Q E s := by
  w_top off
  intro dp un gd cn cs a ccd cl outer A₀ base h₀ L m news s Q E hB hF hX hN hT hk hdp hu hret
  refine wpAny_call ?_
  k_dflt cell_enter
  (with_reducible rename Fr _ _ _ (fun y => List.lookup y _) => FE0); have FE := fr3 FE0; clear FE0; dsimp only at FE
  (repeat' (first | (k_unfold; (try dsimp only)) | (first | ((with_reducible show wpAny _ _ (call (Value.builtin "re.Pattern.search") _) _ _ _); (k_here; k_dflt (refine' re_call ?k1 ?k2 ?k3 ?k4 ?k5 ?k6 ?k7 ?k8 ?k9 ?_; (case k8 => exact hok); (case k1 => k_asm); (case k2 => k_asm); (case k3 => k_is); (case k4 => rfl); (case k5 => rfl); (case k6 => k_is); (case k7 => rfl); (case k9 => decide +kernel)))) | (k_here; (with_reducible show wpAny _ _ (getMethod (Value.ref _) (Str.ofString "search") _) _ _ _); k_dflt (refine' re_meth ?k1 ?k2 ?k3 ?k4 ?k5 ?_; (case k1 => k_asm); (case k2 => k_asm); (case k3 => k_is); (case k4 => rfl); (case k5 => rfl))) | walk1) | (dsimp only; (first | ((with_reducible show wpAny _ _ (call (Value.builtin "re.Pattern.search") _) _ _ _); (k_here; k_dflt (refine' re_call ?k1 ?k2 ?k3 ?k4 ?k5 ?k6 ?k7 ?k8 ?k9 ?_; (case k8 => exact hok); (case k1 => k_asm); (case k2 => k_asm); (case k3 => k_is); (case k4 => rfl); (case k5 => rfl); (case k6 => k_is); (case k7 => rfl); (case k9 => decide +kernel)))) | (k_here; (with_reducible show wpAny _ _ (getMethod (Value.ref _) (Str.ofString "search") _) _ _ _); k_dflt (refine' re_meth ?k1 ?k2 ?k3 ?k4 ?k5 ?_; (case k1 => k_asm); (case k2 => k_asm); (case k3 => k_is); (case k4 => rfl); (case k5 => rfl))) | walk1)) | (leave1; (try dsimp only))))
  exact hret _ _ _ (by k_asm) (by k_asm)
theorem conv_f (w : World) (mean : ExcName → Option Value) (mg mb : Str → Option Value) (x : Str) (tx : Tok) (sv : Value) (hok : okS code93 x = true) :
  ∀ (dp un : Nat) (gd : Option (List Code)) (cn : Str) (cs : Scope) (a : Addr) (ccd : Value) (cl : List (Str × Addr)) (outer : List Env) (A₀ : Around) (base h₀ : Heap) (L : Addr) (m : Str → Option Value) (news : List (Addr × Obj)) (s : Shared) (Q E : Value → Shared → Prop),
    Below A₀ base outer h₀ → Fr h₀ L s.heap m → (hd.heap_1 w.params).In h₀ → News h₀ L s.heap news → Top VW LO mean mg mb h₀ → cs.kind = .function → dp + 40 < recursionLimit → un + 200 < cLine →
    (∀ t h' tk', Fr h₀ L h' m → News h₀ L h' news → Q (.str x t) { s with heap := h', toks := tk' }) → wpAny (model PG w) (ktrTop dp un gd cn cs L a ccd cl outer) (call (.ref 115) [sv, .str x tx] [(Str.ofString "name", .bool false)]) Q E s := by
  w_top off
  intro dp un gd cn cs a ccd cl outer A₀ base h₀ L m news s Q E hB hF hX hN hT hk hdp hu hret
  refine wpAny_call ?_
  k_dflt cell_enter
  (with_reducible rename Fr _ _ _ (fun y => List.lookup y _) => FE0); have FE := fr3 FE0; clear FE0; dsimp only at FE
  (repeat' (first | (k_unfold; (try dsimp only)) | (first | ((with_reducible show wpAny _ _ (call (Value.builtin "re.Pattern.search") _) _ _ _); (k_here; k_dflt (refine' re_call ?k1 ?k2 ?k3 ?k4 ?k5 ?k6 ?k7 ?k8 ?k9 ?_; (case k8 => exact hok); (case k1 => k_asm); (case k2 => k_asm); (case k3 => k_is); (case k4 => rfl); (case k5 => rfl); (case k6 => k_is); (case k7 => rfl); (case k9 => decide +kernel)))) | (k_here; (with_reducible show wpAny _ _ (getMethod (Value.ref _) (Str.ofString "search") _) _ _ _); k_dflt (refine' re_meth ?k1 ?k2 ?k3 ?k4 ?k5 ?_; (case k1 => k_asm); (case k2 => k_asm); (case k3 => k_is); (case k4 => rfl); (case k5 => rfl))) | walk1) | (dsimp only; (first | ((with_reducible show wpAny _ _ (call (Value.builtin "re.Pattern.search") _) _ _ _); (k_here; k_dflt (refine' re_call ?k1 ?k2 ?k3 ?k4 ?k5 ?k6 ?k7 ?k8 ?k9 ?_; (case k8 => exact hok); (case k1 => k_asm); (case k2 => k_asm); (case k3 => k_is); (case k4 => rfl); (case k5 => rfl); (case k6 => k_is); (case k7 => rfl); (case k9 => decide +kernel)))) | (k_here; (with_reducible show wpAny _ _ (getMethod (Value.ref _) (Str.ofString "search") _) _ _ _); k_dflt (refine' re_meth ?k1 ?k2 ?k3 ?k4 ?k5 ?_; (case k1 => k_asm); (case k2 => k_asm); (case k3 => k_is); (case k4 => rfl); (case k5 => rfl))) | walk1)) | (leave1; (try dsimp only))))
  exact hret _ _ _ (by k_asm) (by k_asm)
end Mine
end
section -- HEADI
namespace Mine
theorem offHEADI : True := by
  w_top off
  exact trivial
noncomputable abbrev pO2 (vs : Array Value) (n : Nat) : Obj := { cls := .type "tuple", data := .seq vs n }
noncomputable def PairAt (news : List (Addr × Obj)) (n : Nat) (v : Value) : Prop := ∃ a c t1 t2, v = .ref a ∧ (a, pO2 #[Value.str (wordS n) t1, Value.str (dig n) t2] c) ∈ news
inductive PairsAt (news : List (Addr × Obj)) : List Value → List Nat → Prop
  | nil : PairsAt news [] []
  | cons {v : Value} {n : Nat} {vs : List Value} {js : List Nat} : PairAt news n v → n < 8 → PairsAt news vs js → PairsAt news (v :: vs) (n :: js)
noncomputable abbrev mH (ko vo : Option Value) (D x : Addr) : Str → Option Value := fun z => if z = Str.ofString "v" then vo else if z = Str.ofString "k" then ko else if z = Str.ofString "headers" then some (.ref D) else if z = Str.ofString "self" then some (.ref x) else none
theorem mH_init {D x : Addr} : (fun z => if z = Str.ofString "headers" then some (Value.ref D) else if z = Str.ofString "headers" then some (Value.ref D) else if z = Str.ofString "self" then some (Value.ref x) else none) = mH none none D x := by
  funext z
  rcases Decidable.em (z = Str.ofString "v") with h0 | h0
  · subst h0; rfl
  rcases Decidable.em (z = Str.ofString "k") with h1 | h1
  · subst h1; rfl
  rcases Decidable.em (z = Str.ofString "headers") with h2 | h2
  · subst h2; rfl
  simp only [mH, h0, h1, h2, if_false]
theorem mH_two {ko vo ko' vo' : Option Value} {D x : Addr} : (fun z => if z = Str.ofString "v" then vo' else if z = Str.ofString "k" then ko' else mH ko vo D x z) = mH ko' vo' D x := by
  funext z
  rcases Decidable.em (z = Str.ofString "v") with h0 | h0
  · subst h0; rfl
  rcases Decidable.em (z = Str.ofString "k") with h1 | h1
  · subst h1; rfl
  simp only [mH, h0, h1, if_false]
theorem newsPush1 {h₀ h : Heap} {L : Addr} {q p : Addr × Obj} {nw : List (Addr × Obj)} (N : News h₀ L h (q :: nw)) (hm : p ∈ nw) : News h₀ L h (p :: q :: nw) := fun x hx => (List.mem_cons.mp hx).elim (fun e => e ▸ N _ (List.mem_cons_of_mem _ hm)) (N x)
theorem nameLG {h₀ h : Heap} {L : Addr} {nw : List (Addr × Obj)} (_ : News h₀ L h nw) : ∃ nw', nw' = nw := ⟨_, rfl⟩
theorem head_c (w : World) (mean : ExcName → Option Value) (mg mb : Str → Option Value) (D : Addr) (vs : List Value) (js : List Nat) (kD : Nat) :
  ∀ (dp un : Nat) (gd : Option (List Code)) (cn : Str) (cs : Scope) (a : Addr) (ccd : Value) (cl : List (Str × Addr)) (outer : List Env) (A₀ : Around) (base h₀ : Heap) (L : Addr) (m : Str → Option Value) (news : List (Addr × Obj)) (s : Shared) (Q E : Value → Shared → Prop),
    Below A₀ base outer h₀ → Fr h₀ L s.heap m → (hd.heap_1 w.params).In h₀ → News h₀ L s.heap ((D, listOf vs.toArray kD) :: news) → Top VW LO mean mg mb h₀ → cs.kind = .function → dp + 80 < recursionLimit → un + 400 < cLine → PairsAt news vs js → vs.length ≤ 8 →
    (∀ x d tkk h' tk', Fr h₀ L h' m → News h₀ L h' ((x, instObj 214 d) :: (d, dictOf [{ hash := PyData.keyHash w.params (Str.ofString "_headers"), key := Value.str (Str.ofString "_headers") tkk, val := Value.ref D }] 1) :: (D, listOf vs.toArray kD) :: news) → Q (.ref x) { s with heap := h', toks := tk' }) → wpAny (model PG w) (ktrTop dp un gd cn cs L a ccd cl outer) (call (.ref 214) [.ref D]) Q E s := by
  w_top off
  intro dp un gd cn cs a ccd cl outer A₀ base h₀ L m news s Q E hB hF hX hN hT hk hdp hu hps hlen hret
  k_dflt (refine' call_cls ?k1 ?k2 ?k3 ?k4 ?k5 ?k6 ?_; (case k1 => k_asm); (case k2 => k_asm); (case k3 => k_asm); (case k4 => k_is); (case k5 => k_is); (case k6 => k_is); intro x' d' h' F' N' l1 l2; (try k_lt l1); (try k_lt2 l2))
  k_dflt ((refine' code_def ?k1 ?k2 ?k3 ?k4 ?k5 ?kA ?kF ?kK ?k6 ?k7 ?k8 ?k9 ?kB ?_ ?c2 ?c3 ?c4 ?c5; (case kA => exact rfl); (case kF => exact rfl); (case kK => assumption); (case k1 => k_asm); (case k2 => k_asm); (case k3 => k_asm); (case k4 => k_asm); (case k5 => k_asm); (case k6 => k_is); (case k7 => k_is); (case k8 => ktr_room); (case k9 => first | exact BindsTo.of_eq rfl | exact binds_K (by k_in) rfl (by k_is) rfl rfl rfl); (case c5 => decide); (case kB => exact locs rfl); (case c2 => exact rfl); (case c3 => exact rfl); (case c4 => exact rfl); k_whole; intro g' L' h' FG' F' N' B' X' T'; (try dsimp only); (try k_lift B'); (try k_fold)))
  (with_reducible rename Fr _ _ _ (fun y => List.lookup y _) => FE0); have FE := fr2 FE0; clear FE0; dsimp only at FE
  iterate 40 (first | (first | (k_here; (with_reducible show wpAny _ _ (call (Value.ref 115) [_, _] _) _ _ _); k_dflt (first | refine' conv_t _ _ _ _ _ _ _ hokw _ _ _ _ _ _ _ _ _ _ _ _ _ _ _ _ _ _ ?k1 ?k2 ?k3 ?k4 ?k5 ?kK ?kd ?ku ?_ | refine' conv_f _ _ _ _ _ _ _ hokd _ _ _ _ _ _ _ _ _ _ _ _ _ _ _ _ _ _ ?k1 ?k2 ?k3 ?k4 ?k5 ?kK ?kd ?ku ?_); (case k1 => k_asm); (case k2 => k_asm); (case k3 => k_asm); (case k4 => k_asm); (case k5 => k_asm); (case kK => exact rfl); (case kd => first | (show dp + 0 + 1 + 40 < _; omega) | (show dp + 1 + 1 + 40 < _; omega)); (case ku => first | (show un + 0 + 3 + 200 < _; omega) | (show un + 1 + 3 + 200 < _; omega) | (show un + 2 + 3 + 200 < _; omega)); intro tS hS tkS FS NS; dsimp only) | walk1) | (dsimp only; (first | (k_here; (with_reducible show wpAny _ _ (call (Value.ref 115) [_, _] _) _ _ _); k_dflt (first | refine' conv_t _ _ _ _ _ _ _ hokw _ _ _ _ _ _ _ _ _ _ _ _ _ _ _ _ _ _ ?k1 ?k2 ?k3 ?k4 ?k5 ?kK ?kd ?ku ?_ | refine' conv_f _ _ _ _ _ _ _ hokd _ _ _ _ _ _ _ _ _ _ _ _ _ _ _ _ _ _ ?k1 ?k2 ?k3 ?k4 ?k5 ?kK ?kd ?ku ?_); (case k1 => k_asm); (case k2 => k_asm); (case k3 => k_asm); (case k4 => k_asm); (case k5 => k_asm); (case kK => exact rfl); (case kd => first | (show dp + 0 + 1 + 40 < _; omega) | (show dp + 1 + 1 + 40 < _; omega)); (case ku => first | (show un + 0 + 3 + 200 < _; omega) | (show un + 1 + 3 + 200 < _; omega) | (show un + 2 + 3 + 200 < _; omega)); intro tS hS tkS FS NS; dsimp only) | walk1)))
  (with_reducible rename Fr _ _ _ (fun z => if z = Str.ofString "headers" then _ else _) => F2)
  (with_reducible rename News _ _ _ ((x', _) :: (d', _) :: _) => N2)
  k_here
  with_unfolding_all refine' For_turns F2 ?_
  iterate 1 (first | (k_here; (with_reducible show wpAny _ _ (call (Value.ref 115) [_, _] _) _ _ _); k_dflt (first | refine' conv_t _ _ _ _ _ _ _ hokw _ _ _ _ _ _ _ _ _ _ _ _ _ _ _ _ _ _ ?k1 ?k2 ?k3 ?k4 ?k5 ?kK ?kd ?ku ?_ | refine' conv_f _ _ _ _ _ _ _ hokd _ _ _ _ _ _ _ _ _ _ _ _ _ _ _ _ _ _ ?k1 ?k2 ?k3 ?k4 ?k5 ?kK ?kd ?ku ?_); (case k1 => k_asm); (case k2 => k_asm); (case k3 => k_asm); (case k4 => k_asm); (case k5 => k_asm); (case kK => exact rfl); (case kd => first | (show dp + 0 + 1 + 40 < _; omega) | (show dp + 1 + 1 + 40 < _; omega)); (case ku => first | (show un + 0 + 3 + 200 < _; omega) | (show un + 1 + 3 + 200 < _; omega) | (show un + 2 + 3 + 200 < _; omega)); intro tS hS tkS FS NS; dsimp only) | walk1)
  k_here
  with_unfolding_all refine iter_listTurns (vs := vs) (lo := listOf vs.toArray kD) (n := kD) ?h0 (by exact F2) (by exact N2) ?hm ?hc ?hd ?_
  case h0 => exact rfl
  case hm => exact List.mem_cons_of_mem _ (List.mem_cons_of_mem _ (List.mem_cons_self ..))
  case hc => exact rfl
  case hd => exact rfl
  intro I hI
  rw [mH_init]
  obtain ⟨LG, hLG⟩ := nameLG N2
  rw [← hLG]
  rw [← hLG] at hI
  refine vals_ind (fun r m nw => ∃ ko vo js', m = mH ko vo D x' ∧ nw = LG ∧ PairsAt news r js') ?nil ?step _ _ _ ?J
  case J => exact ⟨none, none, js, rfl, rfl, hps⟩
  case nil =>
    rintro m nw ⟨ko, vo, js', rfl, rfl, -⟩ h tk F9 N9
    subst hLG
    dsimp only
    (repeat' (first | (k_unfold; (try dsimp only)) | (first | (k_here; (with_reducible show wpAny _ _ (call (Value.ref 115) [_, _] _) _ _ _); k_dflt (first | refine' conv_t _ _ _ _ _ _ _ hokw _ _ _ _ _ _ _ _ _ _ _ _ _ _ _ _ _ _ ?k1 ?k2 ?k3 ?k4 ?k5 ?kK ?kd ?ku ?_ | refine' conv_f _ _ _ _ _ _ _ hokd _ _ _ _ _ _ _ _ _ _ _ _ _ _ _ _ _ _ ?k1 ?k2 ?k3 ?k4 ?k5 ?kK ?kd ?ku ?_); (case k1 => k_asm); (case k2 => k_asm); (case k3 => k_asm); (case k4 => k_asm); (case k5 => k_asm); (case kK => exact rfl); (case kd => first | (show dp + 0 + 1 + 40 < _; omega) | (show dp + 1 + 1 + 40 < _; omega)); (case ku => first | (show un + 0 + 3 + 200 < _; omega) | (show un + 1 + 3 + 200 < _; omega) | (show un + 2 + 3 + 200 < _; omega)); intro tS hS tkS FS NS; dsimp only) | walk1) | (dsimp only; (first | (k_here; (with_reducible show wpAny _ _ (call (Value.ref 115) [_, _] _) _ _ _); k_dflt (first | refine' conv_t _ _ _ _ _ _ _ hokw _ _ _ _ _ _ _ _ _ _ _ _ _ _ _ _ _ _ ?k1 ?k2 ?k3 ?k4 ?k5 ?kK ?kd ?ku ?_ | refine' conv_f _ _ _ _ _ _ _ hokd _ _ _ _ _ _ _ _ _ _ _ _ _ _ _ _ _ _ ?k1 ?k2 ?k3 ?k4 ?k5 ?kK ?kd ?ku ?_); (case k1 => k_asm); (case k2 => k_asm); (case k3 => k_asm); (case k4 => k_asm); (case k5 => k_asm); (case kK => exact rfl); (case kd => first | (show dp + 0 + 1 + 40 < _; omega) | (show dp + 1 + 1 + 40 < _; omega)); (case ku => first | (show un + 0 + 3 + 200 < _; omega) | (show un + 1 + 3 + 200 < _; omega) | (show un + 2 + 3 + 200 < _; omega)); intro tS hS tkS FS NS; dsimp only) | walk1)) | (leave1; (try dsimp only))))
    (rename News h₀ L _ _ => kN2)
    exact hret _ _ _ _ _ (by k_asm) kN2
  case step =>
    rintro v r m nw ⟨ko, vo, js', rfl, hnw, hp⟩ h tk F9
    rw [hnw]
    clear hnw
    match hp with
    | .cons (n := n) hv hn8 hr =>
      obtain ⟨pa, pc, t1, t2, rfl, hmem⟩ := hv
      have hokw := ok88w n hn8
      have hokd := ok93 n hn8
      ktu_objs
      have hI9 : ∀ p ∈ LG, @LT.lt Nat _ p.1 I := hI
      (with_reducible rename News _ _ _ ((I, _) :: LG) => N9)
      have N10 := newsPush1 N9 (by rw [hLG]; exact List.mem_cons_of_mem _ (List.mem_cons_of_mem _ (List.mem_cons_of_mem _ hmem)))
      rw [hLG] at N10
      clear N9
      (repeat' (first | (k_unfold; (try dsimp only)) | (first | (k_here; (with_reducible show wpAny _ _ (call (Value.ref 115) [_, _] _) _ _ _); k_dflt (first | refine' conv_t _ _ _ _ _ _ _ hokw _ _ _ _ _ _ _ _ _ _ _ _ _ _ _ _ _ _ ?k1 ?k2 ?k3 ?k4 ?k5 ?kK ?kd ?ku ?_ | refine' conv_f _ _ _ _ _ _ _ hokd _ _ _ _ _ _ _ _ _ _ _ _ _ _ _ _ _ _ ?k1 ?k2 ?k3 ?k4 ?k5 ?kK ?kd ?ku ?_); (case k1 => k_asm); (case k2 => k_asm); (case k3 => k_asm); (case k4 => k_asm); (case k5 => k_asm); (case kK => exact rfl); (case kd => first | (show dp + 0 + 1 + 40 < _; omega) | (show dp + 1 + 1 + 40 < _; omega)); (case ku => first | (show un + 0 + 3 + 200 < _; omega) | (show un + 1 + 3 + 200 < _; omega) | (show un + 2 + 3 + 200 < _; omega)); intro tS hS tkS FS NS; dsimp only) | walk1) | (dsimp only; (first | (k_here; (with_reducible show wpAny _ _ (call (Value.ref 115) [_, _] _) _ _ _); k_dflt (first | refine' conv_t _ _ _ _ _ _ _ hokw _ _ _ _ _ _ _ _ _ _ _ _ _ _ _ _ _ _ ?k1 ?k2 ?k3 ?k4 ?k5 ?kK ?kd ?ku ?_ | refine' conv_f _ _ _ _ _ _ _ hokd _ _ _ _ _ _ _ _ _ _ _ _ _ _ _ _ _ _ ?k1 ?k2 ?k3 ?k4 ?k5 ?kK ?kd ?ku ?_); (case k1 => k_asm); (case k2 => k_asm); (case k3 => k_asm); (case k4 => k_asm); (case k5 => k_asm); (case kK => exact rfl); (case kd => first | (show dp + 0 + 1 + 40 < _; omega) | (show dp + 1 + 1 + 40 < _; omega)); (case ku => first | (show un + 0 + 3 + 200 < _; omega) | (show un + 1 + 3 + 200 < _; omega) | (show un + 2 + 3 + 200 < _; omega)); intro tS hS tkS FS NS; dsimp only) | walk1)) | (leave1; (try dsimp only))))
      (with_reducible rename Fr _ _ _ (fun z => if z = Str.ofString "v" then _ else _) => F10)
      (with_reducible rename News _ _ _ ((pa, _) :: (I, _) :: _) => N11)
      rw [mH_two] at F10
      refine ⟨_, _, _, LG, rfl, F10, ?nN, ?offO, ?subO, _, _, _, rfl, rfl, hr⟩
      case nN =>
        rw [hLG]; exact fun p hp => N11 p (List.mem_cons_of_mem _ hp)
      case offO =>
        intro p hp q hq
        rw [List.mem_singleton.mp hq]
        exact Nat.ne_of_lt (hI9 p hp)
      case subO =>
        rw [hLG]
        exact ⟨List.mem_cons_of_mem _ (List.mem_cons_of_mem _ (List.mem_cons_self ..)), trivial⟩
end Mine
end
section -- KEYS
namespace Mine
theorem offKEYS : True := by
  w_top off
  exact trivial
section
open PyProof.Rows.LCg PyProof.Rows.LCp PySem.Spec PySem.Calls
theorem pairs_rest {prog : Program} {w : World} {A : Around} {h₀ : Heap} {L : Addr} {m : Str → Option Value} {env : Env} {elt : PySem.Expr} {x x₂ : Str} {scope : Scope} {cl : List (Str × Addr)} {s : Shared} {S : List (Addr × Obj) → Prop} {Fin : List Value → List (Addr × Obj) → Prop} {its : Array Value} {jsAll : List Nat}
    (news nws : List (Addr × Obj)) (hmem : ∀ p ∈ news, p ∈ nws)
    (turn : ∀ n t1 t2 ys, n < 8 → ∀ I oI C oC D m₂ h tk (E' : Value → Shared → Prop), NsObj oC m₂ → m₂ x = some (.str (wordS n) t1) → m₂ x₂ = some (.str (dig n) t2) → Fr h₀ L h m → News h₀ L h ((I, oI) :: (C, oC) :: (D, lst ys) :: nws) → Off3 I C D nws → ((@Ne Nat I C) ∧ (@Ne Nat I D) ∧ (@Ne Nat C D)) →
      wpAny (model prog w) A (eval elt (compEnvC scope cl C env)) (CompEnd h₀ L m { s with heap := h, toks := tk } I oI C oC D (lst ys) S (fun y news' => news' = nws ∧ ∃ t, y = .str (wordS n) t)) E' { s with heap := h, toks := tk })
    (fin : ∀ ys, StrsAre ys (jsAll.map wordS) → Fin ys nws) :
    ∀ (vs : List Value) (js done : List Nat) (pre ys : List Value), its.toList = pre ++ vs → PairsAt news vs js → done ++ js = jsAll → StrsAre ys (done.map wordS) →
      CompRestP prog w A h₀ L m env elt x x₂ scope cl s S (fun i v => its[i]? = some v) Fin vs.length pre.length ys nws := by
  intro vs
  induction vs with
  | nil =>
    intro js done pre ys _ hp hd hy
    cases hp
    rw [List.append_nil] at hd
    exact CompRestP.zero (fin ys (hd ▸ hy))
  | cons v vs ih =>
    intro js done pre ys hi hp hd hy
    match hp with
    | .cons (n := n) (js := js') hv hn hr =>
      refine CompRestP.succ fun v' hv' => ?_
      have e : v' = v := by
        rw [← Array.getElem?_toList, hi, List.getElem?_append_right (Nat.le_refl _), Nat.sub_self] at hv'
        exact (Option.some.inj hv').symm
      subst e
      obtain ⟨a, c, t1, t2, rfl, hm⟩ := hv
      refine ⟨a, _, _, _, c, rfl, hmem _ hm, rfl, rfl, ?_⟩
      intro I oI C oC D m₂ h tk E' hNs h1 h2 F N off ne
      refine wpAny_mono (turn n t1 t2 ys hn I oI C oC D m₂ h tk E' hNs h1 h2 F N off ne) (fun y s₂ hy2 => ?_) (fun _ _ e => e)
      obtain ⟨h', tk', news', rfl, F', N', off', hS', rfl, t, rfl⟩ := hy2
      refine ⟨h', tk', _, rfl, F', N', off', hS', ?_⟩
      have z := ih js' (done ++ [n]) (pre ++ [.ref a]) (ys ++ [.str (wordS n) t]) (by rw [hi, List.append_assoc]; rfl) hr (by rw [List.append_assoc]; exact hd) (by rw [List.map_append, List.map_singleton]; exact strsAre_snoc hy)
      rw [List.length_append, List.length_singleton] at z
      exact z
end
theorem newsPush {h₀ h : Heap} {L : Addr} {p : Addr × Obj} {nw : List (Addr × Obj)} (N : News h₀ L h nw) (hm : p ∈ nw) : News h₀ L h (p :: nw) := fun x hx => (List.mem_cons.mp hx).elim (fun e => e ▸ N _ hm) (N x)
noncomputable abbrev hdD (w : World) (tkk : Nat) (D : Addr) : Obj := dictOf [{ hash := PyData.keyHash w.params (Str.ofString "_headers"), key := Value.str (Str.ofString "_headers") tkk, val := Value.ref D }] 1
theorem keys_c (w : World) (mean : ExcName → Option Value) (mg mb : Str → Option Value) (x d D : Addr) (tkk : Nat) (vs : List Value) (js : List Nat) (kD : Nat) (news : List (Addr × Obj)) (hmx : (x, instObj 214 d) ∈ news) (hmd : (d, hdD w tkk D) ∈ news) (hmD : (D, listOf vs.toArray kD) ∈ news) (hps : PairsAt news vs js) (hlen : vs.length ≤ 8) :
  ∀ (dp un : Nat) (gd : Option (List Code)) (cn : Str) (cs : Scope) (a : Addr) (ccd : Value) (cl : List (Str × Addr)) (outer : List Env) (A₀ : Around) (base h₀ : Heap) (L : Addr) (m : Str → Option Value) (s : Shared) (Q E : Value → Shared → Prop),
    Below A₀ base outer h₀ → Fr h₀ L s.heap m → (hd.heap_1 w.params).In h₀ → News h₀ L s.heap news → Top VW LO mean mg mb h₀ → cs.kind = .function → dp + 80 < recursionLimit → un + 400 < cLine →
    (∀ D' ws h' tk', Fr h₀ L h' m → News h₀ L h' ((D', LCg.lst ws) :: news) → StrsAre ws (js.map wordS) → Q (.ref D') { s with heap := h', toks := tk' }) → wpAny (model PG w) (ktrTop dp un gd cn cs L a ccd cl outer) (call (.ref 166) [.ref x]) Q E s := by
  w_top off
  intro dp un gd cn cs a ccd cl outer A₀ base h₀ L m s Q E hB hF hX hN hT hk hdp hu hret
  have N0 := newsPush (newsPush (newsPush hN hmD) (List.mem_cons_of_mem _ hmd)) (List.mem_cons_of_mem _ (List.mem_cons_of_mem _ hmx))
  clear hN
  refine wpAny_call ?_
  k_dflt cell_enter
  (with_reducible rename Fr _ _ _ (fun y => List.lookup y _) => FE0); have FE := fr1 FE0; clear FE0; dsimp only at FE
  iterate 6 (first | (first | ((with_reducible show wpAny _ _ (eval (Expr.ListComp _ _ _ _) _) _ _ _); (k_here; k_dflt (refine LCp.ListComp_P (F₀ := by k_asm) (by with_unfolding_all rfl) (by decide) (by rfl) (by decide) (by rfl) (by rfl) (by decide) ?_))) | walk1) | (dsimp only; (first | ((with_reducible show wpAny _ _ (eval (Expr.ListComp _ _ _ _) _) _ _ _); (k_here; k_dflt (refine LCp.ListComp_P (F₀ := by k_asm) (by with_unfolding_all rfl) (by decide) (by rfl) (by decide) (by rfl) (by rfl) (by decide) ?_))) | walk1)))
  have hsz : (vs.toArray).size ≤ sizeLine := by
    rw [List.size_toArray]; exact Nat.le_trans hlen (Nat.le_of_ble_eq_true rfl)
  (with_reducible rename News _ _ _ ((x, _) :: _) => N1)
  refine LCp.SrcLP.ledger (ax := D) (its := vs.toArray) (k := kD) (by rfl) (by k_asm) N1 (List.mem_cons_of_mem _ (List.mem_cons_of_mem _ (List.mem_cons_self ..))) hsz ?_
  intro g'
  refine pairs_rest (jsAll := js) news _ (fun p hp => List.mem_cons_of_mem _ (List.mem_cons_of_mem _ (List.mem_cons_of_mem _ hp))) ?turn ?fin vs js [] [] [] rfl hps rfl ?nil
  case nil => exact .nil
  case turn =>
    intro n t1 t2 ys hn I oI C oC D' m₂ h tk E' hNs h1 h2 F N off ne
    (first | ((with_reducible show wpAny _ _ (eval (Expr.ListComp _ _ _ _) _) _ _ _); (k_here; k_dflt (refine LCp.ListComp_P (F₀ := by k_asm) (by with_unfolding_all rfl) (by decide) (by rfl) (by decide) (by rfl) (by rfl) (by decide) ?_))) | walk1)
    exact ⟨_, _, _, rfl, F, N, off, .inr ⟨_, List.mem_cons_of_mem _ (List.mem_cons_of_mem _ (List.mem_cons_self ..)), rfl, _, rfl⟩, rfl, _, rfl⟩
  case fin =>
    intro ys hy D' h tk F N off
    dsimp only
    (repeat' (first | (k_unfold; (try dsimp only)) | (first | ((with_reducible show wpAny _ _ (eval (Expr.ListComp _ _ _ _) _) _ _ _); (k_here; k_dflt (refine LCp.ListComp_P (F₀ := by k_asm) (by with_unfolding_all rfl) (by decide) (by rfl) (by decide) (by rfl) (by rfl) (by decide) ?_))) | walk1) | (dsimp only; (first | ((with_reducible show wpAny _ _ (eval (Expr.ListComp _ _ _ _) _) _ _ _); (k_here; k_dflt (refine LCp.ListComp_P (F₀ := by k_asm) (by with_unfolding_all rfl) (by decide) (by rfl) (by decide) (by rfl) (by rfl) (by decide) ?_))) | walk1)) | (leave1; (try dsimp only))))
    (rename News h₀ L _ _ => kN2)
    refine hret _ ys _ _ (by k_asm) (fun p hp => kN2 p ?_) hy
    rcases List.mem_cons.mp hp with rfl | hp
    · exact List.mem_cons_self ..
    · exact List.mem_cons_of_mem _ (List.mem_cons_of_mem _ (List.mem_cons_of_mem _ (List.mem_cons_of_mem _ hp)))
end Mine
end
section -- GETA
namespace Mine
theorem offGETA : True := by
  w_top off
  exact trivial
local macro_rules | `(tactic| k_all) => `(tactic| assumption)
section
open PyProof.Rows.LCg PyProof.Rows.LCt PySem.Spec PySem.Calls
theorem pairsT_rest {prog : Program} {w : World} {A : Around} {h₀ : Heap} {L : Addr} {m : Str → Option Value} {env : Env} {ct elt : PySem.Expr} {x : Str} {scope : Scope} {cl : List (Str × Addr)} {s : Shared} {S : List (Addr × Obj) → Prop} {Fin : List Value → List (Addr × Obj) → Prop} {its : Array Value} {jsAll : List Nat}
    (news nws : List (Addr × Obj)) (hmem : ∀ p ∈ news, p ∈ nws)
    (turn : ∀ n a c t1 t2 ys, n < 8 → (a, pO2 #[Value.str (wordS n) t1, Value.str (dig n) t2] c) ∈ nws → ∀ I oI C oC D m₂ h tk (E' : Value → Shared → Prop) (R : Value → List (Addr × Obj) → Prop) (Z : Shared → Prop), NsObj oC m₂ → m₂ x = some (.ref a) → Fr h₀ L h m → News h₀ L h ((I, oI) :: (C, oC) :: (D, lst ys) :: nws) → Off3 I C D nws → ((@Ne Nat I C) ∧ (@Ne Nat I D) ∧ (@Ne Nat C D)) → (∀ t, R (.str (dig n) t) nws) →
      wpAny (model prog w) A (isTrue ct (compEnvC scope cl C env) (eval ct (compEnvC scope cl C env))) (fun ok s' => if ok = true then
        wpAny (model prog w) A (eval elt (compEnvC scope cl C env)) (CompEnd h₀ L m { s with heap := h, toks := tk } I oI C oC D (lst ys) S R) E' s' else Z s') E' { s with heap := h, toks := tk })
    (fin : ∀ ys, StrsAre ys (jsAll.map dig) → Fin ys nws) :
    ∀ (vs : List Value) (js done : List Nat) (pre ys : List Value), its.toList = pre ++ vs → PairsAt news vs js → done ++ js = jsAll → StrsAre ys (done.map dig) →
      CompRestT prog w A h₀ L m env ct elt x scope cl s S (fun i v => its[i]? = some v) Fin vs.length pre.length ys nws := by
  intro vs
  induction vs with
  | nil =>
    intro js done pre ys _ hp hd hy
    cases hp
    rw [List.append_nil] at hd
    exact CompRestT.zero (fin ys (hd ▸ hy))
  | cons v vs ih =>
    intro js done pre ys hi hp hd hy
    match hp with
    | .cons (n := n) (js := js') hv hn hr =>
      refine CompRestT.succ fun v' I oI C oC D m₂ h tk E' hv' hNs h1 F N off ne => ?_
      have e : v' = v := by
        rw [← Array.getElem?_toList, hi, List.getElem?_append_right (Nat.le_refl _), Nat.sub_self] at hv'
        exact (Option.some.inj hv').symm
      subst e
      obtain ⟨a, c, t1, t2, rfl, hm⟩ := hv
      refine turn n a c t1 t2 ys hn (hmem _ hm) I oI C oC D m₂ h tk E' _ _ hNs h1 F N off ne (fun t => ?_)
      have z := ih js' (done ++ [n]) (pre ++ [.ref a]) (ys ++ [.str (dig n) t]) (by rw [hi, List.append_assoc]; rfl) hr (by rw [List.append_assoc]; exact hd) (by rw [List.map_append, List.map_singleton]; exact strsAre_snoc hy)
      rw [List.length_append, List.length_singleton] at z
      exact z
end
theorem low_abc : ∀ n, n < 8 → Txt.lower (wordS n) = Str.ofString "abc" := by decide +kernel
theorem apart_ledger {L x d D : Nat} {o1 o2 o3 : Obj} {news : List (Addr × Obj)} (h : x < L ∧ d < L ∧ D < L ∧ AllLt L news) : ∀ p ∈ ((x, o1) :: (d, o2) :: (D, o3) :: news : List (Addr × Obj)), @Ne Nat p.1 (L + 1) := by
  intro p hp
  have hl : @LT.lt Nat _ p.1 L := by
    rcases List.mem_cons.mp hp with rfl | hp
    · exact h.1
    rcases List.mem_cons.mp hp with rfl | hp
    · exact h.2.1
    rcases List.mem_cons.mp hp with rfl | hp
    · exact h.2.2.1
    · exact allLt_all h.2.2.2 p hp
  exact Nat.ne_of_lt (Nat.lt_succ_of_lt hl)
theorem all_c (w : World) (mean : ExcName → Option Value) (mg mb : Str → Option Value) (x d D : Addr) (tkk : Nat) (tA : Tok) (vs : List Value) (js : List Nat) (kD : Nat) (news : List (Addr × Obj)) (hmx : (x, instObj 214 d) ∈ news) (hmd : (d, hdD w tkk D) ∈ news) (hmD : (D, listOf vs.toArray kD) ∈ news) (hps : PairsAt news vs js) (hlen : vs.length ≤ 8) :
  ∀ (dp un : Nat) (gd : Option (List Code)) (cn : Str) (cs : Scope) (a : Addr) (ccd : Value) (cl : List (Str × Addr)) (outer : List Env) (A₀ : Around) (base h₀ : Heap) (L : Addr) (m : Str → Option Value) (s : Shared) (Q E : Value → Shared → Prop),
    Below A₀ base outer h₀ → Fr h₀ L s.heap m → (hd.heap_1 w.params).In h₀ → News h₀ L s.heap news → Top VW LO mean mg mb h₀ → cs.kind = .function → dp + 80 < recursionLimit → un + 400 < cLine →
    (∀ D' ws h' tk', Fr h₀ L h' m → News h₀ L h' ((D', LCg.lst ws) :: news) → StrsAre ws (js.map dig) → Q (.ref D') { s with heap := h', toks := tk' }) → wpAny (model PG w) (ktrTop dp un gd cn cs L a ccd cl outer) (call (.ref 153) [.ref x, .str (Str.ofString "aBc") tA]) Q E s := by
  w_top off
  revert w mean mg mb x d D tkk tA vs js kD news
  refine eps8 neW inferInstance inferInstance inferInstance inferInstance inferInstance inferInstance inferInstance ?_; generalize E8_1 _ _ _ _ _ _ _ _ _ = w; generalize E8_2 _ _ _ _ _ _ _ _ _ = mean; generalize E8_3 _ _ _ _ _ _ _ _ _ = mg; generalize E8_4 _ _ _ _ _ _ _ _ _ = mb; generalize E8_5 _ _ _ _ _ _ _ _ _ = x; generalize E8_6 _ _ _ _ _ _ _ _ _ = d; generalize E8_7 _ _ _ _ _ _ _ _ _ = D; generalize E8_8 _ _ _ _ _ _ _ _ _ = tkk
  refine eps5 inferInstance inferInstance inferInstance inferInstance inferInstance ?_; generalize E5_1 _ _ _ _ _ _ = tA; generalize E5_2 _ _ _ _ _ _ = vs; generalize E5_3 _ _ _ _ _ _ = js; generalize E5_4 _ _ _ _ _ _ = kD; generalize E5_5 _ _ _ _ _ _ = news
  intro hmx hmd hmD hps hlen
  refine eps8 inferInstance inferInstance inferInstance inferInstance inferInstance inferInstance inferInstance inferInstance ?_; generalize E8_1 _ _ _ _ _ _ _ _ _ = dp; generalize E8_2 _ _ _ _ _ _ _ _ _ = un; generalize E8_3 _ _ _ _ _ _ _ _ _ = gd; generalize E8_4 _ _ _ _ _ _ _ _ _ = cn; generalize E8_5 _ _ _ _ _ _ _ _ _ = cs; generalize E8_6 _ _ _ _ _ _ _ _ _ = a; generalize E8_7 _ _ _ _ _ _ _ _ _ = ccd; generalize E8_8 _ _ _ _ _ _ _ _ _ = cl
  refine eps8 inferInstance neA inferInstance inferInstance inferInstance inferInstance neS inferInstance ?_; generalize E8_1 _ _ _ _ _ _ _ _ _ = outer; generalize E8_2 _ _ _ _ _ _ _ _ _ = A₀; generalize E8_3 _ _ _ _ _ _ _ _ _ = base; generalize E8_4 _ _ _ _ _ _ _ _ _ = h₀; generalize E8_5 _ _ _ _ _ _ _ _ _ = L; generalize E8_6 _ _ _ _ _ _ _ _ _ = m; generalize E8_7 _ _ _ _ _ _ _ _ _ = s; generalize E8_8 _ _ _ _ _ _ _ _ _ = Q
  refine eps1 inferInstance ?_; generalize E1 _ _ = E
  intro hB hF hX hN hT hk hdp hu hret
  have N0 := newsPush (newsPush (newsPush hN hmD) (List.mem_cons_of_mem _ hmd)) (List.mem_cons_of_mem _ (List.mem_cons_of_mem _ hmx))
  clear hN
  refine wpAny_call ?_
  k_dflt ((refine' code_defC ?k1 ?k2 ?k3 ?k4 ?k5 ?kA ?kF ?kK ?k6 ?k7 ?k8 ?k9 ?kB ?kD ?_ ?c2 ?c3 ?c4; (case kA => exact rfl); (case kF => exact rfl); (case kK => assumption); (case k1 => k_asm); (case k2 => k_asm); (case k3 => k_asm); (case k4 => k_asm); (case k5 => k_asm); (case k6 => k_is); (case k7 => k_is); (case k8 => ktr_room); (case k9 => exact BindsTo.of_eq rfl); (case kB => exact rfl); (case kD => decide +kernel); (case c2 => exact rfl); (case c3 => exact rfl); (case c4 => exact rfl); k_whole; intro g' L' h' tk' cells' FG' F' N' Y' B' X' T' l1; (try k_lt l1); k_cells Y'; (try simp only [List.cons_append, List.nil_append] at N'); (try dsimp only); (try k_lift B'); (try k_fold)))
  (with_reducible rename _ = Data.cell _ => dn)
  have dn2 : _ = Data.cell (some (Value.str (Str.ofString "aBc") tA)) := dn
  clear dn
  (with_reducible rename _ ∧ _ ∧ _ ∧ AllLt _ news => lA)
  have apA := apart_ledger (o1 := instObj 214 d) (o2 := hdD w tkk D) (o3 := listOf vs.toArray kD) lA
  have hokA : okS code88 (Txt.lower (Str.ofString "aBc")) = true := by decide +kernel
  (repeat' (first | (k_unfold; (try dsimp only)) | (first | ((with_reducible show wpAny _ _ (eval (Expr.ListComp _ _ _ _) _) _ _ _); (k_here; k_dflt (refine LCt.ListComp_T (F₀ := by k_asm) (by with_unfolding_all rfl) (by decide) (by rfl) (by decide) (by rfl) ?_))) | (k_here; (with_reducible show wpAny _ _ (call (Value.ref 115) [_, _] _) _ _ _); k_dflt (refine' conv_t _ _ _ _ _ _ _ hokA _ _ _ _ _ _ _ _ _ _ _ _ _ _ _ _ _ _ ?k1 ?k2 ?k3 ?k4 ?k5 ?kK ?kd ?ku ?_); (case k1 => k_asm); (case k2 => k_asm); (case k3 => k_asm); (case k4 => k_asm); (case k5 => k_asm); (case kK => exact rfl); (case kd => (dsimp only [Around.deeper]; omega)); (case ku => (dsimp only [Around.deeper]; omega)); intro tS hS tkS FS NS; dsimp only) | walk1) | (dsimp only; (first | ((with_reducible show wpAny _ _ (eval (Expr.ListComp _ _ _ _) _) _ _ _); (k_here; k_dflt (refine LCt.ListComp_T (F₀ := by k_asm) (by with_unfolding_all rfl) (by decide) (by rfl) (by decide) (by rfl) ?_))) | (k_here; (with_reducible show wpAny _ _ (call (Value.ref 115) [_, _] _) _ _ _); k_dflt (refine' conv_t _ _ _ _ _ _ _ hokA _ _ _ _ _ _ _ _ _ _ _ _ _ _ _ _ _ _ ?k1 ?k2 ?k3 ?k4 ?k5 ?kK ?kd ?ku ?_); (case k1 => k_asm); (case k2 => k_asm); (case k3 => k_asm); (case k4 => k_asm); (case k5 => k_asm); (case kK => exact rfl); (case kd => (dsimp only [Around.deeper]; omega)); (case ku => (dsimp only [Around.deeper]; omega)); intro tS hS tkS FS NS; dsimp only) | walk1)) | (leave1; (try dsimp only))))
  have hsz : (vs.toArray).size ≤ sizeLine := by
    rw [List.size_toArray]; exact Nat.le_trans hlen (Nat.le_of_ble_eq_true rfl)
  (with_reducible rename News _ _ _ ((_, _) :: (x, _) :: _) => N1)
  refine LCt.CompSrcT.ledger (ax := D) (its := vs.toArray) (k := kD) (by rfl) (by k_asm) N1 (List.mem_cons_of_mem _ (List.mem_cons_of_mem _ (List.mem_cons_of_mem _ (List.mem_cons_self ..)))) hsz ?_
  intro g'
  refine pairsT_rest (jsAll := js) news _ (fun p hp => List.mem_cons_of_mem _ (List.mem_cons_of_mem _ (List.mem_cons_of_mem _ (List.mem_cons_of_mem _ hp)))) ?turn ?fin vs js [] [] [] rfl hps rfl ?nil
  case nil => exact .nil
  case turn =>
    intro n pa pc t1 t2 ys hn hpm I oI C oC D' m₂ h tk E' R Z hNs h1 F N off ne hR
    have hl := low_abc n hn
    have N10 := newsPush N (List.mem_cons_of_mem _ (List.mem_cons_of_mem _ (List.mem_cons_of_mem _ hpm)))
    have h8 : n = 0 ∨ n = 1 ∨ n = 2 ∨ n = 3 ∨ n = 4 ∨ n = 5 ∨ n = 6 ∨ n = 7 := by omega
    clear hl hpm hps hlen hsz
    rcases h8 with rfl | rfl | rfl | rfl | rfl | rfl | rfl | rfl
    · rw [show wordS 0 = Str.ofString "abc" by decide +kernel] at N10
      (repeat' (first | (k_unfold; (try dsimp only)) | (first | ((with_reducible show wpAny _ _ (eval (Expr.ListComp _ _ _ _) _) _ _ _); (k_here; k_dflt (refine LCt.ListComp_T (F₀ := by k_asm) (by with_unfolding_all rfl) (by decide) (by rfl) (by decide) (by rfl) ?_))) | (k_here; (with_reducible show wpAny _ _ (call (Value.ref 115) [_, _] _) _ _ _); k_dflt (refine' conv_t _ _ _ _ _ _ _ hokA _ _ _ _ _ _ _ _ _ _ _ _ _ _ _ _ _ _ ?k1 ?k2 ?k3 ?k4 ?k5 ?kK ?kd ?ku ?_); (case k1 => k_asm); (case k2 => k_asm); (case k3 => k_asm); (case k4 => k_asm); (case k5 => k_asm); (case kK => exact rfl); (case kd => (dsimp only [Around.deeper]; omega)); (case ku => (dsimp only [Around.deeper]; omega)); intro tS hS tkS FS NS; dsimp only) | walk1) | (dsimp only; (first | ((with_reducible show wpAny _ _ (eval (Expr.ListComp _ _ _ _) _) _ _ _); (k_here; k_dflt (refine LCt.ListComp_T (F₀ := by k_asm) (by with_unfolding_all rfl) (by decide) (by rfl) (by decide) (by rfl) ?_))) | (k_here; (with_reducible show wpAny _ _ (call (Value.ref 115) [_, _] _) _ _ _); k_dflt (refine' conv_t _ _ _ _ _ _ _ hokA _ _ _ _ _ _ _ _ _ _ _ _ _ _ _ _ _ _ ?k1 ?k2 ?k3 ?k4 ?k5 ?kK ?kd ?ku ?_); (case k1 => k_asm); (case k2 => k_asm); (case k3 => k_asm); (case k4 => k_asm); (case k5 => k_asm); (case kK => exact rfl); (case kd => (dsimp only [Around.deeper]; omega)); (case ku => (dsimp only [Around.deeper]; omega)); intro tS hS tkS FS NS; dsimp only) | walk1)) | (leave1; (try dsimp only))))
      exact ⟨_, _, _, rfl, F, N, off, .inr ⟨_, List.mem_cons_of_mem _ (List.mem_cons_of_mem _ (List.mem_cons_of_mem _ (List.mem_cons_self ..))), rfl, _, rfl⟩, hR _⟩
    · rw [show wordS 1 = Str.ofString "Abc" by decide +kernel] at N10
      (repeat' (first | (k_unfold; (try dsimp only)) | (first | ((with_reducible show wpAny _ _ (eval (Expr.ListComp _ _ _ _) _) _ _ _); (k_here; k_dflt (refine LCt.ListComp_T (F₀ := by k_asm) (by with_unfolding_all rfl) (by decide) (by rfl) (by decide) (by rfl) ?_))) | (k_here; (with_reducible show wpAny _ _ (call (Value.ref 115) [_, _] _) _ _ _); k_dflt (refine' conv_t _ _ _ _ _ _ _ hokA _ _ _ _ _ _ _ _ _ _ _ _ _ _ _ _ _ _ ?k1 ?k2 ?k3 ?k4 ?k5 ?kK ?kd ?ku ?_); (case k1 => k_asm); (case k2 => k_asm); (case k3 => k_asm); (case k4 => k_asm); (case k5 => k_asm); (case kK => exact rfl); (case kd => (dsimp only [Around.deeper]; omega)); (case ku => (dsimp only [Around.deeper]; omega)); intro tS hS tkS FS NS; dsimp only) | walk1) | (dsimp only; (first | ((with_reducible show wpAny _ _ (eval (Expr.ListComp _ _ _ _) _) _ _ _); (k_here; k_dflt (refine LCt.ListComp_T (F₀ := by k_asm) (by with_unfolding_all rfl) (by decide) (by rfl) (by decide) (by rfl) ?_))) | (k_here; (with_reducible show wpAny _ _ (call (Value.ref 115) [_, _] _) _ _ _); k_dflt (refine' conv_t _ _ _ _ _ _ _ hokA _ _ _ _ _ _ _ _ _ _ _ _ _ _ _ _ _ _ ?k1 ?k2 ?k3 ?k4 ?k5 ?kK ?kd ?ku ?_); (case k1 => k_asm); (case k2 => k_asm); (case k3 => k_asm); (case k4 => k_asm); (case k5 => k_asm); (case kK => exact rfl); (case kd => (dsimp only [Around.deeper]; omega)); (case ku => (dsimp only [Around.deeper]; omega)); intro tS hS tkS FS NS; dsimp only) | walk1)) | (leave1; (try dsimp only))))
      exact ⟨_, _, _, rfl, F, N, off, .inr ⟨_, List.mem_cons_of_mem _ (List.mem_cons_of_mem _ (List.mem_cons_of_mem _ (List.mem_cons_self ..))), rfl, _, rfl⟩, hR _⟩
    · rw [show wordS 2 = Str.ofString "aBc" by decide +kernel] at N10
      (repeat' (first | (k_unfold; (try dsimp only)) | (first | ((with_reducible show wpAny _ _ (eval (Expr.ListComp _ _ _ _) _) _ _ _); (k_here; k_dflt (refine LCt.ListComp_T (F₀ := by k_asm) (by with_unfolding_all rfl) (by decide) (by rfl) (by decide) (by rfl) ?_))) | (k_here; (with_reducible show wpAny _ _ (call (Value.ref 115) [_, _] _) _ _ _); k_dflt (refine' conv_t _ _ _ _ _ _ _ hokA _ _ _ _ _ _ _ _ _ _ _ _ _ _ _ _ _ _ ?k1 ?k2 ?k3 ?k4 ?k5 ?kK ?kd ?ku ?_); (case k1 => k_asm); (case k2 => k_asm); (case k3 => k_asm); (case k4 => k_asm); (case k5 => k_asm); (case kK => exact rfl); (case kd => (dsimp only [Around.deeper]; omega)); (case ku => (dsimp only [Around.deeper]; omega)); intro tS hS tkS FS NS; dsimp only) | walk1) | (dsimp only; (first | ((with_reducible show wpAny _ _ (eval (Expr.ListComp _ _ _ _) _) _ _ _); (k_here; k_dflt (refine LCt.ListComp_T (F₀ := by k_asm) (by with_unfolding_all rfl) (by decide) (by rfl) (by decide) (by rfl) ?_))) | (k_here; (with_reducible show wpAny _ _ (call (Value.ref 115) [_, _] _) _ _ _); k_dflt (refine' conv_t _ _ _ _ _ _ _ hokA _ _ _ _ _ _ _ _ _ _ _ _ _ _ _ _ _ _ ?k1 ?k2 ?k3 ?k4 ?k5 ?kK ?kd ?ku ?_); (case k1 => k_asm); (case k2 => k_asm); (case k3 => k_asm); (case k4 => k_asm); (case k5 => k_asm); (case kK => exact rfl); (case kd => (dsimp only [Around.deeper]; omega)); (case ku => (dsimp only [Around.deeper]; omega)); intro tS hS tkS FS NS; dsimp only) | walk1)) | (leave1; (try dsimp only))))
      exact ⟨_, _, _, rfl, F, N, off, .inr ⟨_, List.mem_cons_of_mem _ (List.mem_cons_of_mem _ (List.mem_cons_of_mem _ (List.mem_cons_self ..))), rfl, _, rfl⟩, hR _⟩
    · rw [show wordS 3 = Str.ofString "ABc" by decide +kernel] at N10
      (repeat' (first | (k_unfold; (try dsimp only)) | (first | ((with_reducible show wpAny _ _ (eval (Expr.ListComp _ _ _ _) _) _ _ _); (k_here; k_dflt (refine LCt.ListComp_T (F₀ := by k_asm) (by with_unfolding_all rfl) (by decide) (by rfl) (by decide) (by rfl) ?_))) | (k_here; (with_reducible show wpAny _ _ (call (Value.ref 115) [_, _] _) _ _ _); k_dflt (refine' conv_t _ _ _ _ _ _ _ hokA _ _ _ _ _ _ _ _ _ _ _ _ _ _ _ _ _ _ ?k1 ?k2 ?k3 ?k4 ?k5 ?kK ?kd ?ku ?_); (case k1 => k_asm); (case k2 => k_asm); (case k3 => k_asm); (case k4 => k_asm); (case k5 => k_asm); (case kK => exact rfl); (case kd => (dsimp only [Around.deeper]; omega)); (case ku => (dsimp only [Around.deeper]; omega)); intro tS hS tkS FS NS; dsimp only) | walk1) | (dsimp only; (first | ((with_reducible show wpAny _ _ (eval (Expr.ListComp _ _ _ _) _) _ _ _); (k_here; k_dflt (refine LCt.ListComp_T (F₀ := by k_asm) (by with_unfolding_all rfl) (by decide) (by rfl) (by decide) (by rfl) ?_))) | (k_here; (with_reducible show wpAny _ _ (call (Value.ref 115) [_, _] _) _ _ _); k_dflt (refine' conv_t _ _ _ _ _ _ _ hokA _ _ _ _ _ _ _ _ _ _ _ _ _ _ _ _ _ _ ?k1 ?k2 ?k3 ?k4 ?k5 ?kK ?kd ?ku ?_); (case k1 => k_asm); (case k2 => k_asm); (case k3 => k_asm); (case k4 => k_asm); (case k5 => k_asm); (case kK => exact rfl); (case kd => (dsimp only [Around.deeper]; omega)); (case ku => (dsimp only [Around.deeper]; omega)); intro tS hS tkS FS NS; dsimp only) | walk1)) | (leave1; (try dsimp only))))
      exact ⟨_, _, _, rfl, F, N, off, .inr ⟨_, List.mem_cons_of_mem _ (List.mem_cons_of_mem _ (List.mem_cons_of_mem _ (List.mem_cons_self ..))), rfl, _, rfl⟩, hR _⟩
    · rw [show wordS 4 = Str.ofString "abC" by decide +kernel] at N10
      (repeat' (first | (k_unfold; (try dsimp only)) | (first | ((with_reducible show wpAny _ _ (eval (Expr.ListComp _ _ _ _) _) _ _ _); (k_here; k_dflt (refine LCt.ListComp_T (F₀ := by k_asm) (by with_unfolding_all rfl) (by decide) (by rfl) (by decide) (by rfl) ?_))) | (k_here; (with_reducible show wpAny _ _ (call (Value.ref 115) [_, _] _) _ _ _); k_dflt (refine' conv_t _ _ _ _ _ _ _ hokA _ _ _ _ _ _ _ _ _ _ _ _ _ _ _ _ _ _ ?k1 ?k2 ?k3 ?k4 ?k5 ?kK ?kd ?ku ?_); (case k1 => k_asm); (case k2 => k_asm); (case k3 => k_asm); (case k4 => k_asm); (case k5 => k_asm); (case kK => exact rfl); (case kd => (dsimp only [Around.deeper]; omega)); (case ku => (dsimp only [Around.deeper]; omega)); intro tS hS tkS FS NS; dsimp only) | walk1) | (dsimp only; (first | ((with_reducible show wpAny _ _ (eval (Expr.ListComp _ _ _ _) _) _ _ _); (k_here; k_dflt (refine LCt.ListComp_T (F₀ := by k_asm) (by with_unfolding_all rfl) (by decide) (by rfl) (by decide) (by rfl) ?_))) | (k_here; (with_reducible show wpAny _ _ (call (Value.ref 115) [_, _] _) _ _ _); k_dflt (refine' conv_t _ _ _ _ _ _ _ hokA _ _ _ _ _ _ _ _ _ _ _ _ _ _ _ _ _ _ ?k1 ?k2 ?k3 ?k4 ?k5 ?kK ?kd ?ku ?_); (case k1 => k_asm); (case k2 => k_asm); (case k3 => k_asm); (case k4 => k_asm); (case k5 => k_asm); (case kK => exact rfl); (case kd => (dsimp only [Around.deeper]; omega)); (case ku => (dsimp only [Around.deeper]; omega)); intro tS hS tkS FS NS; dsimp only) | walk1)) | (leave1; (try dsimp only))))
      exact ⟨_, _, _, rfl, F, N, off, .inr ⟨_, List.mem_cons_of_mem _ (List.mem_cons_of_mem _ (List.mem_cons_of_mem _ (List.mem_cons_self ..))), rfl, _, rfl⟩, hR _⟩
    · rw [show wordS 5 = Str.ofString "AbC" by decide +kernel] at N10
      (repeat' (first | (k_unfold; (try dsimp only)) | (first | ((with_reducible show wpAny _ _ (eval (Expr.ListComp _ _ _ _) _) _ _ _); (k_here; k_dflt (refine LCt.ListComp_T (F₀ := by k_asm) (by with_unfolding_all rfl) (by decide) (by rfl) (by decide) (by rfl) ?_))) | (k_here; (with_reducible show wpAny _ _ (call (Value.ref 115) [_, _] _) _ _ _); k_dflt (refine' conv_t _ _ _ _ _ _ _ hokA _ _ _ _ _ _ _ _ _ _ _ _ _ _ _ _ _ _ ?k1 ?k2 ?k3 ?k4 ?k5 ?kK ?kd ?ku ?_); (case k1 => k_asm); (case k2 => k_asm); (case k3 => k_asm); (case k4 => k_asm); (case k5 => k_asm); (case kK => exact rfl); (case kd => (dsimp only [Around.deeper]; omega)); (case ku => (dsimp only [Around.deeper]; omega)); intro tS hS tkS FS NS; dsimp only) | walk1) | (dsimp only; (first | ((with_reducible show wpAny _ _ (eval (Expr.ListComp _ _ _ _) _) _ _ _); (k_here; k_dflt (refine LCt.ListComp_T (F₀ := by k_asm) (by with_unfolding_all rfl) (by decide) (by rfl) (by decide) (by rfl) ?_))) | (k_here; (with_reducible show wpAny _ _ (call (Value.ref 115) [_, _] _) _ _ _); k_dflt (refine' conv_t _ _ _ _ _ _ _ hokA _ _ _ _ _ _ _ _ _ _ _ _ _ _ _ _ _ _ ?k1 ?k2 ?k3 ?k4 ?k5 ?kK ?kd ?ku ?_); (case k1 => k_asm); (case k2 => k_asm); (case k3 => k_asm); (case k4 => k_asm); (case k5 => k_asm); (case kK => exact rfl); (case kd => (dsimp only [Around.deeper]; omega)); (case ku => (dsimp only [Around.deeper]; omega)); intro tS hS tkS FS NS; dsimp only) | walk1)) | (leave1; (try dsimp only))))
      exact ⟨_, _, _, rfl, F, N, off, .inr ⟨_, List.mem_cons_of_mem _ (List.mem_cons_of_mem _ (List.mem_cons_of_mem _ (List.mem_cons_self ..))), rfl, _, rfl⟩, hR _⟩
    · rw [show wordS 6 = Str.ofString "aBC" by decide +kernel] at N10
      (repeat' (first | (k_unfold; (try dsimp only)) | (first | ((with_reducible show wpAny _ _ (eval (Expr.ListComp _ _ _ _) _) _ _ _); (k_here; k_dflt (refine LCt.ListComp_T (F₀ := by k_asm) (by with_unfolding_all rfl) (by decide) (by rfl) (by decide) (by rfl) ?_))) | (k_here; (with_reducible show wpAny _ _ (call (Value.ref 115) [_, _] _) _ _ _); k_dflt (refine' conv_t _ _ _ _ _ _ _ hokA _ _ _ _ _ _ _ _ _ _ _ _ _ _ _ _ _ _ ?k1 ?k2 ?k3 ?k4 ?k5 ?kK ?kd ?ku ?_); (case k1 => k_asm); (case k2 => k_asm); (case k3 => k_asm); (case k4 => k_asm); (case k5 => k_asm); (case kK => exact rfl); (case kd => (dsimp only [Around.deeper]; omega)); (case ku => (dsimp only [Around.deeper]; omega)); intro tS hS tkS FS NS; dsimp only) | walk1) | (dsimp only; (first | ((with_reducible show wpAny _ _ (eval (Expr.ListComp _ _ _ _) _) _ _ _); (k_here; k_dflt (refine LCt.ListComp_T (F₀ := by k_asm) (by with_unfolding_all rfl) (by decide) (by rfl) (by decide) (by rfl) ?_))) | (k_here; (with_reducible show wpAny _ _ (call (Value.ref 115) [_, _] _) _ _ _); k_dflt (refine' conv_t _ _ _ _ _ _ _ hokA _ _ _ _ _ _ _ _ _ _ _ _ _ _ _ _ _ _ ?k1 ?k2 ?k3 ?k4 ?k5 ?kK ?kd ?ku ?_); (case k1 => k_asm); (case k2 => k_asm); (case k3 => k_asm); (case k4 => k_asm); (case k5 => k_asm); (case kK => exact rfl); (case kd => (dsimp only [Around.deeper]; omega)); (case ku => (dsimp only [Around.deeper]; omega)); intro tS hS tkS FS NS; dsimp only) | walk1)) | (leave1; (try dsimp only))))
      exact ⟨_, _, _, rfl, F, N, off, .inr ⟨_, List.mem_cons_of_mem _ (List.mem_cons_of_mem _ (List.mem_cons_of_mem _ (List.mem_cons_self ..))), rfl, _, rfl⟩, hR _⟩
    · rw [show wordS 7 = Str.ofString "ABC" by decide +kernel] at N10
      (repeat' (first | (k_unfold; (try dsimp only)) | (first | ((with_reducible show wpAny _ _ (eval (Expr.ListComp _ _ _ _) _) _ _ _); (k_here; k_dflt (refine LCt.ListComp_T (F₀ := by k_asm) (by with_unfolding_all rfl) (by decide) (by rfl) (by decide) (by rfl) ?_))) | (k_here; (with_reducible show wpAny _ _ (call (Value.ref 115) [_, _] _) _ _ _); k_dflt (refine' conv_t _ _ _ _ _ _ _ hokA _ _ _ _ _ _ _ _ _ _ _ _ _ _ _ _ _ _ ?k1 ?k2 ?k3 ?k4 ?k5 ?kK ?kd ?ku ?_); (case k1 => k_asm); (case k2 => k_asm); (case k3 => k_asm); (case k4 => k_asm); (case k5 => k_asm); (case kK => exact rfl); (case kd => (dsimp only [Around.deeper]; omega)); (case ku => (dsimp only [Around.deeper]; omega)); intro tS hS tkS FS NS; dsimp only) | walk1) | (dsimp only; (first | ((with_reducible show wpAny _ _ (eval (Expr.ListComp _ _ _ _) _) _ _ _); (k_here; k_dflt (refine LCt.ListComp_T (F₀ := by k_asm) (by with_unfolding_all rfl) (by decide) (by rfl) (by decide) (by rfl) ?_))) | (k_here; (with_reducible show wpAny _ _ (call (Value.ref 115) [_, _] _) _ _ _); k_dflt (refine' conv_t _ _ _ _ _ _ _ hokA _ _ _ _ _ _ _ _ _ _ _ _ _ _ _ _ _ _ ?k1 ?k2 ?k3 ?k4 ?k5 ?kK ?kd ?ku ?_); (case k1 => k_asm); (case k2 => k_asm); (case k3 => k_asm); (case k4 => k_asm); (case k5 => k_asm); (case kK => exact rfl); (case kd => (dsimp only [Around.deeper]; omega)); (case ku => (dsimp only [Around.deeper]; omega)); intro tS hS tkS FS NS; dsimp only) | walk1)) | (leave1; (try dsimp only))))
      exact ⟨_, _, _, rfl, F, N, off, .inr ⟨_, List.mem_cons_of_mem _ (List.mem_cons_of_mem _ (List.mem_cons_of_mem _ (List.mem_cons_self ..))), rfl, _, rfl⟩, hR _⟩
  case fin =>
    intro ys hy D' h tk F N off
    dsimp only
    (repeat' (first | (k_unfold; (try dsimp only)) | (first | ((with_reducible show wpAny _ _ (eval (Expr.ListComp _ _ _ _) _) _ _ _); (k_here; k_dflt (refine LCt.ListComp_T (F₀ := by k_asm) (by with_unfolding_all rfl) (by decide) (by rfl) (by decide) (by rfl) ?_))) | (k_here; (with_reducible show wpAny _ _ (call (Value.ref 115) [_, _] _) _ _ _); k_dflt (refine' conv_t _ _ _ _ _ _ _ hokA _ _ _ _ _ _ _ _ _ _ _ _ _ _ _ _ _ _ ?k1 ?k2 ?k3 ?k4 ?k5 ?kK ?kd ?ku ?_); (case k1 => k_asm); (case k2 => k_asm); (case k3 => k_asm); (case k4 => k_asm); (case k5 => k_asm); (case kK => exact rfl); (case kd => (dsimp only [Around.deeper]; omega)); (case ku => (dsimp only [Around.deeper]; omega)); intro tS hS tkS FS NS; dsimp only) | walk1) | (dsimp only; (first | ((with_reducible show wpAny _ _ (eval (Expr.ListComp _ _ _ _) _) _ _ _); (k_here; k_dflt (refine LCt.ListComp_T (F₀ := by k_asm) (by with_unfolding_all rfl) (by decide) (by rfl) (by decide) (by rfl) ?_))) | (k_here; (with_reducible show wpAny _ _ (call (Value.ref 115) [_, _] _) _ _ _); k_dflt (refine' conv_t _ _ _ _ _ _ _ hokA _ _ _ _ _ _ _ _ _ _ _ _ _ _ _ _ _ _ ?k1 ?k2 ?k3 ?k4 ?k5 ?kK ?kd ?ku ?_); (case k1 => k_asm); (case k2 => k_asm); (case k3 => k_asm); (case k4 => k_asm); (case k5 => k_asm); (case kK => exact rfl); (case kd => (dsimp only [Around.deeper]; omega)); (case ku => (dsimp only [Around.deeper]; omega)); intro tS hS tkS FS NS; dsimp only) | walk1)) | (leave1; (try dsimp only))))
    (rename News h₀ L _ _ => kN2)
    refine hret _ ys _ _ (by k_asm) (fun p hp => kN2 p ?_) hy
    rcases List.mem_cons.mp hp with rfl | hp
    · exact List.mem_cons_self ..
    · exact List.mem_cons_of_mem _ (List.mem_cons_of_mem _ (List.mem_cons_of_mem _ (List.mem_cons_of_mem _ (List.mem_cons_of_mem _ hp))))
end Mine
end
section -- NEST
open PySem PySem.W PyProof.Rows PySem.Spec PySem.Calls
namespace Mine
theorem offNEST : True := by
  w_top off
  exact trivial
open PyProof.Rows.LCg
noncomputable abbrev twoG (elt t0 it0 t1 it1 : PySem.Expr) (scope : Scope) (pos : Pos) : PySem.Expr := .ListComp elt [⟨t0, it0, [], 0⟩, ⟨t1, it1, [], 0⟩] scope pos
theorem compTurn_two0 (elt t0 it0 t1 it1 : PySem.Expr) (scope : Scope) (pos : Pos) (it acc : Value) (env : Env) :
    compTurn (twoG elt t0 it0 t1 it1 scope pos) 0 it acc env = (standAt it0.pos >>= fun _ => pyNext it >>= fun r => match r with
      | none => pure (.done .next)
      | some v => letOwnedTupleGo t0 it v >>= fun _ => assign t0 env v >>= fun _ => eval it1 env >>= fun x => standAt it1.pos >>= fun _ => foldedSetIterable it1 env x >>= fun x =>
          holding [x] (pyIter x) >>= fun it2 => runOwn (.compStart (twoG elt t0 it0 t1 it1 scope pos) 1 it2 acc env) env >>= fun _ =>
          again (.compLoop (twoG elt t0 it0 t1 it1 scope pos) 0 it acc env)) := by rfl
theorem compTurn_two1 (elt t0 it0 t1 it1 : PySem.Expr) (scope : Scope) (pos : Pos) (it acc : Value) (env : Env) :
    compTurn (twoG elt t0 it0 t1 it1 scope pos) 1 it acc env = (standAt it1.pos >>= fun _ => pyNext it >>= fun r => match r with
      | none => pure (.done .next)
      | some v => letOwnedTupleGo t1 it v >>= fun _ => assign t1 env v >>= fun _ =>
        (eval elt env >>= fun x => call (.builtin "list.append") [acc, x] >>= fun _ => pure ()) >>= fun _ =>
          again (.compLoop (twoG elt t0 it0 t1 it1 scope pos) 1 it acc env)) := by rfl
section
variable {prog : Program} {w : World} {A : Around} {E : Value → Shared → Prop} {s : Shared}
theorem loop_two0 {elt t0 it0 t1 it1 : PySem.Expr} {scope : Scope} {pos : Pos} {it acc : Value} {env : Env} {R : Result → Shared → Prop} (I : Nat → Shared → Prop)
    (turn : ∀ n s, I n s → ∀ E' : Value → Shared → Prop, wpAny (model prog w) A (pyNext it) (fun r s₁ => match r with
      | none => R (.ok .next) s₁
      | some v => wpAny (model prog w) A (letOwnedTupleGo t0 it v) (fun _ s₀ => wpAny (model prog w) A (assign t0 env v) (fun _ s₂ =>
          wpAny (model prog w) A (eval it1 env) (fun x s₃ => (∀ x, foldedSetIterable it1 env x = pure x) ∧ wpAny (model prog w) A (pyIter x) (fun it2 s₄ =>
            codeAny (model prog w) A (.compStart (twoG elt t0 it0 t1 it1 scope pos) 1 it2 acc env) (fun r s₅ => ∃ f, r = .ok f ∧ ∃ m, m < n ∧ I m s₅) s₄) E' s₃) E' s₂) E' s₀) E' s₁) E' s)
    (n : Nat) (h : I n s) : codeAny (model prog w) A (.compLoop (twoG elt t0 it0 t1 it1 scope pos) 0 it acc env) R s := by
  refine codeAny_loop rfl I (fun n s hI => ?_) n h
  show wpAny _ A ((compTurn (twoG elt t0 it0 t1 it1 scope pos) 0 it acc env).onRaise (fun x => do noteFrame x env; theTreesLotGoes x)) _ _ s
  refine wpAny_noted ?_
  rw [compTurn_two0]
  refine wpAny_bind (wpAny_standAt (wpAny_bind (wpAny_mono (turn n s hI _) (fun r s₁ h₁ => ?_) fun _ _ h' => h')))
  cases r with
  | none => exact wpAny_pure h₁
  | some v =>
    refine wpAny_bind (wpAny_mono h₁ (fun _ s₀ h₀' => ?_) fun _ _ h' => h')
    refine wpAny_bind (wpAny_mono h₀' (fun _ s₂ h₂ => ?_) fun _ _ h' => h')
    refine wpAny_bind (wpAny_mono h₂ (fun x s₃ h₃ => ?_) fun _ _ h' => h')
    obtain ⟨hf, h₃⟩ := h₃
    refine wpAny_bind (wpAny_standAt (wpAny_bind (wpAny_of_eq (hf x) (wpAny_bind (wpAny_holding (wpAny_mono h₃ (fun it2 s₄ h₄ => wpAny_bind ?_) fun _ _ h' => h'))))))
    refine wpAny_runOwn (codeAny_mono h₄ fun r s₅ h₅ => ?_)
    obtain ⟨f, rfl, h₅⟩ := h₅
    exact wpAny_pure ⟨rfl, h₅⟩
theorem loop_two1 {elt t0 it0 t1 it1 : PySem.Expr} {scope : Scope} {pos : Pos} {it acc : Value} {env : Env} {R : Result → Shared → Prop} (I : Nat → Shared → Prop)
    (turn : ∀ n s, I n s → ∀ E' : Value → Shared → Prop, wpAny (model prog w) A (pyNext it) (fun r s₁ => match r with
      | none => R (.ok .next) s₁
      | some v => wpAny (model prog w) A (letOwnedTupleGo t1 it v) (fun _ s₀ => wpAny (model prog w) A (assign t1 env v) (fun _ s₂ =>
          wpAny (model prog w) A (eval elt env) (fun x s₄ =>
            wpAny (model prog w) A (call (.builtin "list.append") [acc, x]) (fun _ s₅ => ∃ m, m < n ∧ I m s₅) E' s₄) E' s₂) E' s₀) E' s₁) E' s)
    (n : Nat) (h : I n s) : codeAny (model prog w) A (.compLoop (twoG elt t0 it0 t1 it1 scope pos) 1 it acc env) R s := by
  refine codeAny_loop rfl I (fun n s hI => ?_) n h
  show wpAny _ A ((compTurn (twoG elt t0 it0 t1 it1 scope pos) 1 it acc env).onRaise (fun x => do noteFrame x env; theTreesLotGoes x)) _ _ s
  refine wpAny_noted ?_
  rw [compTurn_two1]
  refine wpAny_bind (wpAny_standAt (wpAny_bind (wpAny_mono (turn n s hI _) (fun r s₁ h₁ => ?_) fun _ _ h' => h')))
  cases r with
  | none => exact wpAny_pure h₁
  | some v =>
    refine wpAny_bind (wpAny_mono h₁ (fun _ s₀ h₀' => ?_) fun _ _ h' => h')
    refine wpAny_bind (wpAny_mono h₀' (fun _ s₂ h₂ => ?_) fun _ _ h' => h')
    exact wpAny_bind (wpAny_bind (wpAny_mono h₂ (fun x s₄ h₄ => wpAny_bind (wpAny_mono h₄ (fun _ s₅ h₅ => wpAny_pure (wpAny_pure ⟨rfl, h₅⟩)) fun _ _ h' => h')) fun _ _ h' => h'))
theorem start_two1 {elt t0 it0 t1 it1 : PySem.Expr} {scope : Scope} {pos : Pos} {it acc : Value} {env : Env} {R : Result → Shared → Prop}
    (h0 : codeAny (model prog w) A (.compLoop (twoG elt t0 it0 t1 it1 scope pos) 1 it acc env) R s)
    (h : ∀ E' : Value → Shared → Prop, wpAny (model prog w) A (pyIter it) (fun it' s' => codeAny (model prog w) A (.compLoop (twoG elt t0 it0 t1 it1 scope pos) 1 it' acc env) R s') E' s) :
    codeAny (model prog w) A (.compStart (twoG elt t0 it0 t1 it1 scope pos) 1 it acc env) R s := by
  refine codeAny_of_tree ?_
  show wpAny _ _ ((compStart (twoG elt t0 it0 t1 it1 scope pos) 1 it acc env).onRaise (fun x => do noteFrame x env; standAt theWindowsPlace)) _ _ s
  refine wpAny_notedAt ?_
  unfold compStart
  show wpAny _ _ (ask >>= _) _ _ s
  refine wpAny_bind (wpAny_askSetting (wpAny_ite ?_))
  split
  · first
      | exact wpAny_bind (wpAny_pure (wpAny_pure (And.intro rfl h0)))
      | exact wpAny_pure (And.intro rfl h0)
  · first
      | exact wpAny_bind (wpAny_rule (wpAny_bind (wpAny_standAt (wpAny_bind (wpAny_mono (h _) (fun it' s' h' => wpAny_pure (And.intro rfl h')) fun _ _ x => x)))))
      | (refine wpAny_bind (wpAny_rule ?_); show wpAny _ _ (standAt it1.pos >>= _) _ _ s; exact wpAny_bind (wpAny_standAt (wpAny_bind (wpAny_mono (h _) (fun it' s' h' => wpAny_pure (And.intro rfl h')) fun _ _ x => x))))
theorem start_two0 {elt t0 it0 t1 it1 : PySem.Expr} {scope : Scope} {pos : Pos} {it acc : Value} {env : Env} {R : Result → Shared → Prop}
    (h0 : codeAny (model prog w) A (.compLoop (twoG elt t0 it0 t1 it1 scope pos) 0 it acc env) R s)
    (h : ∀ E' : Value → Shared → Prop, wpAny (model prog w) A (pyIter it) (fun it' s' => codeAny (model prog w) A (.compLoop (twoG elt t0 it0 t1 it1 scope pos) 0 it' acc env) R s') E' s) :
    codeAny (model prog w) A (.compStart (twoG elt t0 it0 t1 it1 scope pos) 0 it acc env) R s := codeAny_compStart_list h0 (h _)
end
section
variable {prog : Program} {w : World} {A : Around} {E : Value → Shared → Prop} {s s₂ : Shared} {h₀ : Heap} {L : Addr} {m : Str → Option Value}
theorem inner_two {elt t0 it0 it1 : PySem.Expr} {c : Str} {pc : Pos} {scope : Scope} {pos : Pos} {cenv : Env} {D l : Addr} {its : Array Value} {kl : Nat} {all : List (Addr × Obj)} {m₁ : Str → Option Value} {J2 : Nat → List Value → Prop} {ys : List Value}
    (hh : A.handled = none) (hkc : cenv.kindOf c = some .local) (hp : (cenv.scope.kind == .class || (cenv.scope.kind == .module && cenv.locals != cenv.globals)) = false)
    (hsz : its.size ≤ sizeLine) (hJl : ∀ j zs, j < its.size → J2 j zs → zs.length ≤ sizeLine)
    (F : Fr h₀ L s.heap m) (hn : s.heap.Ns cenv.locals m₁) (N : News h₀ L s.heap ((l, listOf its kl) :: (D, lst ys) :: all))
    (hCL : cenv.locals ≠ L) (hC₀ : h₀.get? cenv.locals = none) (hCl : cenv.locals ≠ l) (hCD : cenv.locals ≠ D) (hlD : l ≠ D) (offC : ∀ p ∈ all, p.1 ≠ cenv.locals) (offD : ∀ p ∈ all, p.1 ≠ D)
    (es : s = { s₂ with heap := s.heap, toks := s.toks }) (hJ : J2 0 ys)
    (turn : ∀ j v zs I oI oC m₃ h tk (E' : Value → Shared → Prop), its[j]? = some v → J2 j zs → NsObj oC m₃ → m₃ c = some v → (∀ z, z ≠ c → m₃ z = m₁ z) → Fr h₀ L h m → News h₀ L h ((I, oI) :: (l, listOf its kl) :: (cenv.locals, oC) :: (D, lst zs) :: all) →
      wpAny (model prog w) A (eval elt cenv) (PEnd h₀ L m s₂ ((I, oI) :: (l, listOf its kl) :: (cenv.locals, oC) :: (D, lst zs) :: all) fun z => J2 (j + 1) (zs ++ [z])) E' { s₂ with heap := h, toks := tk }) :
    wpAny (model prog w) A (pyIter (.ref l)) (fun it2 s₄ => codeAny (model prog w) A (.compStart (twoG elt t0 it0 (.Name c pc) it1 scope pos) 1 it2 (.ref D) cenv)
      (fun r s₅ => ∃ f, r = .ok f ∧ ∃ h' tk' zs m', s₅ = { s₂ with heap := h', toks := tk' } ∧ Fr h₀ L h' m ∧ h'.Ns cenv.locals m' ∧ News h₀ L h' ((D, lst zs) :: all) ∧ J2 its.size zs) s₄) E s := by
  revert hh hkc hp hsz hJl F hn N hCL hC₀ hCl hCD hlD offC offD es hJ turn
  revert prog w A E s s₂ h₀ L m elt t0 it0 it1 c pc scope pos cenv D l its kl all m₁ J2 ys
  refine @eps8 _ _ _ _ _ _ _ _ inferInstance neW neA inferInstance neS neS inferInstance inferInstance _ ?_; generalize E8_1 _ _ _ _ _ _ _ _ _ = prog; generalize E8_2 _ _ _ _ _ _ _ _ _ = w; generalize E8_3 _ _ _ _ _ _ _ _ _ = A; generalize E8_4 _ _ _ _ _ _ _ _ _ = E; generalize E8_5 _ _ _ _ _ _ _ _ _ = s; generalize E8_6 _ _ _ _ _ _ _ _ _ = s₂; generalize E8_7 _ _ _ _ _ _ _ _ _ = h₀; generalize E8_8 _ _ _ _ _ _ _ _ _ = L
  refine @eps8 _ _ _ _ _ _ _ _ inferInstance inferInstance inferInstance inferInstance inferInstance inferInstance inferInstance neC _ ?_; generalize E8_1 _ _ _ _ _ _ _ _ _ = m; generalize E8_2 _ _ _ _ _ _ _ _ _ = elt; generalize E8_3 _ _ _ _ _ _ _ _ _ = t0; generalize E8_4 _ _ _ _ _ _ _ _ _ = it0; generalize E8_5 _ _ _ _ _ _ _ _ _ = it1; generalize E8_6 _ _ _ _ _ _ _ _ _ = c; generalize E8_7 _ _ _ _ _ _ _ _ _ = pc; generalize E8_8 _ _ _ _ _ _ _ _ _ = scope
  refine @eps8 _ _ _ _ _ _ _ _ inferInstance inferInstance inferInstance inferInstance inferInstance inferInstance inferInstance inferInstance _ ?_; generalize E8_1 _ _ _ _ _ _ _ _ _ = pos; generalize E8_2 _ _ _ _ _ _ _ _ _ = cenv; generalize E8_3 _ _ _ _ _ _ _ _ _ = D; generalize E8_4 _ _ _ _ _ _ _ _ _ = l; generalize E8_5 _ _ _ _ _ _ _ _ _ = its; generalize E8_6 _ _ _ _ _ _ _ _ _ = kl; generalize E8_7 _ _ _ _ _ _ _ _ _ = all; generalize E8_8 _ _ _ _ _ _ _ _ _ = m₁
  refine @eps2 _ _ inferInstance inferInstance _ ?_; generalize E2_1 _ _ _ = J2; generalize E2_2 _ _ _ = ys
  intro hh hkc hp hsz hJl F hn N hCL hC₀ hCl hCD hlD offC offD es hJ turn
  have hl : s.heap.IsList l its := ⟨_, (N _ (List.mem_cons_self ..)).1, rfl, kl, rfl⟩
  refine wpAny_pyIter_list hl ?_
  generalize hI : s.heap.objs.size = I
  have hLlt : L < I := hI ▸ F.ns.lt
  have hCI : cenv.locals ≠ I := hI ▸ Nat.ne_of_lt hn.lt
  have lt : ∀ p ∈ ((l, listOf its kl) :: (D, lst ys) :: all), p.1 < I := fun p hp => hI ▸ Heap.lt_size (N p hp).1
  have hlI : l ≠ I := Nat.ne_of_lt (lt _ (List.mem_cons_self ..))
  have hDI : D ≠ I := Nat.ne_of_lt (lt _ (List.mem_cons_of_mem _ (List.mem_cons_self ..)))
  have offI : ∀ p ∈ all, p.1 ≠ I := fun p hp => Nat.ne_of_lt (lt _ (List.mem_cons_of_mem _ (List.mem_cons_of_mem _ hp)))
  have hI₀ : h₀.get? I = none := hI ▸ next_is_new F
  have up : ∀ b o, s.heap.get? b = some o → (s.heap.push { cls := .type "list_iterator", data := .fields #[.ref l, .int 0 0] }).get? b = some o := fun b o e => Heap.get?_push_of_some _ e
  have hit : (s.heap.push { cls := .type "list_iterator", data := .fields #[.ref l, .int 0 0] }).IsListIter I l 0 := ⟨_, hI ▸ Heap.get?_push_size _ rfl, rfl, rfl⟩
  have W := Walks.list (prog := prog) (w := w) hh I l hlI its
  have loop : ∀ s₃ : Shared, s₃ = { s with heap := s.heap.push { cls := .type "list_iterator", data := .fields #[.ref l, .int 0 0] } } →
      codeAny (model prog w) A (.compLoop (twoG elt t0 it0 (.Name c pc) it1 scope pos) 1 (.ref I) (.ref D) cenv)
        (fun r s₅ => ∃ f, r = .ok f ∧ ∃ h' tk' zs m', s₅ = { s₂ with heap := h', toks := tk' } ∧ Fr h₀ L h' m ∧ h'.Ns cenv.locals m' ∧ News h₀ L h' ((D, lst zs) :: all) ∧ J2 its.size zs) s₃ := by
    rintro s₃ rfl
    refine loop_two1
      (fun k s' => ∃ h' tk j zs m', s' = { s₂ with heap := h', toks := tk } ∧ j ≤ its.size ∧ k = its.size + 1 - j ∧ (h'.IsListIter I l j ∧ h'.IsList l its) ∧ Fr h₀ L h' m ∧ h'.Ns cenv.locals m' ∧ (∀ z, z ≠ c → m' z = m₁ z) ∧ News h₀ L h' ((l, listOf its kl) :: (D, lst zs) :: all) ∧ J2 j zs) ?_ (its.size + 1)
      ⟨_, s.toks, 0, ys, _, by rw [es], Nat.zero_le _, rfl, ⟨hit, hl.push _⟩, F.keeps up, hn.at' fun o e => up _ o e, fun _ _ => rfl, N.grown up, hJ⟩
    rintro k s' ⟨h', tk, j, zs, m', rfl, hj, rfl, hst', F', hn', hm', N', hJ'⟩ E'
    by_cases hlt : j < its.size
    · refine W.item j _ _ _ hlt hst' fun v h₂ tk₂ hv hst₂ hk₂ => ?_
      have up₂ : ∀ b o, b ≠ I → h'.get? b = some o → h₂.get? b = some o := fun b o hb e => hk₂ b o (by simpa using hb) e
      have hn₂ : h₂.Ns cenv.locals m' := hn'.at' fun o e => up₂ _ o hCI e
      refine wpAny_of_eq (show letOwnedTupleGo (.Name c pc) (.ref I) v = pure () by rfl) ?_
      refine wpAny_assign_Name (wpAny_storeName_local hkc hn₂ (fun h₃ hn₃ hs₃ => ?_) hp)
      have up₃ : ∀ b o, b ≠ I → b ≠ cenv.locals → h'.get? b = some o → h₃.get? b = some o := fun b o h1 h2 e => hs₃.extBut b o h2 (up₂ b o h1 e)
      have hst₃ : h₃.IsListIter I l (j + 1) ∧ h₃.IsList l its := W.frame _ _ _ hst₂ fun b hb o e => by
        refine hs₃.extBut b o (fun q => ?_) e
        have q' : b = cenv.locals := q
        rcases List.mem_cons.mp hb with rfl | hb
        · exact hCI q'.symm
        · rw [List.mem_singleton.mp hb] at q'; exact hCl q'.symm
      obtain ⟨oI, heI, hoI⟩ := hst₃.1
      obtain ⟨oC, heC, hoC⟩ := ns_obj hn₃
      have F₃ : Fr h₀ L h₃ m := ⟨F'.ns.at' fun o e => up₃ _ o (Nat.ne_of_lt hLlt) (Ne.symm hCL) e, fun b o e => up₃ b o (fun q => by rw [q, hI₀] at e; cases e) (fun q => by rw [q, hC₀] at e; cases e) (F'.keep b o e), F'.above⟩
      have N₃ : News h₀ L h₃ ((I, oI) :: (l, listOf its kl) :: (cenv.locals, oC) :: (D, lst zs) :: all) := fun q hq => by
        rcases List.mem_cons.mp hq with rfl | hq
        · exact ⟨heI, Ne.symm (Nat.ne_of_lt hLlt), hI₀⟩
        · rcases List.mem_cons.mp hq with rfl | hq
          · have z := N' _ (List.mem_cons_self ..)
            exact ⟨up₃ _ _ hlI (Ne.symm hCl) z.1, z.2⟩
          · rcases List.mem_cons.mp hq with rfl | hq
            · exact ⟨heC, hCL, hC₀⟩
            · rcases List.mem_cons.mp hq with rfl | hq
              · have z := N' _ (List.mem_cons_of_mem _ (List.mem_cons_self ..))
                exact ⟨up₃ _ _ hDI (Ne.symm hCD) z.1, z.2⟩
              · have z := N' q (List.mem_cons_of_mem _ (List.mem_cons_of_mem _ hq))
                exact ⟨up₃ _ _ (offI q hq) (offC q hq) z.1, z.2⟩
      refine wpAny_mono (turn j v zs I oI oC _ h₃ _ _ hv hJ' hoC (by simp) (fun z hz => by simp [hz, hm' z hz]) F₃ N₃) (fun x s₅ h₅ => ?_) fun _ _ e => e
      obtain ⟨h₅, tk₅, rfl, F₅, N₅, hJ₅⟩ := h₅
      have zI := (N₅ (I, oI) List.mem_cons_self).1
      have zl := (N₅ (l, listOf its kl) (List.mem_cons_of_mem _ List.mem_cons_self)).1
      have zC := (N₅ (cenv.locals, oC) (List.mem_cons_of_mem _ (List.mem_cons_of_mem _ List.mem_cons_self))).1
      have zD := N₅ (D, lst zs) (List.mem_cons_of_mem _ (List.mem_cons_of_mem _ (List.mem_cons_of_mem _ List.mem_cons_self)))
      refine append_at (hsz := by show zs.toArray.size ≤ sizeLine; rw [List.size_toArray]; exact hJl j zs hlt hJ') zD.1 fun h₆ hs₆ hD₆ => ?_
      refine ⟨its.size + 1 - (j + 1), by omega, h₆, tk₅, j + 1, zs ++ [x], _, rfl, hlt, rfl, ⟨⟨oI, hs₆.extBut _ _ (Ne.symm hDI) zI, hoI⟩, ⟨_, hs₆.extBut _ _ hlD zl, rfl, kl, rfl⟩⟩, F₅.change hs₆ zD.2.1 zD.2.2,
        (hoC.ns zC).sameBut hs₆ hCD, (fun z hz => by simp [hz, hm' z hz]), fun q hq => ?_, hJ₅⟩
      rcases List.mem_cons.mp hq with rfl | hq
      · have z := N₅ (l, listOf its kl) (List.mem_cons_of_mem _ List.mem_cons_self)
        exact ⟨hs₆.extBut _ _ hlD z.1, z.2⟩
      · rcases List.mem_cons.mp hq with rfl | hq
        · exact ⟨hD₆.trans (congrArg some (lst_snoc zs x)), zD.2⟩
        · have z := N₅ q (List.mem_cons_of_mem _ (List.mem_cons_of_mem _ (List.mem_cons_of_mem _ (List.mem_cons_of_mem _ hq))))
          exact ⟨hs₆.extBut _ _ (offD q hq) z.1, z.2⟩
    · have hin : j = its.size := Nat.le_antisymm hj (Nat.not_lt.mp hlt)
      subst hin
      refine W.done _ _ _ hst' fun h₂ tk₂ hk₂ => ?_
      have up₂ : ∀ b o, b ≠ I → h'.get? b = some o → h₂.get? b = some o := fun b o hb e => hk₂ b o (by simpa using hb) e
      refine ⟨_, rfl, h₂, tk₂, zs, m', rfl, ⟨F'.ns.at' fun o e => up₂ _ o (Nat.ne_of_lt hLlt) e, fun b o e => up₂ b o (fun q => by rw [q, hI₀] at e; cases e) (F'.keep b o e), F'.above⟩, hn'.at' fun o e => up₂ _ o hCI e, fun q hq => ?_, hJ'⟩
      rcases List.mem_cons.mp hq with rfl | hq
      · have z := N' _ (List.mem_cons_of_mem _ (List.mem_cons_self ..))
        exact ⟨up₂ _ _ hDI z.1, z.2⟩
      · have z := N' q (List.mem_cons_of_mem _ (List.mem_cons_of_mem _ hq))
        exact ⟨up₂ _ _ (offI q hq) z.1, z.2⟩
  exact start_two1 (loop _ rfl) fun E' => W.self 0 _ _ _ ⟨hit, hl.push _⟩ (loop _ rfl)
end
section
variable {prog : Program} {w : World} {A : Around} {E : Value → Shared → Prop} {s : Shared} {h₀ : Heap} {L : Addr} {m : Str → Option Value} {env : Env}
noncomputable def TurnTwo (prog : Program) (w : World) (A : Around) (h₀ : Heap) (L : Addr) (m : Str → Option Value) (cenv : Addr → Env) (elt it1 : PySem.Expr) (a b c : Str) (n : Nat) (Pt : Nat → Value → Value → Prop) (J : Nat → List Value → Prop) (news : List (Addr × Obj)) (s₂ : Shared) : Prop :=
  ∀ i x y ys own C oC D m₂ h tk (E' : Value → Shared → Prop), i < n → Pt i x y → J i ys → NsObj oC m₂ → m₂ a = some x → m₂ b = some y → Fr h₀ L h m → News h₀ L h ((C, oC) :: (D, lst ys) :: (news ++ own)) →
    wpAny (model prog w) A (eval it1 (cenv C)) (fun xv s₃ => ∃ l its kl h' tk', ∃ J2 : Nat → List Value → Prop, xv = .ref l ∧ s₃ = { s₂ with heap := h', toks := tk' } ∧ Fr h₀ L h' m ∧ News h₀ L h' ((l, listOf its kl) :: (C, oC) :: (D, lst ys) :: (news ++ own)) ∧ (∀ p ∈ ((C, oC) :: (D, lst ys) :: (news ++ own)), p.1 ≠ l) ∧ its.size ≤ sizeLine ∧ J2 0 ys ∧
      (∀ j zs, j < its.size → J2 j zs → zs.length ≤ sizeLine) ∧ (∀ zs, J2 its.size zs → J (i + 1) zs) ∧
      (∀ j v zs I oI oC' m₃ h tk (E' : Value → Shared → Prop), its[j]? = some v → J2 j zs → NsObj oC' m₃ → m₃ c = some v → m₃ a = some x → m₃ b = some y → Fr h₀ L h m → News h₀ L h ((I, oI) :: (l, listOf its kl) :: (C, oC') :: (D, lst zs) :: (news ++ own)) →
        wpAny (model prog w) A (eval elt (cenv C)) (PEnd h₀ L m s₂ ((I, oI) :: (l, listOf its kl) :: (C, oC') :: (D, lst zs) :: (news ++ own)) fun z => J2 (j + 1) (zs ++ [z])) E' { s₂ with heap := h, toks := tk })) E' { s₂ with heap := h, toks := tk }
noncomputable def PSrc2 (prog : Program) (w : World) (A : Around) (h₀ : Heap) (L : Addr) (m : Str → Option Value) (env : Env) (elt it1 : PySem.Expr) (a b c : Str) (pa pb tp : Pos) (kk : Nat) (scope : Scope) (cl : List (Str × Addr)) (Q : Value → Shared → Prop) (it : Value) (s₂ : Shared) : Prop :=
  ∃ I fp wr n, ∃ Pt : Nat → Value → Value → Prop, ∃ Md St, ∃ J : Nat → List Value → Prop, ∃ news, it = .ref I ∧ KTurns prog w A (.Tuple [.Name a pa, .Name b pb] kk tp) I fp wr n (fun i v h => ∃ T x y, v = .ref T ∧ Pt i x y ∧ h.IsTuple T #[x, y]) Md St ∧
    A.handled = none ∧ St 0 s₂.heap ∧ (∀ b ∈ fp, b < s₂.heap.objs.size) ∧ L ∉ fp ∧ (∀ b ∈ wr, h₀.get? b = none) ∧ (∀ p ∈ news, p.1 ∉ wr) ∧ Fr h₀ L s₂.heap m ∧ News h₀ L s₂.heap news ∧ (∀ b ∈ wr, b ∈ fp) ∧
    (∀ (s : Shared) (Q : Value → Shared → Prop) (E : Value → Shared → Prop), St 0 s.heap → Q (.ref I) s → wpAny (model prog w) A (pyIter (.ref I)) Q E s) ∧ J 0 [] ∧
    TurnTwo prog w A h₀ L m (fun C => compEnvC scope cl C env) elt it1 a b c n Pt J news s₂ ∧
    (∀ ys, J n ys → FinE h₀ L m s₂ Q ys news)
theorem block_two {elt it0 it1 : PySem.Expr} {a b c : Str} {pa pb pc tp : Pos} {kk : Nat} {scope : Scope} {cl : List (Str × Addr)} {pos : Pos} {Q : Value → Shared → Prop} {it : Value} {s₂ : Shared}
    (hcell : ∀ y ∈ scope.names, y.2 ≠ .cell) (hkind : scope.kind = .function) (hxa : scope.names.lookup a = some .local) (hxb : scope.names.lookup b = some .local) (hxc : scope.names.lookup c = some .local) (hab : ¬ a = b) (hac : ¬ a = c) (hbc : ¬ b = c)
    (hf : ∀ env x, foldedSetIterable it1 env x = pure x)
    (h : PSrc2 prog w A h₀ L m env elt it1 a b c pa pb tp kk scope cl Q it s₂) :
    wpAny (model prog w) A (newList []) (fun acc s₃ => wpAny (model prog w) A (newFunctionEnv scope env.globals cl [] env.qual none .none (some env)) (fun cenv s₄ =>
      codeAny (model prog w) A (.compStart (twoG elt (.Tuple [.Name a pa, .Name b pb] kk tp) it0 (.Name c pc) it1 scope pos) 0 it acc { cenv with scope := relabel scope env }) (compPost (model prog w) A E none Q acc cenv.locals) s₄) E s₃) E s₂ := by
  revert hcell hkind hxa hxb hxc hab hac hbc hf h
  revert prog w A E h₀ L m env elt it0 it1 a b c pa pb pc tp kk scope cl pos Q it s₂
  refine @eps8 _ _ _ _ _ _ _ _ inferInstance neW neA inferInstance inferInstance inferInstance inferInstance inferInstance _ ?_; generalize E8_1 _ _ _ _ _ _ _ _ _ = prog; generalize E8_2 _ _ _ _ _ _ _ _ _ = w; generalize E8_3 _ _ _ _ _ _ _ _ _ = A; generalize E8_4 _ _ _ _ _ _ _ _ _ = E; generalize E8_5 _ _ _ _ _ _ _ _ _ = h₀; generalize E8_6 _ _ _ _ _ _ _ _ _ = L; generalize E8_7 _ _ _ _ _ _ _ _ _ = m; generalize E8_8 _ _ _ _ _ _ _ _ _ = env
  refine @eps8 _ _ _ _ _ _ _ _ inferInstance inferInstance inferInstance inferInstance inferInstance inferInstance inferInstance inferInstance _ ?_; generalize E8_1 _ _ _ _ _ _ _ _ _ = elt; generalize E8_2 _ _ _ _ _ _ _ _ _ = it0; generalize E8_3 _ _ _ _ _ _ _ _ _ = it1; generalize E8_4 _ _ _ _ _ _ _ _ _ = a; generalize E8_5 _ _ _ _ _ _ _ _ _ = b; generalize E8_6 _ _ _ _ _ _ _ _ _ = c; generalize E8_7 _ _ _ _ _ _ _ _ _ = pa; generalize E8_8 _ _ _ _ _ _ _ _ _ = pb
  refine @eps8 _ _ _ _ _ _ _ _ inferInstance inferInstance inferInstance neC inferInstance inferInstance inferInstance inferInstance _ ?_; generalize E8_1 _ _ _ _ _ _ _ _ _ = pc; generalize E8_2 _ _ _ _ _ _ _ _ _ = tp; generalize E8_3 _ _ _ _ _ _ _ _ _ = kk; generalize E8_4 _ _ _ _ _ _ _ _ _ = scope; generalize E8_5 _ _ _ _ _ _ _ _ _ = cl; generalize E8_6 _ _ _ _ _ _ _ _ _ = pos; generalize E8_7 _ _ _ _ _ _ _ _ _ = Q; generalize E8_8 _ _ _ _ _ _ _ _ _ = it
  refine @eps1 _ neS _ ?_; generalize E1 _ _ = s₂
  intro hcell hkind hxa hxb hxc hab hac hbc hf h
  obtain ⟨I, fp, wr, n, Pt, Md, St, J, news, rfl, W, hh, hst, hfp, hLf, hwr, hnw, F, N, hsub, hself, hJ0, turn, fin⟩ := h
  refine wpAny_newObj_type (wpAny_newFunctionEnv hcell (by intro y hy; simp at hy) (fun h₁ hns₁ hsb₁ => ?_) hkind)
  dsimp only at hns₁ hsb₁ ⊢
  generalize hH2 : s₂.heap.push { cls := .type "list", dict := none, data := .seq ([] : List Value).toArray } = H2 at hns₁ hsb₁ ⊢
  have hC : H2.objs.size = s₂.heap.objs.size + 1 := by rw [← hH2, Heap.size_push]
  have hDC : s₂.heap.objs.size ≠ H2.objs.size := by rw [hC]; exact Nat.ne_of_lt (Nat.lt_succ_self _)
  have below : ∀ b, b < s₂.heap.objs.size → b ≠ H2.objs.size ∧ b ≠ s₂.heap.objs.size := fun b hb => ⟨by rw [hC]; exact Nat.ne_of_lt (Nat.lt_succ_of_lt hb), Nat.ne_of_lt hb⟩
  have hDf : s₂.heap.objs.size ∉ fp := fun hm => Nat.lt_irrefl _ (hfp _ hm)
  have hCf : H2.objs.size ∉ fp := fun hm => by have := hfp _ hm; rw [hC] at this; exact Nat.lt_irrefl _ (Nat.lt_of_succ_lt this)
  have old : ∀ b o, s₂.heap.get? b = some o → h₁.get? b = some o := fun b o e => hsb₁.extBut b o (below b (Heap.lt_size e)).1 (Heap.get?_push_of_some _ (hH2 ▸ Heap.get?_push_of_some _ e))
  have hacc : h₁.get? s₂.heap.objs.size = some (lst []) := hsb₁.extBut _ _ hDC (Heap.get?_push_of_some _ (hH2 ▸ Heap.get?_push_size _ rfl))
  have hst₁ : St 0 h₁ := W.frame _ _ _ hst fun b _ o e => old b o e
  have fresh : ∀ a, s₂.heap.objs.size ≤ a → s₂.heap.get? a = none := fun a ha => by
    cases e : s₂.heap.get? a with
    | none => rfl
    | some o' => exact absurd (Heap.lt_size e) (Nat.not_lt.mpr ha)
  have fresh₀ : ∀ a, s₂.heap.objs.size ≤ a → h₀.get? a = none := fun a ha => by
    cases e : h₀.get? a with
    | none => rfl
    | some o' => have := F.keep a o' e; rw [fresh a ha] at this; cases this
  have hD₀ : h₀.get? s₂.heap.objs.size = none := fresh₀ _ (Nat.le_refl _)
  have hC₀ : h₀.get? H2.objs.size = none := fresh₀ _ (by rw [hC]; exact Nat.le_succ _)
  have hLlt : L < s₂.heap.objs.size := F.ns.lt
  have hDL : s₂.heap.objs.size ≠ L := Ne.symm (below L hLlt).2
  have hCL : H2.objs.size ≠ L := Ne.symm (below L hLlt).1
  have hLw : L ∉ wr := fun h => hLf (hsub _ h)
  have hDw : s₂.heap.objs.size ∉ wr := fun h => hDf (hsub _ h)
  have hCw : H2.objs.size ∉ wr := fun h => hCf (hsub _ h)
  have oldw : ∀ b o, h₀.get? b = some o → b ∉ wr := fun b o e hb => by rw [hwr b hb] at e; cases e
  have off₀ : ∀ p ∈ news, p.1 ≠ H2.objs.size ∧ p.1 ≠ s₂.heap.objs.size := fun p hp => below _ (Heap.lt_size (N p hp).1)
  have offo : ∀ h, ∀ p ∈ PyProof.Rows.ownOf h₀ fp h, p.1 ≠ H2.objs.size ∧ p.1 ≠ s₂.heap.objs.size := fun h p hp => below _ (hfp _ (PyProof.Rows.ownOf_sub p hp))
  have offa : ∀ h, ∀ p ∈ news ++ PyProof.Rows.ownOf h₀ fp h, p.1 ≠ H2.objs.size ∧ p.1 ≠ s₂.heap.objs.size := fun h p hp => (List.mem_append.mp hp).elim (off₀ p) (offo h p)
  have loop : ∀ s₃ : Shared, s₃ = { s₂ with heap := h₁, toks := s₂.toks + ([] : List (Str × Value)).length } →
      codeAny (model prog w) A (.compLoop (twoG elt (.Tuple [.Name a pa, .Name b pb] kk tp) it0 (.Name c pc) it1 scope pos) 0 (.ref I) (.ref s₂.heap.objs.size) (compEnvC scope cl H2.objs.size env))
        (compPost (model prog w) A E none Q (.ref s₂.heap.objs.size) H2.objs.size) s₃ := by
    rintro s₃ rfl
    refine loop_two0
      (fun k s' => ∃ h' tk i ys m', s' = { s₂ with heap := h', toks := tk } ∧ i ≤ n ∧ k = n + 1 - i ∧ St i h' ∧ Fr h₀ L h' m ∧ h'.Ns H2.objs.size m' ∧ News h₀ L h' ((s₂.heap.objs.size, lst ys) :: news) ∧ J i ys) ?_ (n + 1)
      ⟨h₁, _, 0, [], _, rfl, Nat.zero_le _, rfl, hst₁, F.keeps old, hns₁, fun p hp => ?_, hJ0⟩
    · rintro k s' ⟨h', tk, i, ys, m', rfl, hi, rfl, hst', F', hn', N', hJ⟩ E'
      by_cases hlt : i < n
      · refine W.item i _ _ _ hlt hst' fun v h₂ tk₂ hMd hk₂ => ?_
        refine W.go i v _ _ _ hMd fun h₃ hP hst₃ hk₃ => ?_
        obtain ⟨T, x, y, rfl, hPt, hT⟩ := hP
        have up₃ : ∀ c o, c ∉ wr → h'.get? c = some o → h₃.get? c = some o := fun c o hc e => hk₃ c o hc (hk₂ c o hc e)
        refine kcp_assign (env := compEnvC scope cl H2.objs.size env) hh hT (lookup_relabel_local hxa) (lookup_relabel_local hxb) (by simp [compEnvC, relabel, hkind]) (hn'.at' fun o e => up₃ _ o hCw e) fun h₄ tk₄ hn₄ hs₄ => ?_
        have up : ∀ c o, c ∉ wr → c ≠ H2.objs.size → h'.get? c = some o → h₄.get? c = some o := fun c o h1 h2 e => hs₄ c o h2 (up₃ c o h1 e)
        have hst₄ : St (i + 1) h₄ := W.frame _ _ _ hst₃ fun b hb o e => hs₄ b o (fun q => hCf (by have q' : b = H2.objs.size := q; rw [← q']; exact hb)) e
        obtain ⟨oC, heC, hoC⟩ := ns_obj hn₄
        have F₄ : Fr h₀ L h₄ m := ⟨F'.ns.at' fun o e => up _ o hLw (Ne.symm hCL) e, fun c o e => up c o (oldw c o e) (fun q => by rw [q, hC₀] at e; cases e) (F'.keep c o e), F'.above⟩
        have Nown : News h₀ L h₄ (PyProof.Rows.ownOf h₀ fp h₄) := news_ownOf hLf
        have N₄ : News h₀ L h₄ ((H2.objs.size, oC) :: (s₂.heap.objs.size, lst ys) :: (news ++ PyProof.Rows.ownOf h₀ fp h₄)) := fun q hq => by
          rcases List.mem_cons.mp hq with rfl | hq
          · exact ⟨heC, hCL, hC₀⟩
          · rcases List.mem_cons.mp hq with rfl | hq
            · have z := N' _ (List.mem_cons_self ..)
              exact ⟨up _ _ hDw hDC z.1, z.2⟩
            · rcases List.mem_append.mp hq with hq | hq
              · have z := N' q (List.mem_cons_of_mem _ hq)
                exact ⟨up _ _ (hnw q hq) (off₀ q hq).1 z.1, z.2⟩
              · exact Nown q hq
        refine wpAny_mono (turn i x y ys _ H2.objs.size oC s₂.heap.objs.size _ h₄ _ _ hlt hPt hJ hoC (by simp [hab]) (by simp) F₄ N₄) (fun xv s₅ h₅ => ?_) fun _ _ e => e
        obtain ⟨l, its, kl, h₅, tk₅, J2, rfl, rfl, F₅, N₅, offl, hsz5, hJ20, hJl, hJ2, turn2⟩ := h₅
        refine ⟨hf _, ?_⟩
        have zC := (N₅ (H2.objs.size, oC) (List.mem_cons_of_mem _ List.mem_cons_self)).1
        refine wpAny_mono (inner_two (s₂ := s₂) (cenv := compEnvC scope cl H2.objs.size env) (J2 := J2) (m₁ := _) hh (lookup_relabel_local hxc) (by simp [compEnvC, relabel, hkind]) hsz5 hJl F₅ (hoC.ns zC) (fun q hq => N₅ q ?_) hCL hC₀ (offl _ (List.mem_cons_self ..)) (Ne.symm hDC) (Ne.symm (offl _ (List.mem_cons_of_mem _ (List.mem_cons_self ..)))) (fun p hp => (offa _ p hp).1) (fun p hp => (offa _ p hp).2) rfl hJ20
          (fun j v zs I2 oI2 oC2 m₃ h tk E2 hv hj hNs hc hoth F N => turn2 j v zs I2 oI2 oC2 m₃ h tk E2 hv hj hNs hc ((hoth a hac).trans (by simp [hab])) ((hoth b hbc).trans (by simp)) F N)) (fun it2 s₆ h₆ => codeAny_mono h₆ fun r s₇ h₇ => ?_) fun _ _ e => e
        · rcases List.mem_cons.mp hq with rfl | hq
          · exact List.mem_cons_self ..
          · exact List.mem_cons_of_mem _ (List.mem_cons_of_mem _ hq)
        · obtain ⟨f, rfl, h₈, tk₈, zs, m₈, rfl, F₈, hn₈, N₈, hJ₈⟩ := h₇
          refine ⟨f, rfl, n + 1 - (i + 1), by omega, h₈, tk₈, i + 1, zs, m₈, rfl, hlt, rfl, ?_, F₈, hn₈, fun q hq => N₈ q ?_, hJ2 zs hJ₈⟩
          · refine W.frame _ _ _ hst₄ fun b hb o e => ?_
            cases hn : h₀.get? b with
            | some o₀ =>
              have : o₀ = o := by have q := F₄.keep b o₀ hn; rw [e] at q; exact (Option.some.inj q).symm
              exact this ▸ F₈.keep b o₀ hn
            | none => exact (N₈ _ (List.mem_cons_of_mem _ (List.mem_append_right _ (mem_ownOf hb hn e)))).1
          · rcases List.mem_cons.mp hq with rfl | hq
            · exact List.mem_cons_self ..
            · exact List.mem_cons_of_mem _ (List.mem_append_left _ hq)
      · have hin : i = n := Nat.le_antisymm hi (Nat.not_lt.mp hlt)
        subst hin
        refine W.done _ _ _ hst' fun h₂ tk₂ hk₂ => ?_
        have F₂ : Fr h₀ L h₂ m := ⟨F'.ns.at' fun o e => hk₂ _ o hLw e, fun c o e => hk₂ c o (oldw c o e) (F'.keep c o e), F'.above⟩
        refine ⟨m', hn'.at' fun o e => hk₂ _ o hCw e, fun h'' hs'' => fin ys hJ _ h'' tk₂ (F₂.change hs'' hCL hC₀) (fun p hp => ?_) ?_⟩
        · rcases List.mem_cons.mp hp with rfl | hp
          · have z := N' _ (List.mem_cons_self ..)
            exact ⟨hs''.extBut _ _ hDC (hk₂ _ _ hDw z.1), z.2⟩
          · have z := N' p (List.mem_cons_of_mem _ hp)
            exact ⟨hs''.extBut _ _ (off₀ p hp).1 (hk₂ _ _ (hnw p hp) z.1), z.2⟩
        · exact Off3.one (I := H2.objs.size) (C := H2.objs.size) (Off3.of fun p hp => ⟨(off₀ p hp).1, (off₀ p hp).1, (off₀ p hp).2⟩)
    · rcases List.mem_cons.mp hp with rfl | hp
      · exact ⟨hacc, hDL, hD₀⟩
      · exact ⟨old _ _ (N p hp).1, (N p hp).2⟩
  exact start_two0 (loop _ rfl) fun E' => hself _ _ _ hst₁ (loop _ rfl)
theorem ListComp_2 {elt iter it1 : PySem.Expr} {a b c : Str} {pa pb pc tp : Pos} {kk : Nat} {scope : Scope} {cl : List (Str × Addr)} {pos : Pos} {Q : Value → Shared → Prop} (_F₀ : Fr h₀ L s.heap m)
    (hclos : closureFor scope env = pure cl) (hcell : ∀ y ∈ scope.names, y.2 ≠ .cell) (hkind : scope.kind = .function)
    (hnames : ∀ y ∈ scope.names, y.2 = .local → scope.names.lookup y.1 = some .local) (hxa : scope.names.lookup a = some .local) (hxb : scope.names.lookup b = some .local) (hxc : scope.names.lookup c = some .local) (hab : ¬ a = b) (hac : ¬ a = c) (hbc : ¬ b = c)
    (hf : ∀ env x, foldedSetIterable it1 env x = pure x)
    (h : wpAny (model prog w) A (eval iter env) (fun xv s₁ => wpAny (model prog w) A (pyIter xv) (fun it s₂ => PSrc2 prog w A h₀ L m env elt it1 a b c pa pb tp kk scope cl Q it s₂) E s₁) E s)
    (hs : ∀ x, foldedSetIterable iter env x = pure x := by intro _; rfl) :
    wpAny (model prog w) A (eval (.ListComp elt [⟨.Tuple [.Name a pa, .Name b pb] kk tp, iter, [], 0⟩, ⟨.Name c pc, it1, [], 0⟩] scope pos) env) Q E s := by
  rw [eval_ListComp]
  exact wpAny_comprehension_free (use := none) rfl hs hclos hkind hnames (wpAny_mono h (fun xv s₁ h₁ => wpAny_mono h₁ (fun it s₂ h₂ => block_two hcell hkind hxa hxb hxc hab hac hbc hf h₂) fun _ _ e => e) fun _ _ e => e)
theorem enum_two {elt it1 : PySem.Expr} {a b c : Str} {pa pb tp : Pos} {kk : Nat} {scope : Scope} {cl : List (Str × Addr)} {Q : Value → Shared → Prop} {l : Addr} {vs : List Value} {kl : Nat} {news : List (Addr × Obj)} (J : Nat → List Value → Prop)
    (hh : A.handled = none) (F : Fr h₀ L s.heap m) (N : News h₀ L s.heap news) (hm : (l, listOf vs.toArray kl) ∈ news) (hJ0 : J 0 [])
    (turn : ∀ g', TurnTwo prog w A h₀ L m (fun C => compEnvC scope cl C env) elt it1 a b c vs.length (fun i x y => (∃ t, x = .int ((i : Nat) : Int) t) ∧ vs[i]? = some y) J news { s with heap := g' })
    (fin : ∀ g' ys, J vs.length ys → FinE h₀ L m { s with heap := g' } Q ys news) :
    wpAny (model prog w) A (call (.type "enumerate") [.ref l]) (fun xv s₁ => wpAny (model prog w) A (pyIter xv) (fun it s₂ => PSrc2 prog w A h₀ L m env elt it1 a b c pa pb tp kk scope cl Q it s₂) E s₁) E s := by
  revert hh F N hm hJ0 turn fin
  revert prog w A E s h₀ L m env elt it1 a b c pa pb tp kk scope cl Q l vs kl news J
  refine @eps8 _ _ _ _ _ _ _ _ inferInstance neW neA inferInstance neS inferInstance inferInstance inferInstance _ ?_; generalize E8_1 _ _ _ _ _ _ _ _ _ = prog; generalize E8_2 _ _ _ _ _ _ _ _ _ = w; generalize E8_3 _ _ _ _ _ _ _ _ _ = A; generalize E8_4 _ _ _ _ _ _ _ _ _ = E; generalize E8_5 _ _ _ _ _ _ _ _ _ = s; generalize E8_6 _ _ _ _ _ _ _ _ _ = h₀; generalize E8_7 _ _ _ _ _ _ _ _ _ = L; generalize E8_8 _ _ _ _ _ _ _ _ _ = m
  refine @eps8 _ _ _ _ _ _ _ _ inferInstance inferInstance inferInstance inferInstance inferInstance inferInstance inferInstance inferInstance _ ?_; generalize E8_1 _ _ _ _ _ _ _ _ _ = env; generalize E8_2 _ _ _ _ _ _ _ _ _ = elt; generalize E8_3 _ _ _ _ _ _ _ _ _ = it1; generalize E8_4 _ _ _ _ _ _ _ _ _ = a; generalize E8_5 _ _ _ _ _ _ _ _ _ = b; generalize E8_6 _ _ _ _ _ _ _ _ _ = c; generalize E8_7 _ _ _ _ _ _ _ _ _ = pa; generalize E8_8 _ _ _ _ _ _ _ _ _ = pb
  refine @eps8 _ _ _ _ _ _ _ _ inferInstance inferInstance neC inferInstance inferInstance inferInstance inferInstance inferInstance _ ?_; generalize E8_1 _ _ _ _ _ _ _ _ _ = tp; generalize E8_2 _ _ _ _ _ _ _ _ _ = kk; generalize E8_3 _ _ _ _ _ _ _ _ _ = scope; generalize E8_4 _ _ _ _ _ _ _ _ _ = cl; generalize E8_5 _ _ _ _ _ _ _ _ _ = Q; generalize E8_6 _ _ _ _ _ _ _ _ _ = l; generalize E8_7 _ _ _ _ _ _ _ _ _ = vs; generalize E8_8 _ _ _ _ _ _ _ _ _ = kl
  refine @eps2 _ _ inferInstance inferInstance _ ?_; generalize E2_1 _ _ _ = news; generalize E2_2 _ _ _ = J
  intro hh F N hm hJ0 turn fin
  have hax := N _ hm
  have hl : s.heap.IsList l vs.toArray := ⟨_, hax.1, rfl, kl, rfl⟩
  have hlt : l < s.heap.objs.size := Heap.lt_size hax.1
  have hLs : L < s.heap.objs.size := F.ns.lt
  refine call_enumerate_list hl fun h' hE hI hsz hk => ?_
  refine wpAny_pyIter_enum hE ?_
  have hne : s.heap.objs.size + 1 ≠ s.heap.objs.size := Nat.succ_ne_self _
  have W0 := (WalksT.enumerate (prog := prog) (w := w) hh (s.heap.objs.size + 1) s.heap.objs.size l hne (ktu_ne 1 hlt) (Nat.ne_of_lt hlt) vs.toArray).toU
  have W := kturns_mono (P' := fun i v h => ∃ T x y, v = .ref T ∧ ((∃ t, x = .int ((i : Nat) : Int) t) ∧ vs[i]? = some y) ∧ h.IsTuple T #[x, y]) (KTurns.ofWalksU (elts := [.Name a pa, .Name b pb]) (k := kk) (pos := tp) W0) (by
    rintro i v h ⟨T, vals, rfl, ⟨t', x, hx, rfl⟩, hT⟩
    exact ⟨T, _, _, rfl, ⟨⟨t', rfl⟩, by simpa using hx⟩, hT⟩)
  refine ⟨s.heap.objs.size + 1, _, _, _, fun i x y => (∃ t, x = .int ((i : Nat) : Int) t) ∧ vs[i]? = some y, _, _, J, news, rfl, W, hh, ⟨⟨_, hE⟩, hI, ?_⟩, ?_, ?_, ?_, ?_, F.keeps hk, N.grown hk, ?_, ?_, hJ0, ?_, ?_⟩
  · exact ⟨_, hk _ _ hax.1, rfl, kl, rfl⟩
  · intro b hb
    show b < h'.objs.size
    rw [hsz]
    rcases List.mem_cons.mp hb with rfl | hb
    · exact Nat.lt_succ_self _
    · rcases List.mem_cons.mp hb with rfl | hb
      · exact Nat.lt_succ_of_lt (Nat.lt_succ_self _)
      · rw [List.mem_singleton.mp hb]; exact Nat.lt_succ_of_lt (Nat.lt_succ_of_lt hlt)
  · intro hm
    rcases List.mem_cons.mp hm with e | hm
    · exact Nat.ne_of_lt (Nat.lt_succ_of_lt hLs) e
    · rcases List.mem_cons.mp hm with e | hm
      · exact Nat.ne_of_lt hLs e
      · exact hax.2.1 (List.mem_singleton.mp hm).symm
  · intro b hb
    rcases List.mem_cons.mp hb with rfl | hb
    · exact ktu_new F (Nat.le_succ _)
    · rw [List.mem_singleton.mp hb]; exact ktu_new F (Nat.le_refl _)
  · intro p hp hm
    have hlp := Heap.lt_size (N p hp).1
    rcases List.mem_cons.mp hm with e | hm
    · exact Nat.ne_of_lt (Nat.lt_succ_of_lt hlp) e
    · exact Nat.ne_of_lt hlp (List.mem_singleton.mp hm)
  · intro b hb
    rcases List.mem_cons.mp hb with rfl | hb
    · exact List.mem_cons_self ..
    · exact List.mem_cons_of_mem _ (by rw [List.mem_singleton.mp hb]; exact List.mem_cons_self ..)
  · rintro s' Q' E' ⟨⟨o, he⟩, _⟩ hq
    exact wpAny_pyIter_enum he hq
  · rw [List.size_toArray]
    exact turn h'
  · intro ys hJ
    rw [List.size_toArray] at hJ
    exact fin h' ys hJ
end
end Mine
end
section -- LAWA
namespace Mine
theorem offLAWA : True := by
  w_top off
  exact trivial
theorem ints_cons {vs : List Value} {a : Int} {ns : List Int} (h : IntsAre vs (a :: ns)) : ∃ t us, vs = .int a t :: us ∧ IntsAre us ns := by
  cases h with
  | cons _ t h => exact ⟨t, _, rfl, h⟩
theorem ints_nil {vs : List Value} (h : IntsAre vs []) : vs = [] := by
  cases h
  rfl
theorem ints3 {vs : List Value} {a b c : Int} (h : IntsAre vs [a, b, c]) : ∃ ta tb tc, vs = [.int a ta, .int b tb, .int c tc] := by
  obtain ⟨ta, u1, e1, h1⟩ := ints_cons h
  obtain ⟨tb, u2, e2, h2⟩ := ints_cons h1
  obtain ⟨tc, u3, e3, h3⟩ := ints_cons h2
  exact ⟨ta, tb, tc, by rw [e1, e2, e3, ints_nil h3]⟩
theorem TreeAt.sub {n1 n2 : List (Addr × Obj)} (h : ∀ a vs n, (a, tupO vs n) ∈ n1 → (a, tupO vs n) ∈ n2) : ∀ {τ : T} {v : Value}, TreeAt n1 τ v → TreeAt n2 τ v
  | .leaf i, v, H => H
  | .node k tu r l rt, v, H => by
    obtain ⟨a, n, t1, t2, t3, vl, vr, h1, h2, h3, h4⟩ := H
    exact ⟨a, n, t1, t2, t3, vl, vr, h1, h _ _ _ h2, TreeAt.sub h h3, TreeAt.sub h h4⟩
noncomputable abbrev CellD (o : Obj) : Prop := ∃ v, o.data = .cell v
theorem tree_six {ext : List (Addr × Obj)} {a1 a2 a3 a4 a5 a6 : Addr} {o1 o2 o3 o4 o5 o6 : Obj} {τ : T} {v : Value} (h : TreeAt (ext ++ [(a1, o1), (a2, o2), (a3, o3), (a4, o4), (a5, o5), (a6, o6)]) τ v) (d1 : CellD o1) (d2 : CellD o2) (d3 : CellD o3) (d4 : CellD o4) (d5 : CellD o5) (d6 : CellD o6) : TreeAt ext τ v := by
  refine h.sub fun a vs n hm => ?_
  have no : ∀ o, CellD o → tupO vs n ≠ o := fun o ⟨v, hv⟩ e => by rw [← e] at hv; cases hv
  rcases List.mem_append.mp hm with hm | hm
  · exact hm
  · simp only [List.mem_cons, Prod.mk.injEq, List.not_mem_nil, or_false] at hm
    rcases hm with ⟨-, e⟩ | ⟨-, e⟩ | ⟨-, e⟩ | ⟨-, e⟩ | ⟨-, e⟩ | ⟨-, e⟩
    · exact absurd e (no _ d1)
    · exact absurd e (no _ d2)
    · exact absurd e (no _ d3)
    · exact absurd e (no _ d4)
    · exact absurd e (no _ d5)
    · exact absurd e (no _ d6)
theorem apart_cell {h₀ h : Heap} {L : Addr} {ext cells : List (Addr × Obj)} (N : News h₀ L h (ext ++ cells)) (hx : ∀ p ∈ ext, TupA p.2) {a : Addr} {o : Obj} (hm : (a, o) ∈ cells) (ho : CellD o) : ∀ p ∈ ext, @Ne Nat p.1 a := by
  intro p hp e
  have h1 := (N p (List.mem_append_left _ hp)).1
  have h2 := (N _ (List.mem_append_right _ hm)).1
  have e' : p.1 = a := e
  rw [e', h2] at h1
  obtain ⟨vs, n, ht⟩ := hx p hp
  obtain ⟨v, hv⟩ := ho
  have h3 : o = p.2 := Option.some.inj h1
  rw [h3, ht] at hv
  cases hv
theorem news_swap {h₀ h : Heap} {L : Addr} {ext cells : List (Addr × Obj)} (N : News h₀ L h (ext ++ cells)) : News h₀ L h (cells ++ ext) := fun p hp => N p (by
  rcases List.mem_append.mp hp with hp | hp
  · exact List.mem_append_right _ hp
  · exact List.mem_append_left _ hp)
theorem law_dp {n : Nat} (h : n ≤ 150) : callerA.depth + 1 + n < recursionLimit := Nat.lt_of_le_of_lt (Nat.add_le_add_left h _) (by decide)
theorem law_un {n : Nat} (h : n ≤ 600) : callerA.units + 3 + n < cLine := Nat.lt_of_le_of_lt (Nat.add_le_add_left h _) (by decide)
end Mine
end
section -- LAWB
namespace Mine
theorem offLAWB : True := by
  w_top off
  exact trivial
local macro_rules | `(tactic| k_all) => `(tactic| assumption)
noncomputable def LawEnd (h₀ : Heap) (L : Addr) (s : Shared) (v : Flow) (s' : Shared) : Prop := ∃ h' tk' g' m, v = .ret (.bool true) ∧ s' = { s with heap := h', toks := tk', gens := g' } ∧ Fr h₀ L h' m ∧ GMore s.gens g'
theorem law_mono {M : Model} {A : Around} {h₀ : Heap} {L : Addr} {s : Shared} {m : Str → Option Value} {c : Sem Flow} {Q : Flow → Shared → Prop} {E : Value → Shared → Prop} (_ : Fr h₀ L s.heap m) (h : wpAny M A c (LawEnd h₀ L s) E s) (post : ∀ v s', LawEnd h₀ L s v s' → Q v s') : wpAny M A c Q E s := wpAny_mono h post fun _ _ e => e
noncomputable def lawB : Stage PySem.Challenge.rw_sh0069_01.Holds := Stage.mk _ <| by
  intro hP9
  refine hd ⟨left, ?_⟩
  lge_go0
  (try clear lgeM)
  all_goals (try k_fold)
  (rename IntsAre _ _ => hIL)
  have hLen : List.length _ ≤ 63 := Nat.le_of_not_lt (fun h => by (rename ¬ _ < _ => hc); exact hc (Int.ofNat_lt.mpr h))
  (with_reducible rename Fr _ _ _ _ => FF)
  have FF1 := fr_map FF (m' := fun y => if y = Str.ofString "script" then some (Value.ref _) else none) rfl
  (with_reducible rename News _ _ _ [_, _, _, _, _, _] => NN)
  (with_reducible rename _ = Data.cell (bindC _ _ _ _) => e9); have c1 : _ = Data.cell none := e9; clear e9
  (with_reducible rename _ = Data.cell (bindC _ _ _ _) => e9); have c2 : _ = Data.cell none := e9; clear e9
  (with_reducible rename _ = Data.cell (bindC _ _ _ _) => e9); have c3 : _ = Data.cell none := e9; clear e9
  (with_reducible rename _ = Data.cell (bindC _ _ _ _) => e9); have c4 : _ = Data.cell none := e9; clear e9
  (with_reducible rename _ = Data.cell (bindC _ _ _ _) => e9); have c5 : _ = Data.cell none := e9; clear e9
  (with_reducible rename _ = Data.cell (bindC _ _ _ _) => e9); have c6 : _ = Data.cell none := e9; clear e9
  refine law_mono FF1 ?body ?post
  case post =>
    rintro v s' ⟨h', tk', g', m', rfl, rfl, F9, G9⟩
    dsimp only
    (with_reducible rename Based _ _ _ _ _ => B0)
    (with_reducible rename _ = #[] => hg0)
    exact goodWG_reads B0 F9 (G9.2 (AllBare.of_eq hg0)) (raisesW_false (by wrow_none_raised)) (ReadsW.bool true) unshared_nil (by first | rfl | exact postW_of (by wrow_shape) (by wtm_val) (by str_meet; first | done | w_fin)) rfl
  case body =>
    clear FF
    try ((with_reducible rename Ground _ _ _ _ _ _ _ _ _ => z9); clear z9)
    try ((with_reducible rename (kHook _ _ _).says _ _ => z9); clear z9)
    try ((with_reducible rename _ = some _ => z9); clear z9)
    try ((with_reducible rename _ = #[] => z9); clear z9)
    try ((with_reducible rename Flt.MathXP _ _ _ => z9); clear z9)
    try ((with_reducible rename LooseAre _ _ _ => z9); clear z9)
    try ((with_reducible rename Glob _ _ _ _ _ _ _ _ => z9); clear z9)
    try ((with_reducible rename Tables _ _ _ _ => z9); clear z9)
    try ((with_reducible rename TopE _ _ _ _ => z9); clear z9)
    try ((with_reducible rename TopW _ _ _ => z9); clear z9)
    try ((with_reducible rename BMod _ _ _ _ _ => z9); clear z9)
    try ((with_reducible rename Based _ _ _ _ _ => z9); clear z9)
    try ((with_reducible rename Heap.CodeRec _ _ _ => z9); clear z9)
    try ((with_reducible rename ReadsAll _ _ _ _ => z9); clear z9)
    try ((with_reducible rename Well _ _ _ _ => z9); clear z9)
    try ((with_reducible rename Reads _ _ _ _ => z9); clear z9)
    try ((with_reducible rename ReadsAllW _ _ _ _ _ _ => z9); clear z9)
    try ((with_reducible rename ¬ _ => z9); clear z9)
    try ((with_reducible rename True => z9); clear z9)
    try ((with_reducible rename Dflts _ _ _ _ _ _ => z9); clear z9)
    try ((with_reducible rename CellsAre _ _ _ => z9); clear z9)
    iterate 5 try ((with_reducible rename _ = true => z9); clear z9)
    (repeat (with_unfolding_none rename _ => z9; revert z9))
    exact fun h => h.h
end Mine
end
section -- LAWC
namespace Mine
theorem offLAWC : True := by
  w_top off
  exact trivial
local macro_rules | `(tactic| k_all) => `(tactic| assumption)
theorem bar_text (x : List Nat) : (toS x ++ Str.ofString "(|").cps.toList = x ++ [40, 124] := by
  show (x.toArray ++ (Str.ofString "(|").cps).toList = _
  rw [show (Str.ofString "(|").cps = #[40, 124] by decide +kernel]
  simp
theorem bar_len (x : List Nat) : (toS x ++ Str.ofString "(|").length = x.length + 2 := by
  show (x.toArray ++ (Str.ofString "(|").cps).size = _
  rw [show (Str.ofString "(|").cps = #[40, 124] by decide +kernel]
  simp
noncomputable def lawC : Stage lawB.P := Stage.mk _ <| by
  w_top off
  intro hP9
  intro w9
  intros
  (with_reducible rename IntsAre _ _ => hIL)
  (with_reducible rename _ ≤ 63 => hLen)
  (with_reducible rename News _ _ _ [_, _, _, _, _, _] => NN)
  (with_reducible rename Fr _ _ _ _ => FF1)
  iterate 17 (first | (first | (k_here; (with_reducible show wpAny _ _ (call (Value.ref 246) [_, _]) _ _ _); k_dflt (refine' read_c _ _ _ _ _ τ _ _ [40, 124] hxt hxl _ _ _ _ _ _ _ _ _ _ _ _ _ _ _ _ _ _ ?k1 ?k2 ?k3 ?k4 ?k5 ?kK ?kd ?ku ?_); (case k1 => k_asm); (case k2 => k_asm); (case k3 => k_asm); (case k4 => k_asm); (case k5 => k_asm); (case kK => exact rfl); (case kd => exact law_dp (by omega)); (case ku => exact law_un (by omega)); intro tS2 hS2 tkS2 gS2 FS2 NS2 GS2; dsimp only) | (k_here; (with_reducible show wpAny _ _ (call (Value.ref 239) [_]) _ _ _); k_dflt (refine' written_c _ _ _ _ τ hlen1 _ _ _ _ _ _ _ _ _ _ _ _ _ _ _ _ _ _ _ ?k1 ?k2 ?k3 ?k4 ?k5 ?kK ?kd ?ku ?kT ?_); (case k1 => k_asm); (case k2 => k_asm); (case k3 => k_asm); (case k4 => k_asm); (case k5 => k_asm); (case kK => exact rfl); (case kd => exact law_dp (by omega)); (case ku => exact law_un (by omega)); (case kT => exact hTE.mono (fun p hp => by (repeat (first | assumption | exact List.mem_cons_self .. | refine List.mem_cons_of_mem _ ?_)))); intro tS hS tkS gS FS NS GS; dsimp only) | (k_here; (with_reducible show wpAny _ _ (call (Value.ref 232) [_]) _ _ _); k_dflt (refine' tree_c _ _ _ _ tD da db dc tk ta tb tc tB _ _ _ _ _ _ _ _ _ _ _ _ _ _ _ _ _ _ ?k1 ?k2 ?k3 ?k4 ?k5 ?kK ?kd ?ku ?_); (case k1 => k_asm); (case k2 => k_asm); (case k3 => k_asm); (case k4 => k_asm); (case k5 => k_asm); (case kK => exact rfl); (case kd => decide); (case ku => decide); clear NS FS tB tI; intro τ v hS tkS ext hTA hnd hext FS NS; dsimp only) | (k_here; (with_reducible show wpAny _ _ (call (Value.ref 225) [_]) _ _ _); k_dflt (refine' draws_c _ _ _ _ _ _ _ hIL hLen _ _ _ _ _ _ _ _ _ _ _ _ _ _ _ _ _ _ ?k1 ?k2 ?k3 ?k4 ?k5 ?kK ?kd ?ku ?kL ?_); (case k1 => k_asm); (case k2 => k_asm); (case k3 => k_asm); (case k4 => k_asm); (case k5 => k_asm); (case kK => exact rfl); (case kd => decide); (case ku => decide); (case kL => assumption); clear NN FF1; intro tD tV da db dc tk hS tkS tI tB FS NS; obtain ⟨ta, tb, tc, rfl⟩ := ints3 tI; dsimp only) | walk1) | (dsimp only; (first | (k_here; (with_reducible show wpAny _ _ (call (Value.ref 246) [_, _]) _ _ _); k_dflt (refine' read_c _ _ _ _ _ τ _ _ [40, 124] hxt hxl _ _ _ _ _ _ _ _ _ _ _ _ _ _ _ _ _ _ ?k1 ?k2 ?k3 ?k4 ?k5 ?kK ?kd ?ku ?_); (case k1 => k_asm); (case k2 => k_asm); (case k3 => k_asm); (case k4 => k_asm); (case k5 => k_asm); (case kK => exact rfl); (case kd => exact law_dp (by omega)); (case ku => exact law_un (by omega)); intro tS2 hS2 tkS2 gS2 FS2 NS2 GS2; dsimp only) | (k_here; (with_reducible show wpAny _ _ (call (Value.ref 239) [_]) _ _ _); k_dflt (refine' written_c _ _ _ _ τ hlen1 _ _ _ _ _ _ _ _ _ _ _ _ _ _ _ _ _ _ _ ?k1 ?k2 ?k3 ?k4 ?k5 ?kK ?kd ?ku ?kT ?_); (case k1 => k_asm); (case k2 => k_asm); (case k3 => k_asm); (case k4 => k_asm); (case k5 => k_asm); (case kK => exact rfl); (case kd => exact law_dp (by omega)); (case ku => exact law_un (by omega)); (case kT => exact hTE.mono (fun p hp => by (repeat (first | assumption | exact List.mem_cons_self .. | refine List.mem_cons_of_mem _ ?_)))); intro tS hS tkS gS FS NS GS; dsimp only) | (k_here; (with_reducible show wpAny _ _ (call (Value.ref 232) [_]) _ _ _); k_dflt (refine' tree_c _ _ _ _ tD da db dc tk ta tb tc tB _ _ _ _ _ _ _ _ _ _ _ _ _ _ _ _ _ _ ?k1 ?k2 ?k3 ?k4 ?k5 ?kK ?kd ?ku ?_); (case k1 => k_asm); (case k2 => k_asm); (case k3 => k_asm); (case k4 => k_asm); (case k5 => k_asm); (case kK => exact rfl); (case kd => decide); (case ku => decide); clear NS FS tB tI; intro τ v hS tkS ext hTA hnd hext FS NS; dsimp only) | (k_here; (with_reducible show wpAny _ _ (call (Value.ref 225) [_]) _ _ _); k_dflt (refine' draws_c _ _ _ _ _ _ _ hIL hLen _ _ _ _ _ _ _ _ _ _ _ _ _ _ _ _ _ _ ?k1 ?k2 ?k3 ?k4 ?k5 ?kK ?kd ?ku ?kL ?_); (case k1 => k_asm); (case k2 => k_asm); (case k3 => k_asm); (case k4 => k_asm); (case k5 => k_asm); (case kK => exact rfl); (case kd => decide); (case ku => decide); (case kL => assumption); clear NN FF1; intro tD tV da db dc tk hS tkS tI tB FS NS; obtain ⟨ta, tb, tc, rfl⟩ := ints3 tI; dsimp only) | walk1)))
  have hTE := tree_six hTA ⟨_, by assumption⟩ ⟨_, by assumption⟩ ⟨_, by assumption⟩ ⟨_, by assumption⟩ ⟨_, by assumption⟩ ⟨_, by assumption⟩
  have ap6 := apart_cell NS hext (List.mem_cons_self ..) ⟨_, by assumption⟩
  have ap5 := apart_cell NS hext (List.mem_cons_of_mem _ (List.mem_cons_self ..)) ⟨_, by assumption⟩
  have ap4 := apart_cell NS hext (List.mem_cons_of_mem _ (List.mem_cons_of_mem _ (List.mem_cons_self ..))) ⟨_, by assumption⟩
  have ap3 := apart_cell NS hext (List.mem_cons_of_mem _ (List.mem_cons_of_mem _ (List.mem_cons_of_mem _ (List.mem_cons_self ..)))) ⟨_, by assumption⟩
  have ap2 := apart_cell NS hext (List.mem_cons_of_mem _ (List.mem_cons_of_mem _ (List.mem_cons_of_mem _ (List.mem_cons_of_mem _ (List.mem_cons_self ..))))) ⟨_, by assumption⟩
  have ap1 := apart_cell NS hext (List.mem_cons_of_mem _ (List.mem_cons_of_mem _ (List.mem_cons_of_mem _ (List.mem_cons_of_mem _ (List.mem_cons_of_mem _ (List.mem_cons_self ..)))))) ⟨_, by assumption⟩
  have N1 := news_swap NS
  simp only [List.cons_append, List.nil_append] at N1
  have hlen1 : τ.txt.length ≤ 1000 := Nat.le_trans τ.txt_len (by rw [hnd]; decide)
  have hlv : τ.lv ≤ 7 := Nat.le_trans τ.lv_le (by rw [hnd]; decide)
  have hxt := bar_text τ.txt
  have hxl : (toS τ.txt ++ Str.ofString "(|").length ≤ 1000 := by rw [bar_len]; have := τ.txt_len; omega
  clear NS hTA hnd
  repeat (first | ((fail_if_success (with_reducible show wpAny _ _ (eval (Expr.ListComp _ _ _ _) _) _ _ _)); (first | (k_here; (with_reducible show wpAny _ _ (call (Value.ref 246) [_, _]) _ _ _); k_dflt (refine' read_c _ _ _ _ _ τ _ _ [40, 124] hxt hxl _ _ _ _ _ _ _ _ _ _ _ _ _ _ _ _ _ _ ?k1 ?k2 ?k3 ?k4 ?k5 ?kK ?kd ?ku ?_); (case k1 => k_asm); (case k2 => k_asm); (case k3 => k_asm); (case k4 => k_asm); (case k5 => k_asm); (case kK => exact rfl); (case kd => exact law_dp (by omega)); (case ku => exact law_un (by omega)); intro tS2 hS2 tkS2 gS2 FS2 NS2 GS2; dsimp only) | (k_here; (with_reducible show wpAny _ _ (call (Value.ref 239) [_]) _ _ _); k_dflt (refine' written_c _ _ _ _ τ hlen1 _ _ _ _ _ _ _ _ _ _ _ _ _ _ _ _ _ _ _ ?k1 ?k2 ?k3 ?k4 ?k5 ?kK ?kd ?ku ?kT ?_); (case k1 => k_asm); (case k2 => k_asm); (case k3 => k_asm); (case k4 => k_asm); (case k5 => k_asm); (case kK => exact rfl); (case kd => exact law_dp (by omega)); (case ku => exact law_un (by omega)); (case kT => exact hTE.mono (fun p hp => by (repeat (first | assumption | exact List.mem_cons_self .. | refine List.mem_cons_of_mem _ ?_)))); intro tS hS tkS gS FS NS GS; dsimp only) | (k_here; (with_reducible show wpAny _ _ (call (Value.ref 232) [_]) _ _ _); k_dflt (refine' tree_c _ _ _ _ tD da db dc tk ta tb tc tB _ _ _ _ _ _ _ _ _ _ _ _ _ _ _ _ _ _ ?k1 ?k2 ?k3 ?k4 ?k5 ?kK ?kd ?ku ?_); (case k1 => k_asm); (case k2 => k_asm); (case k3 => k_asm); (case k4 => k_asm); (case k5 => k_asm); (case kK => exact rfl); (case kd => decide); (case ku => decide); clear NS FS tB tI; intro τ v hS tkS ext hTA hnd hext FS NS; dsimp only) | (k_here; (with_reducible show wpAny _ _ (call (Value.ref 225) [_]) _ _ _); k_dflt (refine' draws_c _ _ _ _ _ _ _ hIL hLen _ _ _ _ _ _ _ _ _ _ _ _ _ _ _ _ _ _ ?k1 ?k2 ?k3 ?k4 ?k5 ?kK ?kd ?ku ?kL ?_); (case k1 => k_asm); (case k2 => k_asm); (case k3 => k_asm); (case k4 => k_asm); (case k5 => k_asm); (case kK => exact rfl); (case kd => decide); (case ku => decide); (case kL => assumption); clear NN FF1; intro tD tV da db dc tk hS tkS tI tB FS NS; obtain ⟨ta, tb, tc, rfl⟩ := ints3 tI; dsimp only) | walk1)) | ((fail_if_success (with_reducible show wpAny _ _ (eval (Expr.ListComp _ _ _ _) _) _ _ _)); dsimp only; (first | (k_here; (with_reducible show wpAny _ _ (call (Value.ref 246) [_, _]) _ _ _); k_dflt (refine' read_c _ _ _ _ _ τ _ _ [40, 124] hxt hxl _ _ _ _ _ _ _ _ _ _ _ _ _ _ _ _ _ _ ?k1 ?k2 ?k3 ?k4 ?k5 ?kK ?kd ?ku ?_); (case k1 => k_asm); (case k2 => k_asm); (case k3 => k_asm); (case k4 => k_asm); (case k5 => k_asm); (case kK => exact rfl); (case kd => exact law_dp (by omega)); (case ku => exact law_un (by omega)); intro tS2 hS2 tkS2 gS2 FS2 NS2 GS2; dsimp only) | (k_here; (with_reducible show wpAny _ _ (call (Value.ref 239) [_]) _ _ _); k_dflt (refine' written_c _ _ _ _ τ hlen1 _ _ _ _ _ _ _ _ _ _ _ _ _ _ _ _ _ _ _ ?k1 ?k2 ?k3 ?k4 ?k5 ?kK ?kd ?ku ?kT ?_); (case k1 => k_asm); (case k2 => k_asm); (case k3 => k_asm); (case k4 => k_asm); (case k5 => k_asm); (case kK => exact rfl); (case kd => exact law_dp (by omega)); (case ku => exact law_un (by omega)); (case kT => exact hTE.mono (fun p hp => by (repeat (first | assumption | exact List.mem_cons_self .. | refine List.mem_cons_of_mem _ ?_)))); intro tS hS tkS gS FS NS GS; dsimp only) | (k_here; (with_reducible show wpAny _ _ (call (Value.ref 232) [_]) _ _ _); k_dflt (refine' tree_c _ _ _ _ tD da db dc tk ta tb tc tB _ _ _ _ _ _ _ _ _ _ _ _ _ _ _ _ _ _ ?k1 ?k2 ?k3 ?k4 ?k5 ?kK ?kd ?ku ?_); (case k1 => k_asm); (case k2 => k_asm); (case k3 => k_asm); (case k4 => k_asm); (case k5 => k_asm); (case kK => exact rfl); (case kd => decide); (case ku => decide); clear NS FS tB tI; intro τ v hS tkS ext hTA hnd hext FS NS; dsimp only) | (k_here; (with_reducible show wpAny _ _ (call (Value.ref 225) [_]) _ _ _); k_dflt (refine' draws_c _ _ _ _ _ _ _ hIL hLen _ _ _ _ _ _ _ _ _ _ _ _ _ _ _ _ _ _ ?k1 ?k2 ?k3 ?k4 ?k5 ?kK ?kd ?ku ?kL ?_); (case k1 => k_asm); (case k2 => k_asm); (case k3 => k_asm); (case k4 => k_asm); (case k5 => k_asm); (case kK => exact rfl); (case kd => decide); (case ku => decide); (case kL => assumption); clear NN FF1; intro tD tV da db dc tk hS tkS tI tB FS NS; obtain ⟨ta, tb, tc, rfl⟩ := ints3 tI; dsimp only) | walk1)))
  clear hxt hxl hlen1
  have hG := GMore.trans GS GS2
  dsimp only at hG
  clear GS GS2
  (repeat (with_unfolding_none rename _ => z9; revert z9))
  exact fun h => h.h
end Mine
end
section -- LAWD0
namespace Mine
theorem offLAWD0 : True := by
  w_top off
  exact trivial
theorem dig_str : ∀ i, i < 8 → Str.ofString (toString ((i : Nat) : Int)) = dig i := by decide +kernel
theorem PairAt.mono {n1 n2 : List (Addr × Obj)} (h : ∀ p ∈ n1, p ∈ n2) {n : Nat} {v : Value} (H : PairAt n1 n v) : PairAt n2 n v := let ⟨a, c, t1, t2, e, hm⟩ := H; ⟨a, c, t1, t2, e, h _ hm⟩
theorem PairsAt.mono {n1 n2 : List (Addr × Obj)} (h : ∀ p ∈ n1, p ∈ n2) : ∀ {vs : List Value} {js : List Nat}, PairsAt n1 vs js → PairsAt n2 vs js
  | _, _, .nil => .nil
  | _, _, .cons a b c => .cons (a.mono h) b (c.mono h)
theorem PairsAt.snoc {nw : List (Addr × Obj)} {v : Value} {n : Nat} (hv : PairAt nw n v) (hn : n < 8) : ∀ {vs : List Value} {js : List Nat}, PairsAt nw vs js → PairsAt nw (vs ++ [v]) (js ++ [n])
  | _, _, .nil => .cons hv hn .nil
  | _, _, .cons a b c => .cons a b (PairsAt.snoc hv hn c)
theorem PairsAt.len {nw : List (Addr × Obj)} : ∀ {vs : List Value} {js : List Nat}, PairsAt nw vs js → vs.length = js.length
  | _, _, .nil => rfl
  | _, _, .cons _ _ c => by rw [List.length_cons, List.length_cons, c.len]
noncomputable def jsUp (μ i : Nat) : List Nat := (List.range i).filter fun j => μ.testBit j
noncomputable abbrev jsOf (μ : Nat) : List Nat := jsUp μ 8
theorem jsUp_t {μ i : Nat} (h : μ.testBit i = true) : jsUp μ (i + 1) = jsUp μ i ++ [i] := by
  unfold jsUp
  rw [List.range_succ, List.filter_append]
  congr 1
  simp [h]
theorem jsUp_f {μ i : Nat} (h : μ.testBit i = false) : jsUp μ (i + 1) = jsUp μ i := by
  unfold jsUp
  rw [List.range_succ, List.filter_append]
  simp [h]
theorem jsUp_len (μ i : Nat) : (jsUp μ i).length ≤ i := Nat.le_trans (List.length_filter_le _ _) (Nat.le_of_eq List.length_range)
theorem bit_all : ∀ n, n < 256 → ∀ i, i < 8 → ((Builtin.bitAnd ((n : Nat) : Int) (1 * 2 ^ ((i : Nat) : Int).toNat) = 0) ↔ n.testBit i = false) := by decide +kernel
theorem bit_ne {n i : Nat} (hn : n < 256) (hi : i < 8) (h : Builtin.bitAnd ((n : Nat) : Int) (1 * 2 ^ ((i : Nat) : Int).toNat) ≠ 0) : n.testBit i = true := by
  cases hb : n.testBit i with
  | true => rfl
  | false => exact absurd ((bit_all n hn i hi).mpr hb) h
theorem apart_of {h₀ h : Heap} {L : Addr} {l ext : List (Addr × Obj)} (N : News h₀ L h l) {a : Addr} {o : Obj} (hm : (a, o) ∈ l) (ho : CellD o) (he : ∀ p ∈ ext, p ∈ l) (ht : ∀ p ∈ ext, TupA p.2) : ∀ p ∈ ext, @Ne Nat p.1 a := by
  intro p hp e
  have h1 := (N p (he p hp)).1
  have h2 := (N _ hm).1
  have e' : p.1 = a := e
  rw [e', h2] at h1
  obtain ⟨vs, n, ht⟩ := ht p hp
  obtain ⟨v, hv⟩ := ho
  have h3 : o = p.2 := Option.some.inj h1
  rw [h3, ht] at hv
  cases hv
section
open PyProof.Rows.LCg PyProof.Rows.LCt PySem.Spec PySem.Calls
theorem off3_ins {I C D a : Addr} {o : Obj} {n1 n2 : List (Addr × Obj)} (h : Off3 I C D n1) (hs : ∀ p ∈ n2, p = (a, o) ∨ p ∈ n1) (hI : I ≠ a) (hC : C ≠ a) (hD : D ≠ a) : Off3 I C D n2 :=
  Off3.of fun p hp => (hs p hp).elim (fun e => e ▸ ⟨Ne.symm hI, Ne.symm hC, Ne.symm hD⟩) fun h' => h.mem p h'
theorem mask_rest {prog : Program} {w : World} {A : Around} {h₀ : Heap} {L : Addr} {m : Str → Option Value} {env : Env} {ct elt : PySem.Expr} {x : Str} {scope : Scope} {cl : List (Str × Addr)} {s : Shared} {Fin : List Value → List (Addr × Obj) → Prop} {μ : Nat} {ext : List (Addr × Obj)}
    (B : List (Addr × Obj) → List (Addr × Obj))
    (turn : ∀ (i : Nat) t ys tl, i < 8 → ∀ I oI C oC D m₂ h tk (E' : Value → Shared → Prop) (R : Value → List (Addr × Obj) → Prop) (R0 : List (Addr × Obj) → Prop), NsObj oC m₂ → m₂ x = some (.int (i : Int) t) → Fr h₀ L h m → News h₀ L h ((I, oI) :: (C, oC) :: (D, lst ys) :: B tl) → Off3 I C D (B tl) → ((@Ne Nat I C) ∧ (@Ne Nat I D) ∧ (@Ne Nat C D)) →
      (μ.testBit i = true → ∀ a c t1 t2, R (.ref a) (B ((a, pO2 #[Value.str (wordS i) t1, Value.str (dig i) t2] c) :: tl))) → (μ.testBit i = false → R0 (B tl)) →
      wpAny (model prog w) A (isTrue ct (compEnvC scope cl C env) (eval ct (compEnvC scope cl C env))) (fun ok s' => if ok = true then
        wpAny (model prog w) A (eval elt (compEnvC scope cl C env)) (CompEnd h₀ L m { s with heap := h, toks := tk } I oI C oC D (lst ys) (fun _ => True) R) E' s' else CompEnd h₀ L m { s with heap := h, toks := tk } I oI C oC D (lst ys) (fun _ => True) (fun _ nw => R0 nw) Value.none s') E' { s with heap := h, toks := tk })
    (fin : ∀ ys tl, PairsAt tl ys (jsOf μ) → (∀ p ∈ ext, p ∈ tl) → (∀ p ∈ tl, TupA p.2) → Fin ys (B tl)) :
    ∀ (k i : Nat) ys tl, i + k = 8 → PairsAt tl ys (jsUp μ i) → (∀ p ∈ ext, p ∈ tl) → (∀ p ∈ tl, TupA p.2) →
      CompRestT prog w A h₀ L m env ct elt x scope cl s (fun _ => True) (fun i v => ∃ t, v = .int (0 + (i : Int)) t) Fin k i ys (B tl) := by
  intro k
  induction k with
  | zero =>
    intro i ys tl hi hp he ht
    have : i = 8 := by omega
    subst this
    exact CompRestT.zero (fin ys tl hp he ht)
  | succ k ih =>
    intro i ys tl hi hp he ht
    refine CompRestT.succ fun v I oI C oC D m₂ h tk E' hv hNs h1 F N off ne => ?_
    obtain ⟨t, rfl⟩ := hv
    rw [Int.zero_add] at h1
    have hi8 : i < 8 := by omega
    refine turn i t ys tl hi8 I oI C oC D m₂ h tk E' _ (fun nw => CompRestT prog w A h₀ L m env ct elt x scope cl s (fun _ => True) (fun i v => ∃ t, v = .int (0 + (i : Int)) t) Fin k (i + 1) ys nw) hNs h1 F N off ne (fun hb a c t1 t2 => ?_) (fun hb => ?_)
    · refine ih (i + 1) _ _ (by omega) ?_ (fun p hp => List.mem_cons_of_mem _ (he p hp)) (fun p hp => (List.mem_cons.mp hp).elim (fun e => e ▸ ⟨_, _, rfl⟩) (ht p))
      rw [jsUp_t hb]
      exact (hp.mono fun p hp => List.mem_cons_of_mem _ hp).snoc ⟨a, c, t1, t2, rfl, List.mem_cons_self ..⟩ hi8
    · exact ih (i + 1) _ _ (by omega) (by rw [jsUp_f hb]; exact hp) he ht
theorem mask_rest7 {prog : Program} {w : World} {A : Around} {h₀ : Heap} {L : Addr} {m : Str → Option Value} {env : Env} {ct elt : PySem.Expr} {x : Str} {scope : Scope} {cl : List (Str × Addr)} {s : Shared} {Fin : List Value → List (Addr × Obj) → Prop} {μ : Nat} {ext : List (Addr × Obj)} {p1 p2 p3 p4 p5 p6 p7 : Addr × Obj}
    (turn : ∀ (i : Nat) t ys tl, i < 8 → ∀ I oI C oC D m₂ h tk (E' : Value → Shared → Prop) (R : Value → List (Addr × Obj) → Prop) (R0 : List (Addr × Obj) → Prop), NsObj oC m₂ → m₂ x = some (.int (i : Int) t) → Fr h₀ L h m → News h₀ L h ((I, oI) :: (C, oC) :: (D, lst ys) :: p1 :: p2 :: p3 :: p4 :: p5 :: p6 :: p7 :: tl) → Off3 I C D (p1 :: p2 :: p3 :: p4 :: p5 :: p6 :: p7 :: tl) → ((@Ne Nat I C) ∧ (@Ne Nat I D) ∧ (@Ne Nat C D)) →
      (μ.testBit i = true → ∀ a c t1 t2, R (.ref a) (p1 :: p2 :: p3 :: p4 :: p5 :: p6 :: p7 :: (a, pO2 #[Value.str (wordS i) t1, Value.str (dig i) t2] c) :: tl)) → (μ.testBit i = false → R0 (p1 :: p2 :: p3 :: p4 :: p5 :: p6 :: p7 :: tl)) →
      wpAny (model prog w) A (isTrue ct (compEnvC scope cl C env) (eval ct (compEnvC scope cl C env))) (fun ok s' => if ok = true then
        wpAny (model prog w) A (eval elt (compEnvC scope cl C env)) (CompEnd h₀ L m { s with heap := h, toks := tk } I oI C oC D (lst ys) (fun _ => True) R) E' s' else CompEnd h₀ L m { s with heap := h, toks := tk } I oI C oC D (lst ys) (fun _ => True) (fun _ nw => R0 nw) Value.none s') E' { s with heap := h, toks := tk })
    (fin : ∀ ys tl, PairsAt tl ys (jsOf μ) → (∀ p ∈ ext, p ∈ tl) → (∀ p ∈ tl, TupA p.2) → Fin ys (p1 :: p2 :: p3 :: p4 :: p5 :: p6 :: p7 :: tl)) (ht : ∀ p ∈ ext, TupA p.2) :
    CompRestT prog w A h₀ L m env ct elt x scope cl s (fun _ => True) (fun i v => ∃ t, v = .int (0 + (i : Int)) t) Fin 8 0 [] (p1 :: p2 :: p3 :: p4 :: p5 :: p6 :: p7 :: ext) :=
  mask_rest (fun tl => p1 :: p2 :: p3 :: p4 :: p5 :: p6 :: p7 :: tl) turn fin 8 0 [] ext rfl .nil (fun _ h => h) ht
theorem mask_end {h₀ h' : Heap} {L : Addr} {m : Str → Option Value} {s : Shared} {tk : Nat} {I C D a : Addr} {oI oC oD o : Obj} {p1 p2 p3 p4 p5 p6 p7 : Addr × Obj} {tl : List (Addr × Obj)} {R : Value → List (Addr × Obj) → Prop} {y : Value} (F : Fr h₀ L h' m) (N : News h₀ L h' ((a, o) :: (I, oI) :: (C, oC) :: (D, oD) :: p1 :: p2 :: p3 :: p4 :: p5 :: p6 :: p7 :: tl)) (off : Off3 I C D (p1 :: p2 :: p3 :: p4 :: p5 :: p6 :: p7 :: tl)) (hI : @Ne Nat I a) (hC : @Ne Nat C a) (hD : @Ne Nat D a) (hR : R y (p1 :: p2 :: p3 :: p4 :: p5 :: p6 :: p7 :: (a, o) :: tl)) :
    CompEnd h₀ L m s I oI C oC D oD (fun _ => True) R y { s with heap := h', toks := tk } :=
  ⟨h', tk, _, rfl, F, fun p hp => N p ((List.perm_middle (l₁ := [(I, oI), (C, oC), (D, oD), p1, p2, p3, p4, p5, p6, p7]) (l₂ := tl)).mem_iff.mp hp), off3_ins off (fun p hp => by
    have := (List.perm_middle (a := (a, o)) (l₁ := [p1, p2, p3, p4, p5, p6, p7]) (l₂ := tl)).mem_iff.mp hp
    exact List.mem_cons.mp this) hI hC hD, trivial, hR⟩
end
end Mine
end
section -- LAWD
namespace Mine
theorem offLAWD : True := by
  w_top off
  exact trivial
local macro_rules | `(tactic| k_all) => `(tactic| assumption)
noncomputable def lawD : Stage lawC.P := Stage.mk _ <| by
  w_top off
  intro hP9
  intro w9
  intros
  (with_reducible rename TreeAt _ _ _ => hTE)
  (rename ∀ (p : Addr × Obj), p ∈ _ → TupA p.2 => hext)
  (with_reducible rename News _ _ _ _ => N0)
  (with_reducible rename Fr _ _ _ _ => F0)
  (rename T => τ)
  have hμ := τ.mask_lt
  iterate 8 (first | (first | ((with_reducible show wpAny _ _ (eval (Expr.ListComp _ _ _ _) _) _ _ _); (k_here; k_dflt (refine LCt.ListComp_T (F₀ := by k_asm) (by with_unfolding_all rfl) (by decide) (by rfl) (by decide) (by rfl) ?_))) | (k_here; (with_reducible show wpAny _ _ (call (Value.ref 256) [_]) _ _ _); k_dflt (refine' word_c _ _ _ _ _ hi8 _ _ _ _ _ _ _ _ _ _ _ _ _ _ _ _ _ _ _ ?k1 ?k2 ?k3 ?k4 ?k5 ?kK ?kd ?ku ?_); (case k1 => k_asm); (case k2 => k_asm); (case k3 => k_asm); (case k4 => k_asm); (case k5 => k_asm); (case kK => exact rfl); (case kd => exact law_dp (by decide)); (case ku => exact law_un (by decide)); intro tS hS tkS FS NS; dsimp only) | walk1) | (dsimp only; (first | ((with_reducible show wpAny _ _ (eval (Expr.ListComp _ _ _ _) _) _ _ _); (k_here; k_dflt (refine LCt.ListComp_T (F₀ := by k_asm) (by with_unfolding_all rfl) (by decide) (by rfl) (by decide) (by rfl) ?_))) | (k_here; (with_reducible show wpAny _ _ (call (Value.ref 256) [_]) _ _ _); k_dflt (refine' word_c _ _ _ _ _ hi8 _ _ _ _ _ _ _ _ _ _ _ _ _ _ _ _ _ _ _ ?k1 ?k2 ?k3 ?k4 ?k5 ?kK ?kd ?ku ?_); (case k1 => k_asm); (case k2 => k_asm); (case k3 => k_asm); (case k4 => k_asm); (case k5 => k_asm); (case kK => exact rfl); (case kd => exact law_dp (by decide)); (case ku => exact law_un (by decide)); intro tS hS tkS FS NS; dsimp only) | walk1)))
  dsimp only
  (with_reducible rename IsRange _ _ _ _ _ _ _ _ => hR)
  (with_reducible rename News _ _ _ _ => N1)
  (with_reducible rename Fr _ _ _ _ => F1)
  refine LCt.CompSrcT.range (n := 8) (by rfl) F1 N1 hR (by decide) (rangeSize_nat 0 8) (by exact Nat.le_of_ble_eq_true rfl) ?_
  intro g9
  clear hR N1 F1
  refine mask_rest7 (μ := τ.mask) ?turn ?fin hext
  case turn =>
    intro i t ys tl hi8 I oI C oC D m₂ h tk E' R R0 hNs h1 F N off ne hR1 hR0
    have hi8z : ((i : Nat) : Int) < 8 := by omega
    have hi0z : (0 : Int) ≤ ((i : Nat) : Int) := by omega
    (repeat' (first | (k_unfold; (try dsimp only)) | (first | ((with_reducible show wpAny _ _ (eval (Expr.ListComp _ _ _ _) _) _ _ _); (k_here; k_dflt (refine LCt.ListComp_T (F₀ := by k_asm) (by with_unfolding_all rfl) (by decide) (by rfl) (by decide) (by rfl) ?_))) | (k_here; (with_reducible show wpAny _ _ (call (Value.ref 256) [_]) _ _ _); k_dflt (refine' word_c _ _ _ _ _ hi8 _ _ _ _ _ _ _ _ _ _ _ _ _ _ _ _ _ _ _ ?k1 ?k2 ?k3 ?k4 ?k5 ?kK ?kd ?ku ?_); (case k1 => k_asm); (case k2 => k_asm); (case k3 => k_asm); (case k4 => k_asm); (case k5 => k_asm); (case kK => exact rfl); (case kd => exact law_dp (by decide)); (case ku => exact law_un (by decide)); intro tS hS tkS FS NS; dsimp only) | walk1) | (dsimp only; (first | ((with_reducible show wpAny _ _ (eval (Expr.ListComp _ _ _ _) _) _ _ _); (k_here; k_dflt (refine LCt.ListComp_T (F₀ := by k_asm) (by with_unfolding_all rfl) (by decide) (by rfl) (by decide) (by rfl) ?_))) | (k_here; (with_reducible show wpAny _ _ (call (Value.ref 256) [_]) _ _ _); k_dflt (refine' word_c _ _ _ _ _ hi8 _ _ _ _ _ _ _ _ _ _ _ _ _ _ _ _ _ _ _ ?k1 ?k2 ?k3 ?k4 ?k5 ?kK ?kd ?ku ?_); (case k1 => k_asm); (case k2 => k_asm); (case k3 => k_asm); (case k4 => k_asm); (case k5 => k_asm); (case kK => exact rfl); (case kd => exact law_dp (by decide)); (case ku => exact law_un (by decide)); intro tS hS tkS FS NS; dsimp only) | walk1)) | (leave1; (try dsimp only))))
    · (with_reducible rename _ ≠ (0 : Int) => hb)
      (with_reducible rename Fr _ _ _ _ => F9)
      (with_reducible rename News _ _ _ ((_, _) :: (I, _) :: _) => N9)
      (rename @LT.lt Nat _ I _ ∧ _ => l9)
      rw [dig_str i hi8] at N9
      exact mask_end F9 N9 off (Nat.ne_of_lt l9.1) (Nat.ne_of_lt l9.2.1) (Nat.ne_of_lt l9.2.2.1) (hR1 (bit_ne hμ hi8 hb) _ 0 _ _)
    · (with_reducible rename _ = (0 : Int) => hb)
      exact ⟨h, _, _, rfl, F, N, off, trivial, hR0 ((bit_all _ hμ i hi8).mp hb)⟩
  case fin =>
    intro ys tl hps hsub htl D h tk F N off
    dsimp only
    have hTE2 := hTE.mono hsub
    (repeat (with_unfolding_none rename _ => z9; revert z9))
    exact fun h => h.h
end Mine
end
section -- LAWE0
namespace Mine
theorem offLAWE0 : True := by
  w_top off
  exact trivial
theorem int_dig : ∀ n, n < 8 → PySem.intText? (dig n) = some ((n : Nat) : Int) ∧ (dig n).length ≤ 640 := by decide +kernel
inductive AreL {α : Type} (Is : α → Value → Prop) : List Value → List α → Prop
  | nil : AreL Is [] []
  | cons {v : Value} {k : α} {vs : List Value} {ks : List α} : Is k v → AreL Is vs ks → AreL Is (v :: vs) (k :: ks)
theorem ints_digs {ws : List Value} {js : List Nat} (h : StrsAre ws (js.map dig)) (hj : ∀ j ∈ js, j < 8) : AreL (fun n v => n < 8 ∧ ∃ t, v = .str (dig n) t) ws js := by
  induction js generalizing ws with
  | nil => cases h; exact .nil
  | cons j js ih =>
    cases h with
    | cons y t r => exact .cons ⟨hj j (List.mem_cons_self ..), t, rfl⟩ (ih r fun k hk => hj k (List.mem_cons_of_mem _ hk))
theorem jsUp_lt {μ i : Nat} : ∀ j ∈ jsUp μ i, j < i := fun j hj => List.mem_range.mp (List.mem_filter.mp hj).1
section
open PyProof.Rows.LCg PySem.Spec PySem.Calls
theorem ints_rest {prog : Program} {w : World} {A : Around} {h₀ : Heap} {L : Addr} {m : Str → Option Value} {env : Env} {elt : PySem.Expr} {x : Str} {scope : Scope} {cl : List (Str × Addr)} {s : Shared} {S : List (Addr × Obj) → Prop} {Fin : List Value → List (Addr × Obj) → Prop} {its : Array Value} {α : Type} (Is : α → Value → Prop) (g : α → Int) {kall : List α} (nws : List (Addr × Obj))
    (turn : ∀ k v ys, Is k v → ∀ I oI C oC D m₂ h tk (E' : Value → Shared → Prop) (R : Value → List (Addr × Obj) → Prop), NsObj oC m₂ → m₂ x = some v → Fr h₀ L h m → News h₀ L h ((I, oI) :: (C, oC) :: (D, lst ys) :: nws) → Off3 I C D nws → ((@Ne Nat I C) ∧ (@Ne Nat I D) ∧ (@Ne Nat C D)) → (∀ t, R (.int (g k) t) nws) →
      wpAny (model prog w) A (eval elt (compEnvC scope cl C env)) (CompEnd h₀ L m { s with heap := h, toks := tk } I oI C oC D (lst ys) S R) E' { s with heap := h, toks := tk })
    (fin : ∀ ys, IntsAre ys (kall.map g) → Fin ys nws) :
    ∀ (vs : List Value) (ks done : List α) (pre ys : List Value), its.toList = pre ++ vs → AreL Is vs ks → done ++ ks = kall → IntsAre ys (done.map g) →
      CompRest prog w A h₀ L m env elt x scope cl s S (fun i v => its[i]? = some v) Fin vs.length pre.length ys nws := by
  intro vs
  induction vs with
  | nil =>
    intro ks done pre ys _ hp hd hy
    cases hp
    rw [List.append_nil] at hd
    exact CompRest.zero (fin ys (hd ▸ hy))
  | cons v vs ih =>
    intro ks done pre ys hi hp hd hy
    match hp with
    | .cons (k := k) (ks := ks') hv hr =>
      refine CompRest.succ fun v' I oI C oC D m₂ h tk E' hv' hNs h1 F N off ne => ?_
      have e : v' = v := by
        rw [← Array.getElem?_toList, hi, List.getElem?_append_right (Nat.le_refl _), Nat.sub_self] at hv'
        exact (Option.some.inj hv').symm
      subst e
      refine turn k v' ys hv I oI C oC D m₂ h tk E' _ hNs h1 F N off ne (fun t => ?_)
      have z := ih ks' (done ++ [k]) (pre ++ [v']) (ys ++ [.int (g k) t]) (by rw [hi, List.append_assoc]; rfl) hr (by rw [List.append_assoc]; exact hd) (by rw [List.map_append, List.map_singleton]; exact ints_snoc hy)
      rw [List.length_append, List.length_singleton] at z
      exact z
end
end Mine
end
section -- LAWE
namespace Mine
theorem offLAWE : True := by
  w_top off
  exact trivial
local macro_rules | `(tactic| k_all) => `(tactic| assumption)
noncomputable def lawE : Stage lawD.P := Stage.mk _ <| by
  w_top off
  intro hP9
  intro w9
  intros
  (rename T => τ)
  (with_reducible rename LCg.Off1 _ _ => off)
  (with_reducible rename News _ _ _ _ => N)
  (with_reducible rename Fr _ _ _ _ => F)
  (with_reducible rename PairsAt _ _ _ => hps)
  (with_reducible rename List Value => ys)
  obtain ⟨D, hD⟩ := nameL N
  subst hD
  iterate 3 (first | (first | ((with_reducible show wpAny _ _ (eval (Expr.ListComp _ _ _ _) _) _ _ _); (k_here; k_dflt (refine LCg.ListComp_U (F₀ := by k_asm) (by with_unfolding_all rfl) (by decide) (by rfl) (by decide) (by rfl) ?_))) | ((with_reducible show wpAny _ _ (call (Value.type "int") _) _ _ _); (k_here; k_dflt (refine KIN.call_text (int_dig n hn).1 (int_dig n hn).2 ?_))) | (k_here; (with_reducible show wpAny _ _ (call (Value.ref 153) [_, _]) _ _ _); k_dflt (refine' all_c _ _ _ _ hx hdd D tkk _ ys (jsOf τ.mask) ys.length _ ?m1 ?m2 ?m3 ?kp ?kl _ _ _ _ _ _ _ _ _ _ _ _ _ _ _ _ _ ?k1 ?k2 ?k3 ?k4 ?k5 ?kK ?kd ?ku ?_); (case k1 => k_asm); (case k2 => k_asm); (case k3 => k_asm); (case k4 => k_asm); (case k5 => k_asm); (case m1 => (repeat (first | assumption | exact List.mem_cons_self .. | refine List.mem_cons_of_mem _ ?_))); (case m2 => (repeat (first | assumption | exact List.mem_cons_self .. | refine List.mem_cons_of_mem _ ?_))); (case m3 => (repeat (first | assumption | exact List.mem_cons_self .. | refine List.mem_cons_of_mem _ ?_))); (case kK => exact rfl); (case kd => exact law_dp (by decide)); (case ku => exact law_un (by decide)); (case kp => exact hps.mono (fun p hp => by (repeat (first | assumption | exact List.mem_cons_self .. | refine List.mem_cons_of_mem _ ?_)))); (case kl => exact hps.len ▸ jsUp_len _ _); intro D3 ws hS tkS FS NS hws; dsimp only) | (k_here; (with_reducible show wpAny _ _ (call (Value.ref 214) [_]) _ _ _); k_dflt (refine' head_c _ _ _ _ _ ys (jsOf τ.mask) ys.length _ _ _ _ _ _ _ _ _ _ _ _ _ _ _ _ _ _ ?k1 ?k2 ?k3 ?k4 ?k5 ?kK ?kd ?ku ?kp ?kl ?_); (case k1 => k_asm); (case k2 => k_asm); (case k3 => k_asm); (case k4 => k_asm); (case k5 => k_asm); (case kK => exact rfl); (case kd => exact law_dp (by decide)); (case ku => exact law_un (by decide)); (case kp => exact hps.mono (fun p hp => by (repeat (first | assumption | exact List.mem_cons_self .. | refine List.mem_cons_of_mem _ ?_)))); (case kl => exact hps.len ▸ jsUp_len _ _); clear off N F; intro hx hdd tkk hS tkS FS NS; dsimp only) | walk1) | (dsimp only; (first | ((with_reducible show wpAny _ _ (eval (Expr.ListComp _ _ _ _) _) _ _ _); (k_here; k_dflt (refine LCg.ListComp_U (F₀ := by k_asm) (by with_unfolding_all rfl) (by decide) (by rfl) (by decide) (by rfl) ?_))) | ((with_reducible show wpAny _ _ (call (Value.type "int") _) _ _ _); (k_here; k_dflt (refine KIN.call_text (int_dig n hn).1 (int_dig n hn).2 ?_))) | (k_here; (with_reducible show wpAny _ _ (call (Value.ref 153) [_, _]) _ _ _); k_dflt (refine' all_c _ _ _ _ hx hdd D tkk _ ys (jsOf τ.mask) ys.length _ ?m1 ?m2 ?m3 ?kp ?kl _ _ _ _ _ _ _ _ _ _ _ _ _ _ _ _ _ ?k1 ?k2 ?k3 ?k4 ?k5 ?kK ?kd ?ku ?_); (case k1 => k_asm); (case k2 => k_asm); (case k3 => k_asm); (case k4 => k_asm); (case k5 => k_asm); (case m1 => (repeat (first | assumption | exact List.mem_cons_self .. | refine List.mem_cons_of_mem _ ?_))); (case m2 => (repeat (first | assumption | exact List.mem_cons_self .. | refine List.mem_cons_of_mem _ ?_))); (case m3 => (repeat (first | assumption | exact List.mem_cons_self .. | refine List.mem_cons_of_mem _ ?_))); (case kK => exact rfl); (case kd => exact law_dp (by decide)); (case ku => exact law_un (by decide)); (case kp => exact hps.mono (fun p hp => by (repeat (first | assumption | exact List.mem_cons_self .. | refine List.mem_cons_of_mem _ ?_)))); (case kl => exact hps.len ▸ jsUp_len _ _); intro D3 ws hS tkS FS NS hws; dsimp only) | (k_here; (with_reducible show wpAny _ _ (call (Value.ref 214) [_]) _ _ _); k_dflt (refine' head_c _ _ _ _ _ ys (jsOf τ.mask) ys.length _ _ _ _ _ _ _ _ _ _ _ _ _ _ _ _ _ _ ?k1 ?k2 ?k3 ?k4 ?k5 ?kK ?kd ?ku ?kp ?kl ?_); (case k1 => k_asm); (case k2 => k_asm); (case k3 => k_asm); (case k4 => k_asm); (case k5 => k_asm); (case kK => exact rfl); (case kd => exact law_dp (by decide)); (case ku => exact law_un (by decide)); (case kp => exact hps.mono (fun p hp => by (repeat (first | assumption | exact List.mem_cons_self .. | refine List.mem_cons_of_mem _ ?_)))); (case kl => exact hps.len ▸ jsUp_len _ _); clear off N F; intro hx hdd tkk hS tkS FS NS; dsimp only) | walk1)))
  repeat (first | ((fail_if_success (with_reducible show wpAny _ _ (eval (Expr.ListComp _ _ _ _) _) _ _ _)); (first | ((with_reducible show wpAny _ _ (eval (Expr.ListComp _ _ _ _) _) _ _ _); (k_here; k_dflt (refine LCg.ListComp_U (F₀ := by k_asm) (by with_unfolding_all rfl) (by decide) (by rfl) (by decide) (by rfl) ?_))) | ((with_reducible show wpAny _ _ (call (Value.type "int") _) _ _ _); (k_here; k_dflt (refine KIN.call_text (int_dig n hn).1 (int_dig n hn).2 ?_))) | (k_here; (with_reducible show wpAny _ _ (call (Value.ref 153) [_, _]) _ _ _); k_dflt (refine' all_c _ _ _ _ hx hdd D tkk _ ys (jsOf τ.mask) ys.length _ ?m1 ?m2 ?m3 ?kp ?kl _ _ _ _ _ _ _ _ _ _ _ _ _ _ _ _ _ ?k1 ?k2 ?k3 ?k4 ?k5 ?kK ?kd ?ku ?_); (case k1 => k_asm); (case k2 => k_asm); (case k3 => k_asm); (case k4 => k_asm); (case k5 => k_asm); (case m1 => (repeat (first | assumption | exact List.mem_cons_self .. | refine List.mem_cons_of_mem _ ?_))); (case m2 => (repeat (first | assumption | exact List.mem_cons_self .. | refine List.mem_cons_of_mem _ ?_))); (case m3 => (repeat (first | assumption | exact List.mem_cons_self .. | refine List.mem_cons_of_mem _ ?_))); (case kK => exact rfl); (case kd => exact law_dp (by decide)); (case ku => exact law_un (by decide)); (case kp => exact hps.mono (fun p hp => by (repeat (first | assumption | exact List.mem_cons_self .. | refine List.mem_cons_of_mem _ ?_)))); (case kl => exact hps.len ▸ jsUp_len _ _); intro D3 ws hS tkS FS NS hws; dsimp only) | (k_here; (with_reducible show wpAny _ _ (call (Value.ref 214) [_]) _ _ _); k_dflt (refine' head_c _ _ _ _ _ ys (jsOf τ.mask) ys.length _ _ _ _ _ _ _ _ _ _ _ _ _ _ _ _ _ _ ?k1 ?k2 ?k3 ?k4 ?k5 ?kK ?kd ?ku ?kp ?kl ?_); (case k1 => k_asm); (case k2 => k_asm); (case k3 => k_asm); (case k4 => k_asm); (case k5 => k_asm); (case kK => exact rfl); (case kd => exact law_dp (by decide)); (case ku => exact law_un (by decide)); (case kp => exact hps.mono (fun p hp => by (repeat (first | assumption | exact List.mem_cons_self .. | refine List.mem_cons_of_mem _ ?_)))); (case kl => exact hps.len ▸ jsUp_len _ _); clear off N F; intro hx hdd tkk hS tkS FS NS; dsimp only) | walk1)) | ((fail_if_success (with_reducible show wpAny _ _ (eval (Expr.ListComp _ _ _ _) _) _ _ _)); dsimp only; (first | ((with_reducible show wpAny _ _ (eval (Expr.ListComp _ _ _ _) _) _ _ _); (k_here; k_dflt (refine LCg.ListComp_U (F₀ := by k_asm) (by with_unfolding_all rfl) (by decide) (by rfl) (by decide) (by rfl) ?_))) | ((with_reducible show wpAny _ _ (call (Value.type "int") _) _ _ _); (k_here; k_dflt (refine KIN.call_text (int_dig n hn).1 (int_dig n hn).2 ?_))) | (k_here; (with_reducible show wpAny _ _ (call (Value.ref 153) [_, _]) _ _ _); k_dflt (refine' all_c _ _ _ _ hx hdd D tkk _ ys (jsOf τ.mask) ys.length _ ?m1 ?m2 ?m3 ?kp ?kl _ _ _ _ _ _ _ _ _ _ _ _ _ _ _ _ _ ?k1 ?k2 ?k3 ?k4 ?k5 ?kK ?kd ?ku ?_); (case k1 => k_asm); (case k2 => k_asm); (case k3 => k_asm); (case k4 => k_asm); (case k5 => k_asm); (case m1 => (repeat (first | assumption | exact List.mem_cons_self .. | refine List.mem_cons_of_mem _ ?_))); (case m2 => (repeat (first | assumption | exact List.mem_cons_self .. | refine List.mem_cons_of_mem _ ?_))); (case m3 => (repeat (first | assumption | exact List.mem_cons_self .. | refine List.mem_cons_of_mem _ ?_))); (case kK => exact rfl); (case kd => exact law_dp (by decide)); (case ku => exact law_un (by decide)); (case kp => exact hps.mono (fun p hp => by (repeat (first | assumption | exact List.mem_cons_self .. | refine List.mem_cons_of_mem _ ?_)))); (case kl => exact hps.len ▸ jsUp_len _ _); intro D3 ws hS tkS FS NS hws; dsimp only) | (k_here; (with_reducible show wpAny _ _ (call (Value.ref 214) [_]) _ _ _); k_dflt (refine' head_c _ _ _ _ _ ys (jsOf τ.mask) ys.length _ _ _ _ _ _ _ _ _ _ _ _ _ _ _ _ _ _ ?k1 ?k2 ?k3 ?k4 ?k5 ?kK ?kd ?ku ?kp ?kl ?_); (case k1 => k_asm); (case k2 => k_asm); (case k3 => k_asm); (case k4 => k_asm); (case k5 => k_asm); (case kK => exact rfl); (case kd => exact law_dp (by decide)); (case ku => exact law_un (by decide)); (case kp => exact hps.mono (fun p hp => by (repeat (first | assumption | exact List.mem_cons_self .. | refine List.mem_cons_of_mem _ ?_)))); (case kl => exact hps.len ▸ jsUp_len _ _); clear off N F; intro hx hdd tkk hS tkS FS NS; dsimp only) | walk1)))
  repeat ((fail_if_success (with_reducible show LCg.CompSrc _ _ _ _ _ _ _ _ _ _ _ _ _ _)); (first | (first | ((with_reducible show wpAny _ _ (eval (Expr.ListComp _ _ _ _) _) _ _ _); (k_here; k_dflt (refine LCg.ListComp_U (F₀ := by k_asm) (by with_unfolding_all rfl) (by decide) (by rfl) (by decide) (by rfl) ?_))) | ((with_reducible show wpAny _ _ (call (Value.type "int") _) _ _ _); (k_here; k_dflt (refine KIN.call_text (int_dig n hn).1 (int_dig n hn).2 ?_))) | (k_here; (with_reducible show wpAny _ _ (call (Value.ref 153) [_, _]) _ _ _); k_dflt (refine' all_c _ _ _ _ hx hdd D tkk _ ys (jsOf τ.mask) ys.length _ ?m1 ?m2 ?m3 ?kp ?kl _ _ _ _ _ _ _ _ _ _ _ _ _ _ _ _ _ ?k1 ?k2 ?k3 ?k4 ?k5 ?kK ?kd ?ku ?_); (case k1 => k_asm); (case k2 => k_asm); (case k3 => k_asm); (case k4 => k_asm); (case k5 => k_asm); (case m1 => (repeat (first | assumption | exact List.mem_cons_self .. | refine List.mem_cons_of_mem _ ?_))); (case m2 => (repeat (first | assumption | exact List.mem_cons_self .. | refine List.mem_cons_of_mem _ ?_))); (case m3 => (repeat (first | assumption | exact List.mem_cons_self .. | refine List.mem_cons_of_mem _ ?_))); (case kK => exact rfl); (case kd => exact law_dp (by decide)); (case ku => exact law_un (by decide)); (case kp => exact hps.mono (fun p hp => by (repeat (first | assumption | exact List.mem_cons_self .. | refine List.mem_cons_of_mem _ ?_)))); (case kl => exact hps.len ▸ jsUp_len _ _); intro D3 ws hS tkS FS NS hws; dsimp only) | (k_here; (with_reducible show wpAny _ _ (call (Value.ref 214) [_]) _ _ _); k_dflt (refine' head_c _ _ _ _ _ ys (jsOf τ.mask) ys.length _ _ _ _ _ _ _ _ _ _ _ _ _ _ _ _ _ _ ?k1 ?k2 ?k3 ?k4 ?k5 ?kK ?kd ?ku ?kp ?kl ?_); (case k1 => k_asm); (case k2 => k_asm); (case k3 => k_asm); (case k4 => k_asm); (case k5 => k_asm); (case kK => exact rfl); (case kd => exact law_dp (by decide)); (case ku => exact law_un (by decide)); (case kp => exact hps.mono (fun p hp => by (repeat (first | assumption | exact List.mem_cons_self .. | refine List.mem_cons_of_mem _ ?_)))); (case kl => exact hps.len ▸ jsUp_len _ _); clear off N F; intro hx hdd tkk hS tkS FS NS; dsimp only) | walk1) | (dsimp only; (first | ((with_reducible show wpAny _ _ (eval (Expr.ListComp _ _ _ _) _) _ _ _); (k_here; k_dflt (refine LCg.ListComp_U (F₀ := by k_asm) (by with_unfolding_all rfl) (by decide) (by rfl) (by decide) (by rfl) ?_))) | ((with_reducible show wpAny _ _ (call (Value.type "int") _) _ _ _); (k_here; k_dflt (refine KIN.call_text (int_dig n hn).1 (int_dig n hn).2 ?_))) | (k_here; (with_reducible show wpAny _ _ (call (Value.ref 153) [_, _]) _ _ _); k_dflt (refine' all_c _ _ _ _ hx hdd D tkk _ ys (jsOf τ.mask) ys.length _ ?m1 ?m2 ?m3 ?kp ?kl _ _ _ _ _ _ _ _ _ _ _ _ _ _ _ _ _ ?k1 ?k2 ?k3 ?k4 ?k5 ?kK ?kd ?ku ?_); (case k1 => k_asm); (case k2 => k_asm); (case k3 => k_asm); (case k4 => k_asm); (case k5 => k_asm); (case m1 => (repeat (first | assumption | exact List.mem_cons_self .. | refine List.mem_cons_of_mem _ ?_))); (case m2 => (repeat (first | assumption | exact List.mem_cons_self .. | refine List.mem_cons_of_mem _ ?_))); (case m3 => (repeat (first | assumption | exact List.mem_cons_self .. | refine List.mem_cons_of_mem _ ?_))); (case kK => exact rfl); (case kd => exact law_dp (by decide)); (case ku => exact law_un (by decide)); (case kp => exact hps.mono (fun p hp => by (repeat (first | assumption | exact List.mem_cons_self .. | refine List.mem_cons_of_mem _ ?_)))); (case kl => exact hps.len ▸ jsUp_len _ _); intro D3 ws hS tkS FS NS hws; dsimp only) | (k_here; (with_reducible show wpAny _ _ (call (Value.ref 214) [_]) _ _ _); k_dflt (refine' head_c _ _ _ _ _ ys (jsOf τ.mask) ys.length _ _ _ _ _ _ _ _ _ _ _ _ _ _ _ _ _ _ ?k1 ?k2 ?k3 ?k4 ?k5 ?kK ?kd ?ku ?kp ?kl ?_); (case k1 => k_asm); (case k2 => k_asm); (case k3 => k_asm); (case k4 => k_asm); (case k5 => k_asm); (case kK => exact rfl); (case kd => exact law_dp (by decide)); (case ku => exact law_un (by decide)); (case kp => exact hps.mono (fun p hp => by (repeat (first | assumption | exact List.mem_cons_self .. | refine List.mem_cons_of_mem _ ?_)))); (case kl => exact hps.len ▸ jsUp_len _ _); clear off N F; intro hx hdd tkk hS tkS FS NS; dsimp only) | walk1))))
  have hwl : ws.toArray.size ≤ sizeLine := by
    rw [List.size_toArray, hws.length, List.length_map]; exact Nat.le_trans (jsUp_len _ _) (Nat.le_of_ble_eq_true rfl)
  refine LCg.CompSrc.ledger (by rfl) FS NS (List.mem_cons_self ..) hwl ?_
  intro g'
  clear FS NS
  refine ints_rest (fun n v => n < 8 ∧ ∃ t, v = .str (dig n) t) (fun n => ((n : Nat) : Int)) (kall := jsOf τ.mask) _ ?turn ?fin ws (jsOf τ.mask) [] [] [] rfl (ints_digs hws jsUp_lt) rfl .nil
  case turn =>
    rintro n v ys ⟨hn, t, rfl⟩ I oI C oC D m₂ h tk E' R hNs h1 F N off ne hR
    (repeat' (first | (k_unfold; (try dsimp only)) | (first | ((with_reducible show wpAny _ _ (eval (Expr.ListComp _ _ _ _) _) _ _ _); (k_here; k_dflt (refine LCg.ListComp_U (F₀ := by k_asm) (by with_unfolding_all rfl) (by decide) (by rfl) (by decide) (by rfl) ?_))) | ((with_reducible show wpAny _ _ (call (Value.type "int") _) _ _ _); (k_here; k_dflt (refine KIN.call_text (int_dig n hn).1 (int_dig n hn).2 ?_))) | (k_here; (with_reducible show wpAny _ _ (call (Value.ref 153) [_, _]) _ _ _); k_dflt (refine' all_c _ _ _ _ hx hdd D tkk _ ys (jsOf τ.mask) ys.length _ ?m1 ?m2 ?m3 ?kp ?kl _ _ _ _ _ _ _ _ _ _ _ _ _ _ _ _ _ ?k1 ?k2 ?k3 ?k4 ?k5 ?kK ?kd ?ku ?_); (case k1 => k_asm); (case k2 => k_asm); (case k3 => k_asm); (case k4 => k_asm); (case k5 => k_asm); (case m1 => (repeat (first | assumption | exact List.mem_cons_self .. | refine List.mem_cons_of_mem _ ?_))); (case m2 => (repeat (first | assumption | exact List.mem_cons_self .. | refine List.mem_cons_of_mem _ ?_))); (case m3 => (repeat (first | assumption | exact List.mem_cons_self .. | refine List.mem_cons_of_mem _ ?_))); (case kK => exact rfl); (case kd => exact law_dp (by decide)); (case ku => exact law_un (by decide)); (case kp => exact hps.mono (fun p hp => by (repeat (first | assumption | exact List.mem_cons_self .. | refine List.mem_cons_of_mem _ ?_)))); (case kl => exact hps.len ▸ jsUp_len _ _); intro D3 ws hS tkS FS NS hws; dsimp only) | (k_here; (with_reducible show wpAny _ _ (call (Value.ref 214) [_]) _ _ _); k_dflt (refine' head_c _ _ _ _ _ ys (jsOf τ.mask) ys.length _ _ _ _ _ _ _ _ _ _ _ _ _ _ _ _ _ _ ?k1 ?k2 ?k3 ?k4 ?k5 ?kK ?kd ?ku ?kp ?kl ?_); (case k1 => k_asm); (case k2 => k_asm); (case k3 => k_asm); (case k4 => k_asm); (case k5 => k_asm); (case kK => exact rfl); (case kd => exact law_dp (by decide)); (case ku => exact law_un (by decide)); (case kp => exact hps.mono (fun p hp => by (repeat (first | assumption | exact List.mem_cons_self .. | refine List.mem_cons_of_mem _ ?_)))); (case kl => exact hps.len ▸ jsUp_len _ _); clear off N F; intro hx hdd tkk hS tkS FS NS; dsimp only) | walk1) | (dsimp only; (first | ((with_reducible show wpAny _ _ (eval (Expr.ListComp _ _ _ _) _) _ _ _); (k_here; k_dflt (refine LCg.ListComp_U (F₀ := by k_asm) (by with_unfolding_all rfl) (by decide) (by rfl) (by decide) (by rfl) ?_))) | ((with_reducible show wpAny _ _ (call (Value.type "int") _) _ _ _); (k_here; k_dflt (refine KIN.call_text (int_dig n hn).1 (int_dig n hn).2 ?_))) | (k_here; (with_reducible show wpAny _ _ (call (Value.ref 153) [_, _]) _ _ _); k_dflt (refine' all_c _ _ _ _ hx hdd D tkk _ ys (jsOf τ.mask) ys.length _ ?m1 ?m2 ?m3 ?kp ?kl _ _ _ _ _ _ _ _ _ _ _ _ _ _ _ _ _ ?k1 ?k2 ?k3 ?k4 ?k5 ?kK ?kd ?ku ?_); (case k1 => k_asm); (case k2 => k_asm); (case k3 => k_asm); (case k4 => k_asm); (case k5 => k_asm); (case m1 => (repeat (first | assumption | exact List.mem_cons_self .. | refine List.mem_cons_of_mem _ ?_))); (case m2 => (repeat (first | assumption | exact List.mem_cons_self .. | refine List.mem_cons_of_mem _ ?_))); (case m3 => (repeat (first | assumption | exact List.mem_cons_self .. | refine List.mem_cons_of_mem _ ?_))); (case kK => exact rfl); (case kd => exact law_dp (by decide)); (case ku => exact law_un (by decide)); (case kp => exact hps.mono (fun p hp => by (repeat (first | assumption | exact List.mem_cons_self .. | refine List.mem_cons_of_mem _ ?_)))); (case kl => exact hps.len ▸ jsUp_len _ _); intro D3 ws hS tkS FS NS hws; dsimp only) | (k_here; (with_reducible show wpAny _ _ (call (Value.ref 214) [_]) _ _ _); k_dflt (refine' head_c _ _ _ _ _ ys (jsOf τ.mask) ys.length _ _ _ _ _ _ _ _ _ _ _ _ _ _ _ _ _ _ ?k1 ?k2 ?k3 ?k4 ?k5 ?kK ?kd ?ku ?kp ?kl ?_); (case k1 => k_asm); (case k2 => k_asm); (case k3 => k_asm); (case k4 => k_asm); (case k5 => k_asm); (case kK => exact rfl); (case kd => exact law_dp (by decide)); (case ku => exact law_un (by decide)); (case kp => exact hps.mono (fun p hp => by (repeat (first | assumption | exact List.mem_cons_self .. | refine List.mem_cons_of_mem _ ?_)))); (case kl => exact hps.len ▸ jsUp_len _ _); clear off N F; intro hx hdd tkk hS tkS FS NS; dsimp only) | walk1)) | (leave1; (try dsimp only))))
    exact ⟨_, _, _, rfl, F, N, off, .inr ⟨_, List.mem_cons_self .., rfl, _, rfl⟩, hR _⟩
  case fin =>
    intro hs hhs D4 h tk F N off
    dsimp only
    (repeat (with_unfolding_none rename _ => z9; revert z9))
    exact fun h => h.h
end Mine
end
section -- LAWF0
namespace Mine
theorem offLAWF0 : True := by
  w_top off
  exact trivial
inductive UpdD (d : Addr) (o : Obj) : List (Addr × Obj) → (Obj → List (Addr × Obj)) → Prop
  | head {r : List (Addr × Obj)} : CellD o → (∀ p ∈ r, ¬ CellD p.2 ∨ p.1 ≠ d) → UpdD d o ((d, o) :: r) (fun o' => (d, o') :: r)
  | tail {p : Addr × Obj} {r : List (Addr × Obj)} {g : Obj → List (Addr × Obj)} : (¬ CellD p.2 ∨ p.1 ≠ d) → UpdD d o r g → UpdD d o (p :: r) (fun o' => p :: g o')
theorem UpdD.at {d : Addr} {o : Obj} {l : List (Addr × Obj)} {g : Obj → List (Addr × Obj)} (U : UpdD d o l g) : CellD o ∧ (d, o) ∈ l := by
  induction U with
  | head h _ => exact ⟨h, List.mem_cons_self ..⟩
  | tail _ _ ih => exact ⟨ih.1, List.mem_cons_of_mem _ ih.2⟩
theorem UpdD.toF' {h₀ h : Heap} {L d : Addr} {o : Obj} (hd : h.get? d = some o) (ho : CellD o) {l : List (Addr × Obj)} {g : Obj → List (Addr × Obj)} (U : UpdD d o l g) (N : News h₀ L h l) : UpdF d o l g := by
  have ne : ∀ p : Addr × Obj, h.get? p.1 = some p.2 → (¬ CellD p.2 ∨ p.1 ≠ d) → p.1 ≠ d := by
    rintro p hp (h1 | h1) e
    · rw [e, hd] at hp
      exact h1 (Option.some.inj hp ▸ ho)
    · exact h1 e
  induction U with
  | head _ h => exact .head fun p hp => ne p (N p (List.mem_cons_of_mem _ hp)).1 (h p hp)
  | tail h _ ih => exact .tail (ne _ (N _ (List.mem_cons_self ..)).1 h) (ih fun p hp => N p (List.mem_cons_of_mem _ hp))
theorem UpdD.toF {h₀ h : Heap} {L d : Addr} {o : Obj} {l : List (Addr × Obj)} {g : Obj → List (Addr × Obj)} (N : News h₀ L h l) (U : UpdD d o l g) : UpdF d o l g := U.toF' (N _ U.at.2).1 U.at.1 N
theorem TupA.noC {o : Obj} (h : TupA o) : ¬ CellD o := fun ⟨v, hv⟩ => by obtain ⟨vs, n, e⟩ := h; rw [e] at hv; cases hv
theorem noC_tl {tl : List (Addr × Obj)} {d : Addr} (h : ∀ p ∈ tl, TupA p.2) : ∀ p ∈ tl, ¬ CellD p.2 ∨ p.1 ≠ d := fun p hp => .inl (h p hp).noC
theorem noC_of {p : Addr × Obj} {d : Addr} (h : ∀ v, p.2.data ≠ .cell v) : ¬ CellD p.2 ∨ p.1 ≠ d := .inl fun ⟨v, hv⟩ => h v hv
end Mine
end
section -- LAWF
namespace Mine
theorem offLAWF : True := by
  w_top off
  exact trivial
local macro_rules | `(tactic| k_all) => `(tactic| assumption)
local macro_rules | `(tactic| walk_at "noC") => `(tactic| first | exact noC_of (by intro v hv; cases hv) | exact Or.inr (by k_ne))
local macro_rules | `(tactic| walk_at "noCs") => `(tactic| first | exact noC_tl (by assumption) | (refine List.forall_mem_cons.mpr ⟨by walk_at "noC", ?_⟩; walk_at "noCs"))
local macro_rules | `(tactic| walk_at "updD") => `(tactic| first | (refine' UpdD.head ⟨_, by assumption⟩ ?h; (case h => walk_at "noCs")) | (refine' UpdD.tail ?a ?b; (case a => walk_at "noC"); (case b => walk_at "updD")))
local macro_rules | `(tactic| k_updF) => `(tactic| (refine' UpdD.toF ?N ?U; (case N => assumption); (case U => walk_at "updD")))
noncomputable def lawF : Stage lawE.P := Stage.mk _ <| by
  w_top off
  intro hP9
  intro w9
  intros
  (rename T => τ)
  (with_reducible rename News _ _ _ _ => N)
  (with_reducible rename Fr _ _ _ _ => F)
  (with_reducible rename TreeAt _ _ _ => hTE)
  (with_reducible rename τ.lv ≤ _ => hlv)
  iterate 6 (try ((with_reducible rename ∀ (p : Addr × Obj), p ∈ _ → p.1 ≠ _ => z9); clear z9))
  iterate 6 (try ((with_reducible rename LCg.Off1 _ _ => z9); clear z9))
  iterate 3 (try ((rename @LT.lt Nat _ _ _ ∧ _ => z9); clear z9))
  try ((rename ∀ (p : Addr × Obj), p ∈ _ → p ∈ _ => z9); clear z9)
  (with_reducible rename GMore _ _ => hG)
  repeat (first | ((fail_if_success (with_reducible show wpAny _ _ (eval (Expr.ListComp _ _ _ _) _) _ _ _)); (first | (k_here; (with_reducible show wpAny _ _ (call (Value.ref 251) [_]) _ _ _); k_dflt (refine' waves_c _ _ _ _ τ _ _ _ _ _ _ _ _ _ _ _ _ _ _ _ _ _ _ _ ?k1 ?k2 ?k3 ?k4 ?k5 ?kK ?kd ?ku ?kT ?_); (case k1 => k_asm); (case k2 => k_asm); (case k3 => k_asm); (case k4 => k_asm); (case k5 => k_asm); (case kK => exact rfl); (case kd => exact law_dp (by omega)); (case ku => exact law_un (by omega)); (case kT => exact TreeAt.mono (fun p hp => by (repeat (first | assumption | exact List.mem_cons_self .. | refine List.mem_cons_of_mem _ ?_))) hTE); intro DS vS kS hS tkS gS IS FS NS OS GS; dsimp only) | walk1)) | ((fail_if_success (with_reducible show wpAny _ _ (eval (Expr.ListComp _ _ _ _) _) _ _ _)); dsimp only; (first | (k_here; (with_reducible show wpAny _ _ (call (Value.ref 251) [_]) _ _ _); k_dflt (refine' waves_c _ _ _ _ τ _ _ _ _ _ _ _ _ _ _ _ _ _ _ _ _ _ _ _ ?k1 ?k2 ?k3 ?k4 ?k5 ?kK ?kd ?ku ?kT ?_); (case k1 => k_asm); (case k2 => k_asm); (case k3 => k_asm); (case k4 => k_asm); (case k5 => k_asm); (case kK => exact rfl); (case kd => exact law_dp (by omega)); (case ku => exact law_un (by omega)); (case kT => exact TreeAt.mono (fun p hp => by (repeat (first | assumption | exact List.mem_cons_self .. | refine List.mem_cons_of_mem _ ?_))) hTE); intro DS vS kS hS tkS gS IS FS NS OS GS; dsimp only) | walk1)))
  have hG2 := GMore.trans hG GS
  try dsimp only at hG2
  clear hG GS
  (repeat (with_unfolding_none rename _ => z9; revert z9))
  exact fun h => h.h
end Mine
end
section -- LAWG0
namespace Mine
theorem offLAWG0 : True := by
  w_top off
  exact trivial
noncomputable abbrev onesI (n : Int) : Int := Int.fmod n 2 + Int.fmod (Int.fdiv n 2) 2 + Int.fdiv n 4
noncomputable def sgnI (j : Nat) (u : Int) : Int := 1 - Int.fmod (onesI (Builtin.bitAnd ((j : Nat) : Int) u)) 2 * 2
noncomputable def heldS (μ : Nat) (u : Int) : Int := ((jsOf μ).map fun j => sgnI j u).sum
theorem held_wv : ∀ μ, μ < 256 → (rangeKs 0 8).map (heldS μ) = WV μ := by decide +kernel
theorem and_lt8 {j : Nat} {u : Int} (hj : j < 8) (h0 : 0 ≤ u) (h8 : u < 8) : 0 ≤ Builtin.bitAnd ((j : Nat) : Int) u ∧ Builtin.bitAnd ((j : Nat) : Int) u < 8 := by
  have e2 : u = ((u.toNat : Nat) : Int) := by omega
  rw [e2, bAnd]
  have h : j &&& u.toNat ≤ j := Nat.and_le_left
  omega
theorem are_ints {hs : List Value} {js : List Nat} (h : IntsAre hs (js.map fun n => ((n : Nat) : Int))) (hj : ∀ j ∈ js, j < 8) : AreL (fun n v => n < 8 ∧ ∃ t, v = .int ((n : Nat) : Int) t) hs js := by
  induction js generalizing hs with
  | nil => cases h; exact .nil
  | cons j js ih =>
    cases h with
    | cons y t r => exact .cons ⟨hj j (List.mem_cons_self ..), t, rfl⟩ (ih r fun k hk => hj k (List.mem_cons_of_mem _ hk))
theorem held_size {hs : List Value} {μ : Nat} (h : IntsAre hs ((jsOf μ).map fun n => ((n : Nat) : Int))) : hs.toArray.size ≤ sizeLine := by
  rw [List.size_toArray, h.length, List.length_map]; exact Nat.le_trans (jsUp_len _ _) (Nat.le_of_ble_eq_true rfl)
end Mine
end
section -- LAWG
namespace Mine
theorem offLAWG : True := by
  w_top off
  exact trivial
local macro_rules | `(tactic| k_all) => `(tactic| assumption)
local macro_rules | `(tactic| walk_at "noC") => `(tactic| first | exact noC_of (by intro v hv; cases hv) | exact Or.inr (by k_ne))
local macro_rules | `(tactic| walk_at "noCs") => `(tactic| first | exact noC_tl (by assumption) | (refine List.forall_mem_cons.mpr ⟨by walk_at "noC", ?_⟩; walk_at "noCs"))
local macro_rules | `(tactic| walk_at "updD") => `(tactic| first | (refine' UpdD.head ⟨_, by assumption⟩ ?h; (case h => walk_at "noCs")) | (refine' UpdD.tail ?a ?b; (case a => walk_at "noC"); (case b => walk_at "updD")))
local macro_rules | `(tactic| k_updF) => `(tactic| (refine' UpdD.toF ?N ?U; (case N => assumption); (case U => walk_at "updD")))
noncomputable def lawG : Stage lawF.P := Stage.mk _ <| by
  w_top off
  intro hP9
  intro w9
  intros
  (rename T => τ)
  (with_reducible rename News _ _ _ _ => N)
  (with_reducible rename Fr _ _ _ _ => F)
  (with_reducible rename IntsAre _ (List.map _ (jsOf _)) => hhs)
  (with_reducible rename PairsAt _ _ _ => hps)
  repeat ((fail_if_success (with_reducible show SrcC _ _ _ _ _ _ _ _ _ _ _ _ _ _)); (first | (first | (k_here; (with_reducible show wpAny _ _ (call (Value.ref 166) _) _ _ _); k_dflt (refine' keys_c _ _ _ _ _ _ _ _ _ (jsOf τ.mask) _ _ ?m1 ?m2 ?m3 ?kp ?kl _ _ _ _ _ _ _ _ _ _ _ _ _ _ _ _ _ ?k1 ?k2 ?k3 ?k4 ?k5 ?kK ?kd ?ku ?_); (case k1 => k_asm); (case k2 => k_asm); (case k3 => k_asm); (case k4 => k_asm); (case k5 => k_asm); (case m1 => (repeat (first | assumption | exact List.mem_cons_self .. | refine List.mem_cons_of_mem _ ?_))); (case m2 => (repeat (first | assumption | exact List.mem_cons_self .. | refine List.mem_cons_of_mem _ ?_))); (case m3 => (repeat (first | assumption | exact List.mem_cons_self .. | refine List.mem_cons_of_mem _ ?_))); (case kK => exact rfl); (case kd => exact law_dp (by decide)); (case ku => exact law_un (by decide)); (case kp => exact hps.mono (fun p hp => by (repeat (first | assumption | exact List.mem_cons_self .. | refine List.mem_cons_of_mem _ ?_)))); (case kl => exact hps.len ▸ jsUp_len _ _); intro DW ww hS tkS FS NS hww; dsimp only) | (k_here; (with_reducible show wpAny _ _ (call (Value.ref 263) [_]) _ _ _); k_dflt (refine' ones_c _ _ _ _ _ _ ?p0 ?p8 _ _ _ _ _ _ _ _ _ _ _ _ _ _ _ _ _ _ ?k1 ?k2 ?k3 ?k4 ?k5 ?kK ?kd ?ku ?_); (case p0 => first | assumption | exact (and_lt8 (by assumption) (by assumption) (by assumption)).1); (case p8 => first | assumption | exact (and_lt8 (by assumption) (by assumption) (by assumption)).2); (case k1 => k_asm); (case k2 => k_asm); (case k3 => k_asm); (case k4 => k_asm); (case k5 => k_asm); (case kK => exact rfl); (case kd => exact law_dp (by decide)); (case ku => exact law_un (by decide)); intro tS hS tkS FS NS; dsimp only) | (k_here; (with_reducible show wpAny _ _ (call (Value.builtin "sum") [Value.ref _]) _ _ _); k_dflt (refine' sumN ?k0 ?k1 ?k2 ?k3 ?k4 ?_; (case k0 => rfl); (case k1 => k_asm); (case k2 => k_asm); (case k3 => k_mem); (case k4 => assumption)); intro h' tk' t' F' N') | ((fail_if_success (with_reducible show wpAny _ _ _ _ _ _)); (unfold TurnC; intro I' oI' C' oC' c' oc' D' m' ys' h' tk' E' hC' hcd' F' N' off' ne' hMark'; clear ne'; (try dsimp only))) | ((with_reducible show wpAny _ _ (eval (Expr.ListComp _ _ _ _) _) _ _ _); (k_here; k_dflt (first | refine LCg.ListComp_U (F₀ := by k_asm) (by with_unfolding_all rfl) (by decide) (by rfl) (by decide) (by rfl) ?_ | refine ListComp_C (F₀ := by k_asm) (by with_unfolding_all rfl) (by intro n; rfl) (by intro h; rfl) (by rfl) (by decide) (by rfl) ?_))) | walk1) | (dsimp only; (first | (k_here; (with_reducible show wpAny _ _ (call (Value.ref 166) _) _ _ _); k_dflt (refine' keys_c _ _ _ _ _ _ _ _ _ (jsOf τ.mask) _ _ ?m1 ?m2 ?m3 ?kp ?kl _ _ _ _ _ _ _ _ _ _ _ _ _ _ _ _ _ ?k1 ?k2 ?k3 ?k4 ?k5 ?kK ?kd ?ku ?_); (case k1 => k_asm); (case k2 => k_asm); (case k3 => k_asm); (case k4 => k_asm); (case k5 => k_asm); (case m1 => (repeat (first | assumption | exact List.mem_cons_self .. | refine List.mem_cons_of_mem _ ?_))); (case m2 => (repeat (first | assumption | exact List.mem_cons_self .. | refine List.mem_cons_of_mem _ ?_))); (case m3 => (repeat (first | assumption | exact List.mem_cons_self .. | refine List.mem_cons_of_mem _ ?_))); (case kK => exact rfl); (case kd => exact law_dp (by decide)); (case ku => exact law_un (by decide)); (case kp => exact hps.mono (fun p hp => by (repeat (first | assumption | exact List.mem_cons_self .. | refine List.mem_cons_of_mem _ ?_)))); (case kl => exact hps.len ▸ jsUp_len _ _); intro DW ww hS tkS FS NS hww; dsimp only) | (k_here; (with_reducible show wpAny _ _ (call (Value.ref 263) [_]) _ _ _); k_dflt (refine' ones_c _ _ _ _ _ _ ?p0 ?p8 _ _ _ _ _ _ _ _ _ _ _ _ _ _ _ _ _ _ ?k1 ?k2 ?k3 ?k4 ?k5 ?kK ?kd ?ku ?_); (case p0 => first | assumption | exact (and_lt8 (by assumption) (by assumption) (by assumption)).1); (case p8 => first | assumption | exact (and_lt8 (by assumption) (by assumption) (by assumption)).2); (case k1 => k_asm); (case k2 => k_asm); (case k3 => k_asm); (case k4 => k_asm); (case k5 => k_asm); (case kK => exact rfl); (case kd => exact law_dp (by decide)); (case ku => exact law_un (by decide)); intro tS hS tkS FS NS; dsimp only) | (k_here; (with_reducible show wpAny _ _ (call (Value.builtin "sum") [Value.ref _]) _ _ _); k_dflt (refine' sumN ?k0 ?k1 ?k2 ?k3 ?k4 ?_; (case k0 => rfl); (case k1 => k_asm); (case k2 => k_asm); (case k3 => k_mem); (case k4 => assumption)); intro h' tk' t' F' N') | ((fail_if_success (with_reducible show wpAny _ _ _ _ _ _)); (unfold TurnC; intro I' oI' C' oC' c' oc' D' m' ys' h' tk' E' hC' hcd' F' N' off' ne' hMark'; clear ne'; (try dsimp only))) | ((with_reducible show wpAny _ _ (eval (Expr.ListComp _ _ _ _) _) _ _ _); (k_here; k_dflt (first | refine LCg.ListComp_U (F₀ := by k_asm) (by with_unfolding_all rfl) (by decide) (by rfl) (by decide) (by rfl) ?_ | refine ListComp_C (F₀ := by k_asm) (by with_unfolding_all rfl) (by intro n; rfl) (by intro h; rfl) (by rfl) (by decide) (by rfl) ?_))) | walk1))))
  dsimp only
  (with_reducible rename IsRange _ _ _ _ _ _ _ _ => hR)
  (with_reducible rename News _ _ _ _ => N1)
  (with_reducible rename Fr _ _ _ _ => F1)
  refine' SrcC.r8 (heldS τ.mask) ?r0 F1 N1 hR (fun g' u tu hlo hhi => ?turn) (fun g' ys9 hI9 => ?fin)
  case r0 => rfl
  case turn =>
    clear F1 N1 hR
    (unfold TurnC; intro I' oI' C' oC' c' oc' D' m' ys' h' tk' E' hC' hcd' F' N' off' ne' hMark'; clear ne'; (try dsimp only))
    repeat ((fail_if_success (with_reducible show LCg.CompSrc _ _ _ _ _ _ _ _ _ _ _ _ _ _)); (first | (first | (k_here; (with_reducible show wpAny _ _ (call (Value.ref 166) _) _ _ _); k_dflt (refine' keys_c _ _ _ _ _ _ _ _ _ (jsOf τ.mask) _ _ ?m1 ?m2 ?m3 ?kp ?kl _ _ _ _ _ _ _ _ _ _ _ _ _ _ _ _ _ ?k1 ?k2 ?k3 ?k4 ?k5 ?kK ?kd ?ku ?_); (case k1 => k_asm); (case k2 => k_asm); (case k3 => k_asm); (case k4 => k_asm); (case k5 => k_asm); (case m1 => (repeat (first | assumption | exact List.mem_cons_self .. | refine List.mem_cons_of_mem _ ?_))); (case m2 => (repeat (first | assumption | exact List.mem_cons_self .. | refine List.mem_cons_of_mem _ ?_))); (case m3 => (repeat (first | assumption | exact List.mem_cons_self .. | refine List.mem_cons_of_mem _ ?_))); (case kK => exact rfl); (case kd => exact law_dp (by decide)); (case ku => exact law_un (by decide)); (case kp => exact hps.mono (fun p hp => by (repeat (first | assumption | exact List.mem_cons_self .. | refine List.mem_cons_of_mem _ ?_)))); (case kl => exact hps.len ▸ jsUp_len _ _); intro DW ww hS tkS FS NS hww; dsimp only) | (k_here; (with_reducible show wpAny _ _ (call (Value.ref 263) [_]) _ _ _); k_dflt (refine' ones_c _ _ _ _ _ _ ?p0 ?p8 _ _ _ _ _ _ _ _ _ _ _ _ _ _ _ _ _ _ ?k1 ?k2 ?k3 ?k4 ?k5 ?kK ?kd ?ku ?_); (case p0 => first | assumption | exact (and_lt8 (by assumption) (by assumption) (by assumption)).1); (case p8 => first | assumption | exact (and_lt8 (by assumption) (by assumption) (by assumption)).2); (case k1 => k_asm); (case k2 => k_asm); (case k3 => k_asm); (case k4 => k_asm); (case k5 => k_asm); (case kK => exact rfl); (case kd => exact law_dp (by decide)); (case ku => exact law_un (by decide)); intro tS hS tkS FS NS; dsimp only) | (k_here; (with_reducible show wpAny _ _ (call (Value.builtin "sum") [Value.ref _]) _ _ _); k_dflt (refine' sumN ?k0 ?k1 ?k2 ?k3 ?k4 ?_; (case k0 => rfl); (case k1 => k_asm); (case k2 => k_asm); (case k3 => k_mem); (case k4 => assumption)); intro h' tk' t' F' N') | ((fail_if_success (with_reducible show wpAny _ _ _ _ _ _)); (unfold TurnC; intro I' oI' C' oC' c' oc' D' m' ys' h' tk' E' hC' hcd' F' N' off' ne' hMark'; clear ne'; (try dsimp only))) | ((with_reducible show wpAny _ _ (eval (Expr.ListComp _ _ _ _) _) _ _ _); (k_here; k_dflt (first | refine LCg.ListComp_U (F₀ := by k_asm) (by with_unfolding_all rfl) (by decide) (by rfl) (by decide) (by rfl) ?_ | refine ListComp_C (F₀ := by k_asm) (by with_unfolding_all rfl) (by intro n; rfl) (by intro h; rfl) (by rfl) (by decide) (by rfl) ?_))) | walk1) | (dsimp only; (first | (k_here; (with_reducible show wpAny _ _ (call (Value.ref 166) _) _ _ _); k_dflt (refine' keys_c _ _ _ _ _ _ _ _ _ (jsOf τ.mask) _ _ ?m1 ?m2 ?m3 ?kp ?kl _ _ _ _ _ _ _ _ _ _ _ _ _ _ _ _ _ ?k1 ?k2 ?k3 ?k4 ?k5 ?kK ?kd ?ku ?_); (case k1 => k_asm); (case k2 => k_asm); (case k3 => k_asm); (case k4 => k_asm); (case k5 => k_asm); (case m1 => (repeat (first | assumption | exact List.mem_cons_self .. | refine List.mem_cons_of_mem _ ?_))); (case m2 => (repeat (first | assumption | exact List.mem_cons_self .. | refine List.mem_cons_of_mem _ ?_))); (case m3 => (repeat (first | assumption | exact List.mem_cons_self .. | refine List.mem_cons_of_mem _ ?_))); (case kK => exact rfl); (case kd => exact law_dp (by decide)); (case ku => exact law_un (by decide)); (case kp => exact hps.mono (fun p hp => by (repeat (first | assumption | exact List.mem_cons_self .. | refine List.mem_cons_of_mem _ ?_)))); (case kl => exact hps.len ▸ jsUp_len _ _); intro DW ww hS tkS FS NS hww; dsimp only) | (k_here; (with_reducible show wpAny _ _ (call (Value.ref 263) [_]) _ _ _); k_dflt (refine' ones_c _ _ _ _ _ _ ?p0 ?p8 _ _ _ _ _ _ _ _ _ _ _ _ _ _ _ _ _ _ ?k1 ?k2 ?k3 ?k4 ?k5 ?kK ?kd ?ku ?_); (case p0 => first | assumption | exact (and_lt8 (by assumption) (by assumption) (by assumption)).1); (case p8 => first | assumption | exact (and_lt8 (by assumption) (by assumption) (by assumption)).2); (case k1 => k_asm); (case k2 => k_asm); (case k3 => k_asm); (case k4 => k_asm); (case k5 => k_asm); (case kK => exact rfl); (case kd => exact law_dp (by decide)); (case ku => exact law_un (by decide)); intro tS hS tkS FS NS; dsimp only) | (k_here; (with_reducible show wpAny _ _ (call (Value.builtin "sum") [Value.ref _]) _ _ _); k_dflt (refine' sumN ?k0 ?k1 ?k2 ?k3 ?k4 ?_; (case k0 => rfl); (case k1 => k_asm); (case k2 => k_asm); (case k3 => k_mem); (case k4 => assumption)); intro h' tk' t' F' N') | ((fail_if_success (with_reducible show wpAny _ _ _ _ _ _)); (unfold TurnC; intro I' oI' C' oC' c' oc' D' m' ys' h' tk' E' hC' hcd' F' N' off' ne' hMark'; clear ne'; (try dsimp only))) | ((with_reducible show wpAny _ _ (eval (Expr.ListComp _ _ _ _) _) _ _ _); (k_here; k_dflt (first | refine LCg.ListComp_U (F₀ := by k_asm) (by with_unfolding_all rfl) (by decide) (by rfl) (by decide) (by rfl) ?_ | refine ListComp_C (F₀ := by k_asm) (by with_unfolding_all rfl) (by intro n; rfl) (by intro h; rfl) (by rfl) (by decide) (by rfl) ?_))) | walk1))))
    try dsimp only
    (with_reducible rename News _ _ _ _ => N2)
    (with_reducible rename Fr _ _ _ _ => F2)
    refine LCg.CompSrc.ledger (its := List.toArray _) (by rfl) F2 N2 (by (repeat (first | assumption | exact List.mem_cons_self .. | refine List.mem_cons_of_mem _ ?_))) (held_size hhs) ?_
    intro g2
    clear N2 F2
    refine ints_rest (fun n v => n < 8 ∧ ∃ t, v = .int ((n : Nat) : Int) t) (fun j => sgnI j u) (kall := jsOf τ.mask) _ ?turn2 ?fin2 _ (jsOf τ.mask) [] [] [] rfl (are_ints hhs jsUp_lt) rfl .nil
    case turn2 =>
      rintro n v ys ⟨hn, t, rfl⟩ I oI C oC D m₂ h tk E' R hNs h1 F N off ne hR
      clear ne
      (repeat' (first | (k_unfold; (try dsimp only)) | ((first | (k_here; (with_reducible show wpAny _ _ (call (Value.ref 166) _) _ _ _); k_dflt (refine' keys_c _ _ _ _ _ _ _ _ _ (jsOf τ.mask) _ _ ?m1 ?m2 ?m3 ?kp ?kl _ _ _ _ _ _ _ _ _ _ _ _ _ _ _ _ _ ?k1 ?k2 ?k3 ?k4 ?k5 ?kK ?kd ?ku ?_); (case k1 => k_asm); (case k2 => k_asm); (case k3 => k_asm); (case k4 => k_asm); (case k5 => k_asm); (case m1 => (repeat (first | assumption | exact List.mem_cons_self .. | refine List.mem_cons_of_mem _ ?_))); (case m2 => (repeat (first | assumption | exact List.mem_cons_self .. | refine List.mem_cons_of_mem _ ?_))); (case m3 => (repeat (first | assumption | exact List.mem_cons_self .. | refine List.mem_cons_of_mem _ ?_))); (case kK => exact rfl); (case kd => exact law_dp (by decide)); (case ku => exact law_un (by decide)); (case kp => exact hps.mono (fun p hp => by (repeat (first | assumption | exact List.mem_cons_self .. | refine List.mem_cons_of_mem _ ?_)))); (case kl => exact hps.len ▸ jsUp_len _ _); intro DW ww hS tkS FS NS hww; dsimp only) | (k_here; (with_reducible show wpAny _ _ (call (Value.ref 263) [_]) _ _ _); k_dflt (refine' ones_c _ _ _ _ _ _ ?p0 ?p8 _ _ _ _ _ _ _ _ _ _ _ _ _ _ _ _ _ _ ?k1 ?k2 ?k3 ?k4 ?k5 ?kK ?kd ?ku ?_); (case p0 => first | assumption | exact (and_lt8 (by assumption) (by assumption) (by assumption)).1); (case p8 => first | assumption | exact (and_lt8 (by assumption) (by assumption) (by assumption)).2); (case k1 => k_asm); (case k2 => k_asm); (case k3 => k_asm); (case k4 => k_asm); (case k5 => k_asm); (case kK => exact rfl); (case kd => exact law_dp (by decide)); (case ku => exact law_un (by decide)); intro tS hS tkS FS NS; dsimp only) | (k_here; (with_reducible show wpAny _ _ (call (Value.builtin "sum") [Value.ref _]) _ _ _); k_dflt (refine' sumN ?k0 ?k1 ?k2 ?k3 ?k4 ?_; (case k0 => rfl); (case k1 => k_asm); (case k2 => k_asm); (case k3 => k_mem); (case k4 => assumption)); intro h' tk' t' F' N') | ((fail_if_success (with_reducible show wpAny _ _ _ _ _ _)); (unfold TurnC; intro I' oI' C' oC' c' oc' D' m' ys' h' tk' E' hC' hcd' F' N' off' ne' hMark'; clear ne'; (try dsimp only))) | ((with_reducible show wpAny _ _ (eval (Expr.ListComp _ _ _ _) _) _ _ _); (k_here; k_dflt (first | refine LCg.ListComp_U (F₀ := by k_asm) (by with_unfolding_all rfl) (by decide) (by rfl) (by decide) (by rfl) ?_ | refine ListComp_C (F₀ := by k_asm) (by with_unfolding_all rfl) (by intro n; rfl) (by intro h; rfl) (by rfl) (by decide) (by rfl) ?_))) | walk1); (try dsimp only)) | (dsimp only; (first | (k_here; (with_reducible show wpAny _ _ (call (Value.ref 166) _) _ _ _); k_dflt (refine' keys_c _ _ _ _ _ _ _ _ _ (jsOf τ.mask) _ _ ?m1 ?m2 ?m3 ?kp ?kl _ _ _ _ _ _ _ _ _ _ _ _ _ _ _ _ _ ?k1 ?k2 ?k3 ?k4 ?k5 ?kK ?kd ?ku ?_); (case k1 => k_asm); (case k2 => k_asm); (case k3 => k_asm); (case k4 => k_asm); (case k5 => k_asm); (case m1 => (repeat (first | assumption | exact List.mem_cons_self .. | refine List.mem_cons_of_mem _ ?_))); (case m2 => (repeat (first | assumption | exact List.mem_cons_self .. | refine List.mem_cons_of_mem _ ?_))); (case m3 => (repeat (first | assumption | exact List.mem_cons_self .. | refine List.mem_cons_of_mem _ ?_))); (case kK => exact rfl); (case kd => exact law_dp (by decide)); (case ku => exact law_un (by decide)); (case kp => exact hps.mono (fun p hp => by (repeat (first | assumption | exact List.mem_cons_self .. | refine List.mem_cons_of_mem _ ?_)))); (case kl => exact hps.len ▸ jsUp_len _ _); intro DW ww hS tkS FS NS hww; dsimp only) | (k_here; (with_reducible show wpAny _ _ (call (Value.ref 263) [_]) _ _ _); k_dflt (refine' ones_c _ _ _ _ _ _ ?p0 ?p8 _ _ _ _ _ _ _ _ _ _ _ _ _ _ _ _ _ _ ?k1 ?k2 ?k3 ?k4 ?k5 ?kK ?kd ?ku ?_); (case p0 => first | assumption | exact (and_lt8 (by assumption) (by assumption) (by assumption)).1); (case p8 => first | assumption | exact (and_lt8 (by assumption) (by assumption) (by assumption)).2); (case k1 => k_asm); (case k2 => k_asm); (case k3 => k_asm); (case k4 => k_asm); (case k5 => k_asm); (case kK => exact rfl); (case kd => exact law_dp (by decide)); (case ku => exact law_un (by decide)); intro tS hS tkS FS NS; dsimp only) | (k_here; (with_reducible show wpAny _ _ (call (Value.builtin "sum") [Value.ref _]) _ _ _); k_dflt (refine' sumN ?k0 ?k1 ?k2 ?k3 ?k4 ?_; (case k0 => rfl); (case k1 => k_asm); (case k2 => k_asm); (case k3 => k_mem); (case k4 => assumption)); intro h' tk' t' F' N') | ((fail_if_success (with_reducible show wpAny _ _ _ _ _ _)); (unfold TurnC; intro I' oI' C' oC' c' oc' D' m' ys' h' tk' E' hC' hcd' F' N' off' ne' hMark'; clear ne'; (try dsimp only))) | ((with_reducible show wpAny _ _ (eval (Expr.ListComp _ _ _ _) _) _ _ _); (k_here; k_dflt (first | refine LCg.ListComp_U (F₀ := by k_asm) (by with_unfolding_all rfl) (by decide) (by rfl) (by decide) (by rfl) ?_ | refine ListComp_C (F₀ := by k_asm) (by with_unfolding_all rfl) (by intro n; rfl) (by intro h; rfl) (by rfl) (by decide) (by rfl) ?_))) | walk1)) | (leave1; (try dsimp only))))
      exact ⟨_, _, _, rfl, FS, NS, off, .inr ⟨_, by (repeat (first | assumption | exact List.mem_cons_self .. | refine List.mem_cons_of_mem _ ?_)), rfl, _, rfl⟩, hR _⟩
    case fin2 =>
      intro ys hys D h tk F N off
      dsimp only
      (repeat' (first | (k_unfold; (try dsimp only)) | ((first | (k_here; (with_reducible show wpAny _ _ (call (Value.ref 166) _) _ _ _); k_dflt (refine' keys_c _ _ _ _ _ _ _ _ _ (jsOf τ.mask) _ _ ?m1 ?m2 ?m3 ?kp ?kl _ _ _ _ _ _ _ _ _ _ _ _ _ _ _ _ _ ?k1 ?k2 ?k3 ?k4 ?k5 ?kK ?kd ?ku ?_); (case k1 => k_asm); (case k2 => k_asm); (case k3 => k_asm); (case k4 => k_asm); (case k5 => k_asm); (case m1 => (repeat (first | assumption | exact List.mem_cons_self .. | refine List.mem_cons_of_mem _ ?_))); (case m2 => (repeat (first | assumption | exact List.mem_cons_self .. | refine List.mem_cons_of_mem _ ?_))); (case m3 => (repeat (first | assumption | exact List.mem_cons_self .. | refine List.mem_cons_of_mem _ ?_))); (case kK => exact rfl); (case kd => exact law_dp (by decide)); (case ku => exact law_un (by decide)); (case kp => exact hps.mono (fun p hp => by (repeat (first | assumption | exact List.mem_cons_self .. | refine List.mem_cons_of_mem _ ?_)))); (case kl => exact hps.len ▸ jsUp_len _ _); intro DW ww hS tkS FS NS hww; dsimp only) | (k_here; (with_reducible show wpAny _ _ (call (Value.ref 263) [_]) _ _ _); k_dflt (refine' ones_c _ _ _ _ _ _ ?p0 ?p8 _ _ _ _ _ _ _ _ _ _ _ _ _ _ _ _ _ _ ?k1 ?k2 ?k3 ?k4 ?k5 ?kK ?kd ?ku ?_); (case p0 => first | assumption | exact (and_lt8 (by assumption) (by assumption) (by assumption)).1); (case p8 => first | assumption | exact (and_lt8 (by assumption) (by assumption) (by assumption)).2); (case k1 => k_asm); (case k2 => k_asm); (case k3 => k_asm); (case k4 => k_asm); (case k5 => k_asm); (case kK => exact rfl); (case kd => exact law_dp (by decide)); (case ku => exact law_un (by decide)); intro tS hS tkS FS NS; dsimp only) | (k_here; (with_reducible show wpAny _ _ (call (Value.builtin "sum") [Value.ref _]) _ _ _); k_dflt (refine' sumN ?k0 ?k1 ?k2 ?k3 ?k4 ?_; (case k0 => rfl); (case k1 => k_asm); (case k2 => k_asm); (case k3 => k_mem); (case k4 => assumption)); intro h' tk' t' F' N') | ((fail_if_success (with_reducible show wpAny _ _ _ _ _ _)); (unfold TurnC; intro I' oI' C' oC' c' oc' D' m' ys' h' tk' E' hC' hcd' F' N' off' ne' hMark'; clear ne'; (try dsimp only))) | ((with_reducible show wpAny _ _ (eval (Expr.ListComp _ _ _ _) _) _ _ _); (k_here; k_dflt (first | refine LCg.ListComp_U (F₀ := by k_asm) (by with_unfolding_all rfl) (by decide) (by rfl) (by decide) (by rfl) ?_ | refine ListComp_C (F₀ := by k_asm) (by with_unfolding_all rfl) (by intro n; rfl) (by intro h; rfl) (by rfl) (by decide) (by rfl) ?_))) | walk1); (try dsimp only)) | (dsimp only; (first | (k_here; (with_reducible show wpAny _ _ (call (Value.ref 166) _) _ _ _); k_dflt (refine' keys_c _ _ _ _ _ _ _ _ _ (jsOf τ.mask) _ _ ?m1 ?m2 ?m3 ?kp ?kl _ _ _ _ _ _ _ _ _ _ _ _ _ _ _ _ _ ?k1 ?k2 ?k3 ?k4 ?k5 ?kK ?kd ?ku ?_); (case k1 => k_asm); (case k2 => k_asm); (case k3 => k_asm); (case k4 => k_asm); (case k5 => k_asm); (case m1 => (repeat (first | assumption | exact List.mem_cons_self .. | refine List.mem_cons_of_mem _ ?_))); (case m2 => (repeat (first | assumption | exact List.mem_cons_self .. | refine List.mem_cons_of_mem _ ?_))); (case m3 => (repeat (first | assumption | exact List.mem_cons_self .. | refine List.mem_cons_of_mem _ ?_))); (case kK => exact rfl); (case kd => exact law_dp (by decide)); (case ku => exact law_un (by decide)); (case kp => exact hps.mono (fun p hp => by (repeat (first | assumption | exact List.mem_cons_self .. | refine List.mem_cons_of_mem _ ?_)))); (case kl => exact hps.len ▸ jsUp_len _ _); intro DW ww hS tkS FS NS hww; dsimp only) | (k_here; (with_reducible show wpAny _ _ (call (Value.ref 263) [_]) _ _ _); k_dflt (refine' ones_c _ _ _ _ _ _ ?p0 ?p8 _ _ _ _ _ _ _ _ _ _ _ _ _ _ _ _ _ _ ?k1 ?k2 ?k3 ?k4 ?k5 ?kK ?kd ?ku ?_); (case p0 => first | assumption | exact (and_lt8 (by assumption) (by assumption) (by assumption)).1); (case p8 => first | assumption | exact (and_lt8 (by assumption) (by assumption) (by assumption)).2); (case k1 => k_asm); (case k2 => k_asm); (case k3 => k_asm); (case k4 => k_asm); (case k5 => k_asm); (case kK => exact rfl); (case kd => exact law_dp (by decide)); (case ku => exact law_un (by decide)); intro tS hS tkS FS NS; dsimp only) | (k_here; (with_reducible show wpAny _ _ (call (Value.builtin "sum") [Value.ref _]) _ _ _); k_dflt (refine' sumN ?k0 ?k1 ?k2 ?k3 ?k4 ?_; (case k0 => rfl); (case k1 => k_asm); (case k2 => k_asm); (case k3 => k_mem); (case k4 => assumption)); intro h' tk' t' F' N') | ((fail_if_success (with_reducible show wpAny _ _ _ _ _ _)); (unfold TurnC; intro I' oI' C' oC' c' oc' D' m' ys' h' tk' E' hC' hcd' F' N' off' ne' hMark'; clear ne'; (try dsimp only))) | ((with_reducible show wpAny _ _ (eval (Expr.ListComp _ _ _ _) _) _ _ _); (k_here; k_dflt (first | refine LCg.ListComp_U (F₀ := by k_asm) (by with_unfolding_all rfl) (by decide) (by rfl) (by decide) (by rfl) ?_ | refine ListComp_C (F₀ := by k_asm) (by with_unfolding_all rfl) (by intro n; rfl) (by intro h; rfl) (by rfl) (by decide) (by rfl) ?_))) | walk1)) | (leave1; (try dsimp only))))
      exact ⟨rfl, _, rfl⟩
  case fin =>
    rw [held_wv _ (by assumption)] at hI9
    intro D9 h tk F N off
    dsimp only
    clear off
    repeat (first | ((fail_if_success (with_reducible show wpAny _ _ (eval (Expr.ListComp _ _ _ _) _) _ _ _)); (first | (k_here; (with_reducible show wpAny _ _ (call (Value.ref 166) _) _ _ _); k_dflt (refine' keys_c _ _ _ _ _ _ _ _ _ (jsOf τ.mask) _ _ ?m1 ?m2 ?m3 ?kp ?kl _ _ _ _ _ _ _ _ _ _ _ _ _ _ _ _ _ ?k1 ?k2 ?k3 ?k4 ?k5 ?kK ?kd ?ku ?_); (case k1 => k_asm); (case k2 => k_asm); (case k3 => k_asm); (case k4 => k_asm); (case k5 => k_asm); (case m1 => (repeat (first | assumption | exact List.mem_cons_self .. | refine List.mem_cons_of_mem _ ?_))); (case m2 => (repeat (first | assumption | exact List.mem_cons_self .. | refine List.mem_cons_of_mem _ ?_))); (case m3 => (repeat (first | assumption | exact List.mem_cons_self .. | refine List.mem_cons_of_mem _ ?_))); (case kK => exact rfl); (case kd => exact law_dp (by decide)); (case ku => exact law_un (by decide)); (case kp => exact hps.mono (fun p hp => by (repeat (first | assumption | exact List.mem_cons_self .. | refine List.mem_cons_of_mem _ ?_)))); (case kl => exact hps.len ▸ jsUp_len _ _); intro DW ww hS tkS FS NS hww; dsimp only) | (k_here; (with_reducible show wpAny _ _ (call (Value.ref 263) [_]) _ _ _); k_dflt (refine' ones_c _ _ _ _ _ _ ?p0 ?p8 _ _ _ _ _ _ _ _ _ _ _ _ _ _ _ _ _ _ ?k1 ?k2 ?k3 ?k4 ?k5 ?kK ?kd ?ku ?_); (case p0 => first | assumption | exact (and_lt8 (by assumption) (by assumption) (by assumption)).1); (case p8 => first | assumption | exact (and_lt8 (by assumption) (by assumption) (by assumption)).2); (case k1 => k_asm); (case k2 => k_asm); (case k3 => k_asm); (case k4 => k_asm); (case k5 => k_asm); (case kK => exact rfl); (case kd => exact law_dp (by decide)); (case ku => exact law_un (by decide)); intro tS hS tkS FS NS; dsimp only) | (k_here; (with_reducible show wpAny _ _ (call (Value.builtin "sum") [Value.ref _]) _ _ _); k_dflt (refine' sumN ?k0 ?k1 ?k2 ?k3 ?k4 ?_; (case k0 => rfl); (case k1 => k_asm); (case k2 => k_asm); (case k3 => k_mem); (case k4 => assumption)); intro h' tk' t' F' N') | ((fail_if_success (with_reducible show wpAny _ _ _ _ _ _)); (unfold TurnC; intro I' oI' C' oC' c' oc' D' m' ys' h' tk' E' hC' hcd' F' N' off' ne' hMark'; clear ne'; (try dsimp only))) | ((with_reducible show wpAny _ _ (eval (Expr.ListComp _ _ _ _) _) _ _ _); (k_here; k_dflt (first | refine LCg.ListComp_U (F₀ := by k_asm) (by with_unfolding_all rfl) (by decide) (by rfl) (by decide) (by rfl) ?_ | refine ListComp_C (F₀ := by k_asm) (by with_unfolding_all rfl) (by intro n; rfl) (by intro h; rfl) (by rfl) (by decide) (by rfl) ?_))) | walk1)) | ((fail_if_success (with_reducible show wpAny _ _ (eval (Expr.ListComp _ _ _ _) _) _ _ _)); dsimp only; (first | (k_here; (with_reducible show wpAny _ _ (call (Value.ref 166) _) _ _ _); k_dflt (refine' keys_c _ _ _ _ _ _ _ _ _ (jsOf τ.mask) _ _ ?m1 ?m2 ?m3 ?kp ?kl _ _ _ _ _ _ _ _ _ _ _ _ _ _ _ _ _ ?k1 ?k2 ?k3 ?k4 ?k5 ?kK ?kd ?ku ?_); (case k1 => k_asm); (case k2 => k_asm); (case k3 => k_asm); (case k4 => k_asm); (case k5 => k_asm); (case m1 => (repeat (first | assumption | exact List.mem_cons_self .. | refine List.mem_cons_of_mem _ ?_))); (case m2 => (repeat (first | assumption | exact List.mem_cons_self .. | refine List.mem_cons_of_mem _ ?_))); (case m3 => (repeat (first | assumption | exact List.mem_cons_self .. | refine List.mem_cons_of_mem _ ?_))); (case kK => exact rfl); (case kd => exact law_dp (by decide)); (case ku => exact law_un (by decide)); (case kp => exact hps.mono (fun p hp => by (repeat (first | assumption | exact List.mem_cons_self .. | refine List.mem_cons_of_mem _ ?_)))); (case kl => exact hps.len ▸ jsUp_len _ _); intro DW ww hS tkS FS NS hww; dsimp only) | (k_here; (with_reducible show wpAny _ _ (call (Value.ref 263) [_]) _ _ _); k_dflt (refine' ones_c _ _ _ _ _ _ ?p0 ?p8 _ _ _ _ _ _ _ _ _ _ _ _ _ _ _ _ _ _ ?k1 ?k2 ?k3 ?k4 ?k5 ?kK ?kd ?ku ?_); (case p0 => first | assumption | exact (and_lt8 (by assumption) (by assumption) (by assumption)).1); (case p8 => first | assumption | exact (and_lt8 (by assumption) (by assumption) (by assumption)).2); (case k1 => k_asm); (case k2 => k_asm); (case k3 => k_asm); (case k4 => k_asm); (case k5 => k_asm); (case kK => exact rfl); (case kd => exact law_dp (by decide)); (case ku => exact law_un (by decide)); intro tS hS tkS FS NS; dsimp only) | (k_here; (with_reducible show wpAny _ _ (call (Value.builtin "sum") [Value.ref _]) _ _ _); k_dflt (refine' sumN ?k0 ?k1 ?k2 ?k3 ?k4 ?_; (case k0 => rfl); (case k1 => k_asm); (case k2 => k_asm); (case k3 => k_mem); (case k4 => assumption)); intro h' tk' t' F' N') | ((fail_if_success (with_reducible show wpAny _ _ _ _ _ _)); (unfold TurnC; intro I' oI' C' oC' c' oc' D' m' ys' h' tk' E' hC' hcd' F' N' off' ne' hMark'; clear ne'; (try dsimp only))) | ((with_reducible show wpAny _ _ (eval (Expr.ListComp _ _ _ _) _) _ _ _); (k_here; k_dflt (first | refine LCg.ListComp_U (F₀ := by k_asm) (by with_unfolding_all rfl) (by decide) (by rfl) (by decide) (by rfl) ?_ | refine ListComp_C (F₀ := by k_asm) (by with_unfolding_all rfl) (by intro n; rfl) (by intro h; rfl) (by rfl) (by decide) (by rfl) ?_))) | walk1)))
    (repeat (with_unfolding_none rename _ => z9; revert z9))
    exact fun h => h.h
end Mine
end
section -- LAWH0
namespace Mine
theorem offLAWH0 : True := by
  w_top off
  exact trivial
theorem law_shrink {h₀ h : Heap} {L : Addr} {p1 p2 p3 p4 p5 p6 p7 p8 p9 p10 c6 c5 c4 c3 c2 c1 : Addr × Obj} {tl : List (Addr × Obj)} (N : News h₀ L h (p1 :: p2 :: p3 :: p4 :: p5 :: p6 :: p7 :: p8 :: p9 :: p10 :: c6 :: c5 :: c4 :: c3 :: c2 :: c1 :: tl)) : News h₀ L h [p1, p4, c6, c5, c4, c3, c2, c1] := fun p hp => N p (by
  simp only [List.mem_cons, List.not_mem_nil, or_false] at hp ⊢
  rcases hp with h | h | h | h | h | h | h | h <;> simp [h])
theorem words_len {vs : List Value} {μ : Nat} (h : StrsAre vs ((jsOf μ).map wordS)) : vs.length ≤ sizeLine := by
  rw [h.length, List.length_map]; exact Nat.le_trans (jsUp_len _ _) (Nat.le_of_ble_eq_true rfl)
noncomputable def pc (p q : Nat) : Int := ((popc (p ^^^ q) : Nat) : Int)
noncomputable def waysUp (js : List Nat) (i : Nat) : List Int := (List.range i).flatMap fun p => (js.take p).map fun q => pc (js.getD p 0) q
theorem waysUp_succ (js : List Nat) (i : Nat) : waysUp js (i + 1) = waysUp js i ++ (js.take i).map fun q => pc (js.getD i 0) q := by
  unfold waysUp
  rw [List.range_succ, List.flatMap_append]
  simp
theorem waysUp_len {js : List Nat} (h : js.length ≤ 8) (i : Nat) : (waysUp js i).length ≤ 8 * i := by
  induction i with
  | zero => exact Nat.le_refl 0
  | succ i ih =>
    rw [waysUp_succ, List.length_append, List.length_map, List.length_take]
    omega
theorem strs_at {js : List Nat} : ∀ {vs : List Value} (_ : StrsAre vs (js.map wordS)) {i : Nat} {v : Value}, vs[i]? = some v → i < js.length ∧ ∃ t, v = .str (wordS (js.getD i 0)) t := by
  induction js with
  | nil => intro vs h i v hv; cases h; simp at hv
  | cons j js ih =>
    intro vs h i v hv
    cases h with
    | cons y t r =>
      cases i with
      | zero => simp at hv; exact ⟨Nat.succ_pos _, t, hv.symm⟩
      | succ i =>
        obtain ⟨h1, u, h2⟩ := ih r (i := i) (v := v) (by simpa using hv)
        exact ⟨Nat.succ_lt_succ h1, u, by simpa using h2⟩
theorem jsUp_nodup (μ i : Nat) : (jsUp μ i).Nodup := List.Pairwise.filter _ List.nodup_range
section
open PyProof.Rows.LCg PySem.Spec PySem.Calls
variable {prog : Program} {w : World} {A : Around} {E : Value → Shared → Prop} {s : Shared} {h₀ : Heap} {L : Addr} {m : Str → Option Value} {env : Env}
theorem pend_mono {s₂ s₅ : Shared} {all : List (Addr × Obj)} {R R' : Value → Prop} {z : Value} (h : PEnd h₀ L m s₂ all R z s₅) (hr : R z → R' z) : PEnd h₀ L m s₂ all R' z s₅ :=
  let ⟨h', tk, e, F, N, r⟩ := h; ⟨h', tk, e, F, N, hr r⟩
theorem ways_two {elt it1 : PySem.Expr} {a b c : Str} {scope : Scope} {cl : List (Str × Addr)} {news : List (Addr × Obj)} {s₂ : Shared} {vs : List Value} {js : List Nat}
    (hvs : StrsAre vs (js.map wordS)) (hj8 : ∀ j ∈ js, j < 8) (hnd : js.Nodup) (hlen : js.length ≤ 8)
    (slice : ∀ (i : Nat) t ys own C oC D m₂ h tk (E' : Value → Shared → Prop) (Q : Value → Shared → Prop), i < 8 → NsObj oC m₂ → m₂ a = some (.int ((i : Nat) : Int) t) → Fr h₀ L h m → News h₀ L h ((C, oC) :: (D, lst ys) :: (news ++ own)) →
      (∀ l h' tk', Fr h₀ L h' m → News h₀ L h' ((l, listOf (vs.take i).toArray 0) :: (C, oC) :: (D, lst ys) :: (news ++ own)) → (∀ p ∈ ((C, oC) :: (D, lst ys) :: (news ++ own)), @LT.lt Nat _ p.1 l) → Q (.ref l) { s₂ with heap := h', toks := tk' }) →
      wpAny (model prog w) A (eval it1 (compEnvC scope cl C env)) Q E' { s₂ with heap := h, toks := tk })
    (turn : ∀ (p q : Nat) t u I oI l lo C oC D zs own m₃ h tk (E' : Value → Shared → Prop), p < 8 → q < 8 → p ≠ q → NsObj oC m₃ → m₃ c = some (.str (wordS q) u) → m₃ b = some (.str (wordS p) t) → Fr h₀ L h m → News h₀ L h ((I, oI) :: (l, lo) :: (C, oC) :: (D, lst zs) :: (news ++ own)) →
      wpAny (model prog w) A (eval elt (compEnvC scope cl C env)) (PEnd h₀ L m s₂ ((I, oI) :: (l, lo) :: (C, oC) :: (D, lst zs) :: (news ++ own)) fun z => ∃ t, z = .int (pc p q) t) E' { s₂ with heap := h, toks := tk }) :
    TurnTwo prog w A h₀ L m (fun C => compEnvC scope cl C env) elt it1 a b c vs.length (fun i x y => (∃ t, x = .int ((i : Nat) : Int) t) ∧ vs[i]? = some y) (fun i ys => IntsAre ys (waysUp js i)) news s₂ := by
  rintro i x y ys own C oC D m₂ h tk E' hi ⟨⟨t, rfl⟩, hy⟩ hJ hNs ha hb F N
  have hvl : vs.length = js.length := by rw [hvs.length, List.length_map]
  obtain ⟨hij, u, rfl⟩ := strs_at hvs hy
  have hmem : ∀ k, k < js.length → js.getD k 0 ∈ js := fun k hk => by rw [List.getD_eq_getElem?_getD, List.getElem?_eq_getElem hk]; exact List.getElem_mem hk
  refine slice i t ys own C oC D m₂ h tk E' _ (by omega) hNs ha F N fun l h' tk' F' N' hlt => ?_
  have hts : (vs.take i).toArray.size = i := by rw [List.size_toArray, List.length_take]; omega
  refine ⟨l, (vs.take i).toArray, 0, h', tk', fun j zs => IntsAre zs (waysUp js i ++ (js.take j).map fun q => pc (js.getD i 0) q), rfl, rfl, F', N', fun p hp => Nat.ne_of_lt (hlt p hp), ?_, by simpa using hJ, ?_, ?_, ?_⟩
  · rw [hts]; exact Nat.le_trans (by omega) (show 8 ≤ sizeLine from Nat.le_of_ble_eq_true rfl)
  · intro j zs hj hz
    rw [hts] at hj
    rw [hz.length, List.length_append, List.length_map, List.length_take]
    have := waysUp_len hlen i
    exact Nat.le_trans (show _ ≤ 100 by omega) (Nat.le_of_ble_eq_true rfl)
  · intro zs hz
    rw [hts] at hz
    show IntsAre zs (waysUp js (i + 1))
    rw [waysUp_succ]
    exact hz
  · intro j v zs I oI oC' m₃ h tk E' hv hz hNs' hc ha' hb' F N
    have hv2 : (vs.take i)[j]? = some v := by simpa using hv
    have hj : j < i := by
      have := (List.getElem?_eq_some_iff.mp hv2).1
      rw [List.length_take] at this
      omega
    rw [List.getElem?_take_of_lt hj] at hv2
    obtain ⟨hjj, u2, rfl⟩ := strs_at hvs hv2
    have hne : js.getD i 0 ≠ js.getD j 0 := by
      rw [List.getD_eq_getElem?_getD, List.getD_eq_getElem?_getD, List.getElem?_eq_getElem hij, List.getElem?_eq_getElem hjj]
      intro e
      exact (List.pairwise_iff_getElem.mp hnd) j i hjj hij hj e.symm
    refine wpAny_mono (turn (js.getD i 0) (js.getD j 0) u u2 I oI l _ C oC' D zs own m₃ h tk E' (hj8 _ (hmem i hij)) (hj8 _ (hmem j hjj)) hne hNs' hc hb' F N) (fun z s₅ h₅ => pend_mono h₅ ?_) fun _ _ e => e
    rintro ⟨t9, rfl⟩
    have e : (js.take (j + 1)).map (fun q => pc (js.getD i 0) q) = (js.take j).map (fun q => pc (js.getD i 0) q) ++ [pc (js.getD i 0) (js.getD j 0)] := by
      rw [List.take_add_one, List.getElem?_eq_getElem hjj, List.map_append, List.getD_eq_getElem?_getD (i := j), List.getElem?_eq_getElem hjj]
      rfl
    show IntsAre _ (_ ++ (js.take (j + 1)).map _)
    rw [e, ← List.append_assoc]
    exact ints_snoc hz
end
section
variable {prog : Program} {w : World} {A : Around} {E : Value → Shared → Prop} {s : Shared} {h₀ : Heap} {L l : Addr} {m : Str → Option Value} {news : List (Addr × Obj)} {value slice : PySem.Expr} {vs : List Value} {i : Nat} {t : Tok} {Q : Value → Shared → Prop}
theorem slice_take (F : Fr h₀ L s.heap m) (N : News h₀ L s.heap news) (hm : (l, LCg.lst vs) ∈ news) (hz : vs.length ≤ sizeLine)
    (h : ∀ D h', Fr h₀ L h' m → News h₀ L h' ((D, listOf (vs.take i).toArray 0) :: news) → (∀ p ∈ news, @LT.lt Nat _ p.1 D) → Q (.ref D) { s with heap := h' })
    (hs : subscripted slice false (.ref l) (.ref s.heap.objs.size) = operate [.ref s.heap.objs.size, .ref l] (getItem (.ref l) (.ref s.heap.objs.size))) (ht : ∀ r, letTemporaryGo value (.ref l) r = pure ()) :
    wpAny (model prog w) A (subscriptTail value slice (.ref l) (.ref s.heap.objs.size)) Q E { s with heap := s.heap.push { cls := .type "slice", data := .fields #[.none, .int ((i : Nat) : Int) t, .none] } } := by
  refine kmk_slice (its := vs.toArray) F N ⟨_, (N _ hm).1, rfl, _, rfl⟩ .none (.int _ _) (fun D h' F' N' hl => h D h' F' ?_ hl) hs ht (by rw [List.size_toArray]; exact hz)
  have e : sliceBounds none (some ((i : Nat) : Int)) none vs.toArray.size = (((0 : Nat) : Int), ((min i vs.toArray.size : Nat) : Int), 1) := by
    simp only [sliceBounds, Option.getD_none, show (1 : Int) > 0 by decide, if_true, if_neg (show ¬ (((i : Nat) : Int) < 0) by omega)]
    congr 1
    congr 1
    omega
  rw [kmk_pick_nat _ e] at N'
  have e2 : (vs.drop 0).take (min i vs.toArray.size - 0) = vs.take i := by
    rw [List.drop_zero, Nat.sub_zero, List.size_toArray, kmk_take_min]
  rw [show (vs.toArray.toList.drop 0) = vs.drop 0 from rfl, e2] at N'
  exact N'
theorem slice_take2 {h : Heap} {g : Array GenState} {d : Drawn} {tk : Nat} {o : OsState} (F : Fr h₀ L h m) (N : News h₀ L h news) (hm : (l, LCg.lst vs) ∈ news) (hz : vs.length ≤ sizeLine)
    (hh : ∀ D h', Fr h₀ L h' m → News h₀ L h' ((D, listOf (vs.take i).toArray 0) :: news) → (∀ p ∈ news, @LT.lt Nat _ p.1 D) → Q (.ref D) { heap := h', gens := g, drawn := d, toks := tk, os := o })
    (hs : subscripted slice false (.ref l) (.ref h.objs.size) = operate [.ref h.objs.size, .ref l] (getItem (.ref l) (.ref h.objs.size))) (ht : ∀ r, letTemporaryGo value (.ref l) r = pure ()) :
    wpAny (model prog w) A (subscriptTail value slice (.ref l) (.ref h.objs.size)) Q E { heap := h.push { cls := .type "slice", data := .fields #[.none, .int ((i : Nat) : Int) t, .none] }, gens := g, drawn := d, toks := tk, os := o } :=
  slice_take (s := { heap := h, gens := g, drawn := d, toks := tk, os := o }) F N hm hz hh hs ht
end
end Mine
end
section -- LAWH
namespace Mine
theorem offLAWH : True := by
  w_top off
  exact trivial
local macro_rules | `(tactic| k_all) => `(tactic| assumption)
local macro_rules | `(tactic| walk_at "noC") => `(tactic| first | exact noC_of (by intro v hv; cases hv) | exact Or.inr (by k_ne))
local macro_rules | `(tactic| walk_at "noCs") => `(tactic| first | exact List.forall_mem_nil _ | exact noC_tl (by assumption) | (refine List.forall_mem_cons.mpr ⟨by walk_at "noC", ?_⟩; walk_at "noCs"))
local macro_rules | `(tactic| walk_at "updD") => `(tactic| first | (refine' UpdD.head ⟨_, by assumption⟩ ?h; (case h => walk_at "noCs")) | (refine' UpdD.tail ?a ?b; (case a => walk_at "noC"); (case b => walk_at "updD")))
local macro_rules | `(tactic| k_updF) => `(tactic| (refine' UpdD.toF ?N ?U; (case N => assumption); (case U => walk_at "updD")))
noncomputable def lawH : Stage lawG.P := Stage.mk _ <| by
  w_top off
  intro hP9
  intro w9
  intros
  (rename T => τ)
  (with_reducible rename News _ _ _ _ => N)
  (with_reducible rename Fr _ _ _ _ => F)
  have N1 := law_shrink N
  clear N
  (with_reducible rename StrsAre _ (List.map wordS _) => hww)
  obtain ⟨DW, hDW⟩ := nameL N1
  subst hDW
  have hwl := words_len hww
  repeat ((fail_if_success (with_reducible show wpAny _ _ (call (Value.type "enumerate") _) _ _ _)); (first | (first | (k_here; (with_reducible show wpAny _ _ (call (Value.ref 83) _) _ _ _); k_dflt (refine' lev_w _ _ _ _ p q hp hq hpq _ _ _ _ _ _ _ _ _ _ _ _ _ _ _ _ _ _ _ _ _ ?k1 ?k2 ?k3 ?k4 ?k5 ?kK ?kd ?ku ?_); (case k1 => k_asm); (case k2 => k_asm); (case k3 => k_asm); (case k4 => k_asm); (case k5 => k_asm); (case kK => exact rfl); (case kd => exact law_dp (by decide)); (case ku => exact law_un (by decide)); intro tS hS tkS FS NS; dsimp only) | ((with_reducible show wpAny _ _ (subscriptTail _ _ (Value.ref _) (Value.ref _)) _ _ _); (k_here; k_dflt (refine' slice_take2 ?F ?N ?m ?z ?_ ?s ?t; (case F => k_asm); (case N => k_asm); (case m => (repeat (first | assumption | exact List.mem_cons_self .. | refine List.mem_cons_of_mem _ ?_))); (case z => assumption); (case s => with_unfolding_all rfl); (case t => kmk_pure)); intro D' h' F' N' l1)) | ((with_reducible show wpAny _ _ (eval (Expr.ListComp _ _ _ _) _) _ _ _); (k_here; k_dflt (refine ListComp_2 (by k_asm) (by with_unfolding_all rfl) (by decide) (by rfl) (by decide) (by rfl) (by rfl) (by rfl) (by decide) (by decide) (by decide) (by intro _ _; rfl) ?_))) | walk1) | (dsimp only; (first | (k_here; (with_reducible show wpAny _ _ (call (Value.ref 83) _) _ _ _); k_dflt (refine' lev_w _ _ _ _ p q hp hq hpq _ _ _ _ _ _ _ _ _ _ _ _ _ _ _ _ _ _ _ _ _ ?k1 ?k2 ?k3 ?k4 ?k5 ?kK ?kd ?ku ?_); (case k1 => k_asm); (case k2 => k_asm); (case k3 => k_asm); (case k4 => k_asm); (case k5 => k_asm); (case kK => exact rfl); (case kd => exact law_dp (by decide)); (case ku => exact law_un (by decide)); intro tS hS tkS FS NS; dsimp only) | ((with_reducible show wpAny _ _ (subscriptTail _ _ (Value.ref _) (Value.ref _)) _ _ _); (k_here; k_dflt (refine' slice_take2 ?F ?N ?m ?z ?_ ?s ?t; (case F => k_asm); (case N => k_asm); (case m => (repeat (first | assumption | exact List.mem_cons_self .. | refine List.mem_cons_of_mem _ ?_))); (case z => assumption); (case s => with_unfolding_all rfl); (case t => kmk_pure)); intro D' h' F' N' l1)) | ((with_reducible show wpAny _ _ (eval (Expr.ListComp _ _ _ _) _) _ _ _); (k_here; k_dflt (refine ListComp_2 (by k_asm) (by with_unfolding_all rfl) (by decide) (by rfl) (by decide) (by rfl) (by rfl) (by rfl) (by decide) (by decide) (by decide) (by intro _ _; rfl) ?_))) | walk1))))
  try dsimp only
  k_here
  refine' enum_two (fun i ys => IntsAre ys (waysUp (jsOf τ.mask) i)) ?h0 F N1 ?hm ?j0 (fun g' => ?turn) (fun g' ys hys => ?fin)
  case h0 => rfl
  case hm => exact List.mem_cons_self ..
  case j0 => exact .nil
  case turn =>
    refine ways_two hww jsUp_lt (jsUp_nodup _ _) (jsUp_len _ _) ?slice ?lev
    case slice =>
      intro i t ys own C oC D m₂ h tk E' Q hi hNs ha F N hret
      simp only [List.cons_append, List.nil_append] at N hret
      (repeat' (first | (k_unfold; (try dsimp only)) | ((first | (k_here; (with_reducible show wpAny _ _ (call (Value.ref 83) _) _ _ _); k_dflt (refine' lev_w _ _ _ _ p q hp hq hpq _ _ _ _ _ _ _ _ _ _ _ _ _ _ _ _ _ _ _ _ _ ?k1 ?k2 ?k3 ?k4 ?k5 ?kK ?kd ?ku ?_); (case k1 => k_asm); (case k2 => k_asm); (case k3 => k_asm); (case k4 => k_asm); (case k5 => k_asm); (case kK => exact rfl); (case kd => exact law_dp (by decide)); (case ku => exact law_un (by decide)); intro tS hS tkS FS NS; dsimp only) | ((with_reducible show wpAny _ _ (subscriptTail _ _ (Value.ref _) (Value.ref _)) _ _ _); (k_here; k_dflt (refine' slice_take2 ?F ?N ?m ?z ?_ ?s ?t; (case F => k_asm); (case N => k_asm); (case m => (repeat (first | assumption | exact List.mem_cons_self .. | refine List.mem_cons_of_mem _ ?_))); (case z => assumption); (case s => with_unfolding_all rfl); (case t => kmk_pure)); intro D' h' F' N' l1)) | ((with_reducible show wpAny _ _ (eval (Expr.ListComp _ _ _ _) _) _ _ _); (k_here; k_dflt (refine ListComp_2 (by k_asm) (by with_unfolding_all rfl) (by decide) (by rfl) (by decide) (by rfl) (by rfl) (by rfl) (by decide) (by decide) (by decide) (by intro _ _; rfl) ?_))) | walk1); (try dsimp only)) | (dsimp only; (first | (k_here; (with_reducible show wpAny _ _ (call (Value.ref 83) _) _ _ _); k_dflt (refine' lev_w _ _ _ _ p q hp hq hpq _ _ _ _ _ _ _ _ _ _ _ _ _ _ _ _ _ _ _ _ _ ?k1 ?k2 ?k3 ?k4 ?k5 ?kK ?kd ?ku ?_); (case k1 => k_asm); (case k2 => k_asm); (case k3 => k_asm); (case k4 => k_asm); (case k5 => k_asm); (case kK => exact rfl); (case kd => exact law_dp (by decide)); (case ku => exact law_un (by decide)); intro tS hS tkS FS NS; dsimp only) | ((with_reducible show wpAny _ _ (subscriptTail _ _ (Value.ref _) (Value.ref _)) _ _ _); (k_here; k_dflt (refine' slice_take2 ?F ?N ?m ?z ?_ ?s ?t; (case F => k_asm); (case N => k_asm); (case m => (repeat (first | assumption | exact List.mem_cons_self .. | refine List.mem_cons_of_mem _ ?_))); (case z => assumption); (case s => with_unfolding_all rfl); (case t => kmk_pure)); intro D' h' F' N' l1)) | ((with_reducible show wpAny _ _ (eval (Expr.ListComp _ _ _ _) _) _ _ _); (k_here; k_dflt (refine ListComp_2 (by k_asm) (by with_unfolding_all rfl) (by decide) (by rfl) (by decide) (by rfl) (by rfl) (by rfl) (by decide) (by decide) (by decide) (by intro _ _; rfl) ?_))) | walk1)) | (leave1; (try dsimp only))))
      exact hret _ _ _ (by assumption) (by assumption) (by assumption)
    case lev =>
      intro p q t u I oI l lo C oC D zs own m₃ h tk E' hp hq hpq hNs hc hb F N
      simp only [List.cons_append, List.nil_append] at N ⊢
      (repeat' (first | (k_unfold; (try dsimp only)) | ((first | (k_here; (with_reducible show wpAny _ _ (call (Value.ref 83) _) _ _ _); k_dflt (refine' lev_w _ _ _ _ p q hp hq hpq _ _ _ _ _ _ _ _ _ _ _ _ _ _ _ _ _ _ _ _ _ ?k1 ?k2 ?k3 ?k4 ?k5 ?kK ?kd ?ku ?_); (case k1 => k_asm); (case k2 => k_asm); (case k3 => k_asm); (case k4 => k_asm); (case k5 => k_asm); (case kK => exact rfl); (case kd => exact law_dp (by decide)); (case ku => exact law_un (by decide)); intro tS hS tkS FS NS; dsimp only) | ((with_reducible show wpAny _ _ (subscriptTail _ _ (Value.ref _) (Value.ref _)) _ _ _); (k_here; k_dflt (refine' slice_take2 ?F ?N ?m ?z ?_ ?s ?t; (case F => k_asm); (case N => k_asm); (case m => (repeat (first | assumption | exact List.mem_cons_self .. | refine List.mem_cons_of_mem _ ?_))); (case z => assumption); (case s => with_unfolding_all rfl); (case t => kmk_pure)); intro D' h' F' N' l1)) | ((with_reducible show wpAny _ _ (eval (Expr.ListComp _ _ _ _) _) _ _ _); (k_here; k_dflt (refine ListComp_2 (by k_asm) (by with_unfolding_all rfl) (by decide) (by rfl) (by decide) (by rfl) (by rfl) (by rfl) (by decide) (by decide) (by decide) (by intro _ _; rfl) ?_))) | walk1); (try dsimp only)) | (dsimp only; (first | (k_here; (with_reducible show wpAny _ _ (call (Value.ref 83) _) _ _ _); k_dflt (refine' lev_w _ _ _ _ p q hp hq hpq _ _ _ _ _ _ _ _ _ _ _ _ _ _ _ _ _ _ _ _ _ ?k1 ?k2 ?k3 ?k4 ?k5 ?kK ?kd ?ku ?_); (case k1 => k_asm); (case k2 => k_asm); (case k3 => k_asm); (case k4 => k_asm); (case k5 => k_asm); (case kK => exact rfl); (case kd => exact law_dp (by decide)); (case ku => exact law_un (by decide)); intro tS hS tkS FS NS; dsimp only) | ((with_reducible show wpAny _ _ (subscriptTail _ _ (Value.ref _) (Value.ref _)) _ _ _); (k_here; k_dflt (refine' slice_take2 ?F ?N ?m ?z ?_ ?s ?t; (case F => k_asm); (case N => k_asm); (case m => (repeat (first | assumption | exact List.mem_cons_self .. | refine List.mem_cons_of_mem _ ?_))); (case z => assumption); (case s => with_unfolding_all rfl); (case t => kmk_pure)); intro D' h' F' N' l1)) | ((with_reducible show wpAny _ _ (eval (Expr.ListComp _ _ _ _) _) _ _ _); (k_here; k_dflt (refine ListComp_2 (by k_asm) (by with_unfolding_all rfl) (by decide) (by rfl) (by decide) (by rfl) (by rfl) (by rfl) (by decide) (by decide) (by decide) (by intro _ _; rfl) ?_))) | walk1)) | (leave1; (try dsimp only))))
      exact PEnd.mk FS NS ⟨_, rfl⟩
  case fin =>
    intro D9 h tk F N off
    clear off N1
    dsimp only
    repeat (first | ((fail_if_success (with_reducible show wpAny _ _ (eval (Expr.ListComp _ _ _ _) _) _ _ _)); (first | (k_here; (with_reducible show wpAny _ _ (call (Value.ref 83) _) _ _ _); k_dflt (refine' lev_w _ _ _ _ p q hp hq hpq _ _ _ _ _ _ _ _ _ _ _ _ _ _ _ _ _ _ _ _ _ ?k1 ?k2 ?k3 ?k4 ?k5 ?kK ?kd ?ku ?_); (case k1 => k_asm); (case k2 => k_asm); (case k3 => k_asm); (case k4 => k_asm); (case k5 => k_asm); (case kK => exact rfl); (case kd => exact law_dp (by decide)); (case ku => exact law_un (by decide)); intro tS hS tkS FS NS; dsimp only) | ((with_reducible show wpAny _ _ (subscriptTail _ _ (Value.ref _) (Value.ref _)) _ _ _); (k_here; k_dflt (refine' slice_take2 ?F ?N ?m ?z ?_ ?s ?t; (case F => k_asm); (case N => k_asm); (case m => (repeat (first | assumption | exact List.mem_cons_self .. | refine List.mem_cons_of_mem _ ?_))); (case z => assumption); (case s => with_unfolding_all rfl); (case t => kmk_pure)); intro D' h' F' N' l1)) | ((with_reducible show wpAny _ _ (eval (Expr.ListComp _ _ _ _) _) _ _ _); (k_here; k_dflt (refine ListComp_2 (by k_asm) (by with_unfolding_all rfl) (by decide) (by rfl) (by decide) (by rfl) (by rfl) (by rfl) (by decide) (by decide) (by decide) (by intro _ _; rfl) ?_))) | walk1)) | ((fail_if_success (with_reducible show wpAny _ _ (eval (Expr.ListComp _ _ _ _) _) _ _ _)); dsimp only; (first | (k_here; (with_reducible show wpAny _ _ (call (Value.ref 83) _) _ _ _); k_dflt (refine' lev_w _ _ _ _ p q hp hq hpq _ _ _ _ _ _ _ _ _ _ _ _ _ _ _ _ _ _ _ _ _ ?k1 ?k2 ?k3 ?k4 ?k5 ?kK ?kd ?ku ?_); (case k1 => k_asm); (case k2 => k_asm); (case k3 => k_asm); (case k4 => k_asm); (case k5 => k_asm); (case kK => exact rfl); (case kd => exact law_dp (by decide)); (case ku => exact law_un (by decide)); intro tS hS tkS FS NS; dsimp only) | ((with_reducible show wpAny _ _ (subscriptTail _ _ (Value.ref _) (Value.ref _)) _ _ _); (k_here; k_dflt (refine' slice_take2 ?F ?N ?m ?z ?_ ?s ?t; (case F => k_asm); (case N => k_asm); (case m => (repeat (first | assumption | exact List.mem_cons_self .. | refine List.mem_cons_of_mem _ ?_))); (case z => assumption); (case s => with_unfolding_all rfl); (case t => kmk_pure)); intro D' h' F' N' l1)) | ((with_reducible show wpAny _ _ (eval (Expr.ListComp _ _ _ _) _) _ _ _); (k_here; k_dflt (refine ListComp_2 (by k_asm) (by with_unfolding_all rfl) (by decide) (by rfl) (by decide) (by rfl) (by rfl) (by rfl) (by decide) (by decide) (by decide) (by intro _ _; rfl) ?_))) | walk1)))
    (repeat (with_unfolding_none rename _ => z9; revert z9))
    exact fun h => h.h
end Mine
end
section -- LAWI0
namespace Mine
theorem offLAWI0 : True := by
  w_top off
  exact trivial
section
variable {prog : Program} {w : World} {A : Around} {E : Value → Shared → Prop} {s : Shared} {h₀ : Heap} {L l : Addr} {m : Str → Option Value} {news : List (Addr × Obj)} {vs : List Value} {μ : Nat} {Q : Value → Shared → Prop}
theorem len_words (N : News h₀ L s.heap news) (hm : (l, LCg.lst vs) ∈ news) (hv : StrsAre vs ((jsOf μ).map wordS)) (h : Q (.int (((jsOf μ).length : Nat) : Int) (s.toks + 1)) { s with toks := s.toks + 1 + 1 }) :
    wpAny (model prog w) A (call (.builtin "len") [.ref l]) Q E s := by
  have e : vs.length = (jsOf μ).length := by rw [hv.length, List.length_map]
  have h8 : (jsOf μ).length ≤ 8 := jsUp_len μ 8
  refine len_list (items := vs.toArray) ⟨_, (N _ hm).1, rfl, _, rfl⟩ ?_ ?_
  · rw [List.size_toArray, e]; omega
  · rw [List.size_toArray, e]; exact h
end
section
open PyProof.Rows.LCg PySem.Spec PySem.Calls
variable {prog : Program} {w : World} {A : Around} {E : Value → Shared → Prop} {s : Shared} {h₀ : Heap} {L : Addr} {m : Str → Option Value} {env : Env}
noncomputable def TupAt (ax : Addr) (its : Array Value) (news : List (Addr × Obj)) : Prop := ∃ n, (ax, ({ cls := .type "tuple", data := .seq its n } : Obj)) ∈ news
theorem TupAt.tup {h : Heap} {ax : Addr} {its : Array Value} {news : List (Addr × Obj)} (x : TupAt ax its news) (N : News h₀ L h news) : h.IsTuple ax its := let ⟨n, hm⟩ := x; ⟨_, (N _ hm).1, rfl, n, rfl⟩
theorem tup_st {ax I : Addr} {its : Array Value} : ∀ i (h h' : Heap) (o : Obj) (nw : List (Addr × Obj)), (h.IsTupleIter I ax i ∧ h.IsTuple ax its) → h.get? I = some o → h'.get? I = some o → (∀ b o, h₀.get? b = some o → h'.get? b = some o) → News h₀ L h' nw → TupAt ax its nw → (h'.IsTupleIter I ax i ∧ h'.IsTuple ax its) :=
  fun i h h' o nw st e e' _ N S => ⟨by obtain ⟨o', q, r⟩ := st.1; rw [e] at q; cases q; exact ⟨o, e', r⟩, S.tup N⟩
noncomputable def SrcTup (prog : Program) (w : World) (A : Around) (h₀ : Heap) (L : Addr) (m : Str → Option Value) (env : Env) (elt : PySem.Expr) (x : Str) (scope : Scope) (cl : List (Str × Addr)) (Fin : Shared → List Value → List (Addr × Obj) → Prop) (xv : Value) (s₁ : Shared) : Prop :=
  ∃ ax its news, xv = .ref ax ∧ A.handled = none ∧ Fr h₀ L s₁.heap m ∧ News h₀ L s₁.heap news ∧ TupAt ax its news ∧ its.size ≤ sizeLine ∧
    ∀ s₂ : Shared, (∃ h, s₂ = { s₁ with heap := h }) → CompRest prog w A h₀ L m env elt x scope cl s₂ (TupAt ax its) (fun i v => its[i]? = some v) (Fin s₂) its.size 0 [] news
theorem SrcTup.mk {elt : PySem.Expr} {x : Str} {scope : Scope} {cl : List (Str × Addr)} {Fin : Shared → List Value → List (Addr × Obj) → Prop} {ax : Addr} {its : Array Value} {k : Nat} {news : List (Addr × Obj)} {s₁ : Shared}
    (hh : A.handled = none) (F : Fr h₀ L s₁.heap m) (N : News h₀ L s₁.heap news) (hm : (ax, ({ cls := .type "tuple", data := .seq its k } : Obj)) ∈ news) (hsz : its.size ≤ sizeLine)
    (h : ∀ g, CompRest prog w A h₀ L m env elt x scope cl { s₁ with heap := g } (TupAt ax its) (fun i v => its[i]? = some v) (Fin { s₁ with heap := g }) its.size 0 [] news) :
    SrcTup prog w A h₀ L m env elt x scope cl Fin (.ref ax) s₁ := ⟨ax, its, news, rfl, hh, F, N, ⟨_, hm⟩, hsz, fun _ ⟨g, e⟩ => e ▸ h g⟩
theorem ListComp_Tup {elt iter : PySem.Expr} {x : Str} {px : Pos} {scope : Scope} {cl : List (Str × Addr)} {pos : Pos} {Q : Value → Shared → Prop} (_F₀ : Fr h₀ L s.heap m)
    (hclos : closureFor scope env = pure cl) (hcell : ∀ y ∈ scope.names, y.2 ≠ .cell) (hkind : scope.kind = .function)
    (hnames : ∀ y ∈ scope.names, y.2 = .local → scope.names.lookup y.1 = some .local) (hx : scope.names.lookup x = some .local)
    (h : wpAny (model prog w) A (eval iter env) (SrcTup prog w A h₀ L m env elt x scope cl (fun s₂ => FinE h₀ L m s₂ Q)) E s)
    (hs : ∀ x, foldedSetIterable iter env x = pure x := by intro _; rfl) :
    wpAny (model prog w) A (eval (.ListComp elt [⟨.Name x px, iter, [], 0⟩] scope pos) env) Q E s := by
  rw [eval_ListComp]
  refine wpAny_comprehension_free (use := none) rfl hs hclos hkind hnames (wpAny_mono h (fun xv s₁ h₁ => ?_) fun _ _ e => e)
  obtain ⟨ax, its, news, rfl, hh, F, N, S, hsz, R⟩ := h₁
  have hl := S.tup N
  have hlt : ax < s₁.heap.objs.size := by obtain ⟨_, e, _⟩ := hl; exact Heap.lt_size e
  refine wpAny_pyIter_tuple hl ?_
  have up : ∀ b o, s₁.heap.get? b = some o → (s₁.heap.push { cls := .type "tuple_iterator", data := .fields #[.ref ax, .int 0 0] }).get? b = some o := fun b o e => Heap.get?_push_of_some _ e
  refine block_U (Walks.tuple hh s₁.heap.objs.size ax (Nat.ne_of_lt hlt) its) hsz (fun i h st => by obtain ⟨o, e, _⟩ := st.1; exact ⟨o, e⟩) tup_st hcell hkind hx ⟨⟨_, Heap.get?_push_size _ rfl, rfl, rfl⟩, hl.push _⟩ (fun b hb => ?_)
    (F.keeps up) (N.grown up) (Nat.ne_of_lt F.ns.lt) (next_is_new F) (fun p hp => Nat.ne_of_lt (Heap.lt_size (N p hp).1)) S (R _ ⟨_, rfl⟩) ?_
  · show b < (s₁.heap.push _).objs.size
    rw [Heap.size_push]
    rcases List.mem_cons.mp hb with rfl | hb
    · exact Nat.lt_succ_self _
    · rw [List.mem_singleton.mp hb]; exact Nat.lt_succ_of_lt hlt
  · intro D C h tk m' ys news' F' N' o1 hn hC₀ hD₀ hCL hDL hCD offC fin
    refine ⟨m', hn, fun h'' hs'' => fin D h'' tk (F'.change hs'' hCL hC₀) (fun p hp => ?_) o1⟩
    refine ⟨hs''.extBut _ _ ?_ (N' p hp).1, (N' p hp).2⟩
    rcases List.mem_cons.mp hp with rfl | hp
    · exact Ne.symm hCD
    · exact offC p hp
end
theorem law_shrink2 {h₀ h : Heap} {L : Addr} {p1 p2 p3 p4 p5 p6 p7 c6 c5 c4 c3 c2 c1 : Addr × Obj} (N : News h₀ L h [p1, p2, p3, p4, p5, p6, p7, c6, c5, c4, c3, c2, c1]) : News h₀ L h [p1, p7, c6, c5, c4, c3, c2, c1] := fun p hp => N p (by
  simp only [List.mem_cons, List.not_mem_nil, or_false] at hp ⊢
  rcases hp with h | h | h | h | h | h | h | h <;> simp [h])
noncomputable def apL (μ : Nat) : List Int := [(((jsOf μ).length : Nat) : Int), 2 * ((List.count 1 (waysUp (jsOf μ) (jsOf μ).length) : Nat) : Int), 2 * ((List.count 2 (waysUp (jsOf μ) (jsOf μ).length) : Nat) : Int), 2 * ((List.count 3 (waysUp (jsOf μ) (jsOf μ).length) : Nat) : Int)]
end Mine
end
section -- LAWI
namespace Mine
theorem offLAWI : True := by
  w_top off
  exact trivial
local macro_rules | `(tactic| k_all) => `(tactic| assumption)
theorem count_bd (μ : Nat) (k : Int) : (0 : Int) ≤ ((List.count k (waysUp (jsOf μ) (jsOf μ).length) : Nat) : Int) ∧ ((List.count k (waysUp (jsOf μ) (jsOf μ).length) : Nat) : Int) ≤ 64 := by
  have h8 : (jsOf μ).length ≤ 8 := jsUp_len μ 8
  have h1 := waysUp_len h8 (jsOf μ).length
  have h2 := List.count_le_length (a := k) (l := waysUp (jsOf μ) (jsOf μ).length)
  omega
local macro_rules | `(tactic| walk_at "noC") => `(tactic| first | exact noC_of (by intro v hv; cases hv) | exact Or.inr (by k_ne))
local macro_rules | `(tactic| walk_at "noCs") => `(tactic| first | exact List.forall_mem_nil _ | (refine List.forall_mem_cons.mpr ⟨by walk_at "noC", ?_⟩; walk_at "noCs"))
local macro_rules | `(tactic| walk_at "updD") => `(tactic| first | (refine' UpdD.head ⟨_, by assumption⟩ ?h; (case h => walk_at "noCs")) | (refine' UpdD.tail ?a ?b; (case a => walk_at "noC"); (case b => walk_at "updD")))
local macro_rules | `(tactic| k_updF) => `(tactic| (refine' UpdD.toF ?N ?U; (case N => assumption); (case U => walk_at "updD")))
noncomputable def lawI : Stage lawH.P := Stage.mk _ <| by
  w_top off
  intro hP9
  intro w9
  intros
  (rename T => τ)
  (with_reducible rename News _ _ _ _ => N)
  (with_reducible rename Fr _ _ _ _ => F)
  (with_reducible rename StrsAre _ (List.map wordS _) => hww)
  (with_reducible rename IntsAre _ (waysUp _ _) => hys)
  rw [show List.length _ = (jsOf τ.mask).length from hww.length.trans (List.length_map ..)] at hys
  have hcb : ∀ k : Int, (0 : Int) ≤ ((List.count k (waysUp (jsOf τ.mask) (jsOf τ.mask).length) : Nat) : Int) ∧ ((List.count k (waysUp (jsOf τ.mask) (jsOf τ.mask).length) : Nat) : Int) ≤ 64 := count_bd _
  repeat ((fail_if_success (with_reducible show SrcTup _ _ _ _ _ _ _ _ _ _ _ _ _ _)); (first | ((first | ((with_reducible show wpAny _ _ (eval (Expr.ListComp _ _ _ _) _) _ _ _); (k_here; k_dflt (refine ListComp_Tup (by k_asm) (by with_unfolding_all rfl) (by decide) (by rfl) (by decide) (by rfl) ?_))) | (k_here; (with_reducible show wpAny _ _ (call (Value.builtin "len") [Value.ref _]) _ _ _); k_dflt (refine' len_words ?N ?m hww ?_; (case N => k_asm); (case m => (repeat (first | assumption | exact List.mem_cons_self .. | refine List.mem_cons_of_mem _ ?_))))) | walk1); (try dsimp only)) | (dsimp only; (first | ((with_reducible show wpAny _ _ (eval (Expr.ListComp _ _ _ _) _) _ _ _); (k_here; k_dflt (refine ListComp_Tup (by k_asm) (by with_unfolding_all rfl) (by decide) (by rfl) (by decide) (by rfl) ?_))) | (k_here; (with_reducible show wpAny _ _ (call (Value.builtin "len") [Value.ref _]) _ _ _); k_dflt (refine' len_words ?N ?m hww ?_; (case N => k_asm); (case m => (repeat (first | assumption | exact List.mem_cons_self .. | refine List.mem_cons_of_mem _ ?_))))) | walk1))))
  (with_reducible rename News _ _ _ _ => N1)
  (with_reducible rename Fr _ _ _ _ => F1)
  refine SrcTup.mk (by rfl) F1 N1 (List.mem_cons_self ..) (Nat.le_of_ble_eq_true rfl) ?_
  intro g9
  clear N1 F1
  refine ints_rest (fun (n : Int) v => ∃ t, v = .int n t) (fun c => 2 * ((List.count c (waysUp (jsOf τ.mask) (jsOf τ.mask).length) : Nat) : Int)) (kall := [1, 2, 3]) _ ?turn ?fin [_, _, _] [1, 2, 3] [] [] [] rfl (.cons ⟨_, rfl⟩ (.cons ⟨_, rfl⟩ (.cons ⟨_, rfl⟩ .nil))) rfl .nil
  case turn =>
    rintro k v ys ⟨t, rfl⟩ I oI C oC D m₂ h tk E' R hNs h1 F N off ne hR
    obtain ⟨hc0, hc1⟩ := hcb k
    clear ne
    (repeat' (first | (k_unfold; (try dsimp only)) | ((first | ((with_reducible show wpAny _ _ (eval (Expr.ListComp _ _ _ _) _) _ _ _); (k_here; k_dflt (refine ListComp_Tup (by k_asm) (by with_unfolding_all rfl) (by decide) (by rfl) (by decide) (by rfl) ?_))) | (k_here; (with_reducible show wpAny _ _ (call (Value.builtin "len") [Value.ref _]) _ _ _); k_dflt (refine' len_words ?N ?m hww ?_; (case N => k_asm); (case m => (repeat (first | assumption | exact List.mem_cons_self .. | refine List.mem_cons_of_mem _ ?_))))) | walk1); (try dsimp only)) | (dsimp only; (first | ((with_reducible show wpAny _ _ (eval (Expr.ListComp _ _ _ _) _) _ _ _); (k_here; k_dflt (refine ListComp_Tup (by k_asm) (by with_unfolding_all rfl) (by decide) (by rfl) (by decide) (by rfl) ?_))) | (k_here; (with_reducible show wpAny _ _ (call (Value.builtin "len") [Value.ref _]) _ _ _); k_dflt (refine' len_words ?N ?m hww ?_; (case N => k_asm); (case m => (repeat (first | assumption | exact List.mem_cons_self .. | refine List.mem_cons_of_mem _ ?_))))) | walk1)) | (leave1; (try dsimp only))))
    exact ⟨_, _, _, rfl, F, N, off, ⟨_, List.mem_cons_self ..⟩, hR _⟩
  case fin =>
    intro ys3 hys3
    simp only [List.map] at hys3
    obtain ⟨a1, ha1⟩ : ∃ a : Int, a = 2 * ((List.count 1 (waysUp (jsOf τ.mask) (jsOf τ.mask).length) : Nat) : Int) := ⟨_, rfl⟩
    obtain ⟨a2, ha2⟩ : ∃ a : Int, a = 2 * ((List.count 2 (waysUp (jsOf τ.mask) (jsOf τ.mask).length) : Nat) : Int) := ⟨_, rfl⟩
    obtain ⟨a3, ha3⟩ : ∃ a : Int, a = 2 * ((List.count 3 (waysUp (jsOf τ.mask) (jsOf τ.mask).length) : Nat) : Int) := ⟨_, rfl⟩
    rw [← ha1, ← ha2, ← ha3] at hys3
    obtain ⟨ta, tb, tc, rfl⟩ := ints3 hys3
    intro D h tk F N off
    dsimp only
    obtain ⟨n0, hn0⟩ : ∃ a : Int, a = (((jsOf τ.mask).length : Nat) : Int) := ⟨_, rfl⟩
    rw [← hn0] at N
    clear off hcb
    iterate 1 (first | (first | ((with_reducible show wpAny _ _ (eval (Expr.ListComp _ _ _ _) _) _ _ _); (k_here; k_dflt (refine ListComp_Tup (by k_asm) (by with_unfolding_all rfl) (by decide) (by rfl) (by decide) (by rfl) ?_))) | (k_here; (with_reducible show wpAny _ _ (call (Value.builtin "len") [Value.ref _]) _ _ _); k_dflt (refine' len_words ?N ?m hww ?_; (case N => k_asm); (case m => (repeat (first | assumption | exact List.mem_cons_self .. | refine List.mem_cons_of_mem _ ?_))))) | walk1) | (dsimp only; (first | ((with_reducible show wpAny _ _ (eval (Expr.ListComp _ _ _ _) _) _ _ _); (k_here; k_dflt (refine ListComp_Tup (by k_asm) (by with_unfolding_all rfl) (by decide) (by rfl) (by decide) (by rfl) ?_))) | (k_here; (with_reducible show wpAny _ _ (call (Value.builtin "len") [Value.ref _]) _ _ _); k_dflt (refine' len_words ?N ?m hww ?_; (case N => k_asm); (case m => (repeat (first | assumption | exact List.mem_cons_self .. | refine List.mem_cons_of_mem _ ?_))))) | walk1)))
    (with_reducible rename News _ _ _ _ => N2)
    have N3 := law_shrink2 N2
    clear N2
    iterate 3 (try ((rename @LT.lt Nat _ _ _ ∧ _ => z9); clear z9))
    repeat (first | ((fail_if_success (with_reducible show wpAny _ _ (eval (Expr.ListComp _ _ _ _) _) _ _ _)); (first | ((with_reducible show wpAny _ _ (eval (Expr.ListComp _ _ _ _) _) _ _ _); (k_here; k_dflt (refine ListComp_Tup (by k_asm) (by with_unfolding_all rfl) (by decide) (by rfl) (by decide) (by rfl) ?_))) | (k_here; (with_reducible show wpAny _ _ (call (Value.builtin "len") [Value.ref _]) _ _ _); k_dflt (refine' len_words ?N ?m hww ?_; (case N => k_asm); (case m => (repeat (first | assumption | exact List.mem_cons_self .. | refine List.mem_cons_of_mem _ ?_))))) | walk1)) | ((fail_if_success (with_reducible show wpAny _ _ (eval (Expr.ListComp _ _ _ _) _) _ _ _)); dsimp only; (first | ((with_reducible show wpAny _ _ (eval (Expr.ListComp _ _ _ _) _) _ _ _); (k_here; k_dflt (refine ListComp_Tup (by k_asm) (by with_unfolding_all rfl) (by decide) (by rfl) (by decide) (by rfl) ?_))) | (k_here; (with_reducible show wpAny _ _ (call (Value.builtin "len") [Value.ref _]) _ _ _); k_dflt (refine' len_words ?N ?m hww ?_; (case N => k_asm); (case m => (repeat (first | assumption | exact List.mem_cons_self .. | refine List.mem_cons_of_mem _ ?_))))) | walk1)))
    have hap : [n0, a1, a2, a3] = apL τ.mask := by rw [hn0, ha1, ha2, ha3]; rfl
    clear hn0 ha1 ha2 ha3 hys3
    (repeat (with_unfolding_none rename _ => z9; revert z9))
    exact fun h => h.h
end Mine
end
section -- LAWJ0
namespace Mine
theorem offLAWJ0 : True := by
  w_top off
  exact trivial
section
open PyProof.Rows.LCg PySem.Spec PySem.Calls
variable {prog : Program} {w : World} {A : Around} {E : Value → Shared → Prop} {s : Shared} {h₀ : Heap} {L : Addr} {m : Str → Option Value} {env : Env}
noncomputable def SrcA (prog : Program) (w : World) (A : Around) (h₀ : Heap) (L : Addr) (m : Str → Option Value) (env : Env) (elt : PySem.Expr) (x : Str) (scope : Scope) (cl : List (Str × Addr)) (y : Str) (Q : Flow → Shared → Prop) (xv : Value) (s₁ : Shared) : Prop :=
  ∃ r a b t u v n news, ∃ g : Int → Int, xv = .ref r ∧ A.handled = none ∧ Fr h₀ L s₁.heap m ∧ News h₀ L s₁.heap news ∧ IsRange s₁.heap r a b 1 t u v ∧ Builtin.Range.small a b 1 = true ∧ Builtin.Range.rangeSize a b 1 = ((n : Nat) : Int) ∧ n ≤ sizeLine ∧
    ∀ s₂ : Shared, (∃ h, s₂ = { s₁ with heap := h }) → (∀ k t, a ≤ k → k < a + (n : Int) → TurnC prog w A h₀ L m env elt x scope cl s₂ (fun _ => True) news (g k) (.int k t)) ∧ (∀ ys, IntsAre ys ((rangeKs a n).map g) → FinA h₀ L m s₂ y Q ys news)
theorem SrcA.r4 {elt : PySem.Expr} {x : Str} {scope : Scope} {cl : List (Str × Addr)} {y : Str} {Q : Flow → Shared → Prop} {r : Addr} {t u v : Tok} {news : List (Addr × Obj)} {s₁ : Shared} (g : Int → Int)
    (hh : A.handled = none) (F : Fr h₀ L s₁.heap m) (N : News h₀ L s₁.heap news) (hr : IsRange s₁.heap r 0 4 1 t u v)
    (h : ∀ g', ∀ k t, 0 ≤ k → k < 4 → TurnC prog w A h₀ L m env elt x scope cl { s₁ with heap := g' } (fun _ => True) news (g k) (.int k t)) (hf : ∀ g' ys, IntsAre ys ((rangeKs 0 4).map g) → FinA h₀ L m { s₁ with heap := g' } y Q ys news) :
    SrcA prog w A h₀ L m env elt x scope cl y Q (.ref r) s₁ :=
  ⟨r, 0, 4, t, u, v, 4, news, g, rfl, hh, F, N, hr, by decide, rangeSize_nat 0 4, by exact Nat.le_of_ble_eq_true rfl, fun _ ⟨g', e⟩ => e ▸ ⟨fun k t h1 h2 => h g' k t h1 (by simpa using h2), hf g'⟩⟩
theorem Assign_ListComp_C {elt iter : PySem.Expr} {x y : Str} {px py : Pos} {scope : Scope} {cl : List (Str × Addr)} {pos spos : Pos} {Q : Flow → Shared → Prop} (_F₀ : Fr h₀ L s.heap m) (hLe : env.locals = L)
    (hsw : swapsWith (.ListComp elt [⟨.Name x px, iter, [], 0⟩] scope pos) (some (.Name y py)) spos.line env = pure true)
    (hclos : closureFor scope env = pure cl) (hone : ∀ n, cellsFrom n scope.names cl = (x, n) :: cl) (hpush : ∀ h, pushCells h scope.names = h.push cellO) (hkind : scope.kind = .function)
    (hnames : ∀ z ∈ scope.names, z.2 = .local → scope.names.lookup z.1 = some .local) (hx : (relabel scope env).names.lookup x = some .cell)
    (hy : env.kindOf y = some .local) (hp : (env.scope.kind == .class || (env.scope.kind == .module && env.locals != env.globals)) = false)
    (h : wpAny (model prog w) A (eval iter env) (SrcA prog w A h₀ L m env elt x scope cl y Q) E s)
    (hs : ∀ x, foldedSetIterable iter env x = pure x := by intro _; rfl) :
    wpAny (model prog w) A (exec (.Assign [.Name y py] (.ListComp elt [⟨.Name x px, iter, [], 0⟩] scope pos) spos) env) Q E s := by
  subst hLe
  rw [exec_Assign_Name_used _ _ _ _ hsw]
  refine wpAny_bind (wpAny_standAt (wpAny_bind ?_))
  show wpAny _ A (do let _ ← comprehension (.ListComp elt [⟨.Name x px, iter, [], 0⟩] scope pos) scope env _ (newList []) false (eval iter env) (some (assign (.Name y py) env))) _ _ s
  refine wpAny_bind (wpAny_mono (wpAny_comprehension_free (use := some (assign (.Name y py) env)) (Q := fun _ s' => Q .next s') rfl hs hclos hkind hnames
    (wpAny_mono h (fun xv s₁ h₁ => ?_) fun _ _ e => e)) (fun _ s' hq => wpAny_pure (wpAny_pure hq)) fun _ _ e => e)
  obtain ⟨r, a, b, t, u, v, n, news, g, rfl, hh, F, N, hr, hsm, hn, hsz, R⟩ := h₁
  refine wpAny_pyIter_range hr hsm ?_
  obtain ⟨R1, R2⟩ := R _ ⟨_, rfl⟩
  refine block_C (ks := rangeKs a n) (Is := fun k v => ∃ t, v = .int k t) g (range_walks hh a n) hsz (rangeKs_length a n) (fun i v hi hv => by
      obtain ⟨t, e⟩ := hv
      exact ⟨a + (i : Int), by simp [rangeKs, hi], t, e⟩) (fun i h st => ⟨_, st⟩) range_st hone hpush hkind hx (by show IsRangeIter _ _ _ _ _; rw [hn]; simpa using Heap.get?_push_size _ rfl) (fun b hb => ?_)
      (F.keeps fun _ _ e => Heap.get?_push_of_some _ e) (N.grown fun _ _ e => Heap.get?_push_of_some _ e) (Nat.ne_of_lt F.ns.lt) (next_is_new F) (fun p hp => Nat.ne_of_lt (Heap.lt_size (N p hp).1)) (fun _ => trivial)
      (fun k v hk e => by obtain ⟨t, rfl⟩ := e; exact R1 k t (mem_rangeKs hk).1 (mem_rangeKs hk).2) ?_
  · rw [List.mem_singleton.mp hb]
    show s₁.heap.objs.size < (s₁.heap.push _).objs.size
    rw [Heap.size_push]; exact Nat.lt_succ_self _
  · intro D C h' tk m' ys F' N' o1 hn hC₀ hD₀ hCL hDL hCD offC fin
    show wpAny _ A (assign (.Name y py) env (.ref D)) _ _ _
    refine wpAny_assign_Name (wpAny_storeName_local hy F'.ns (fun h₂ hn₂ hs₂ => ?_) hp)
    have hL₀ : h₀.get? env.locals = none := Heap.get?_none_of_le F'.above
    have F₂ : Fr h₀ env.locals h₂ (fun z => if z = y then some (.ref D) else m z) := ⟨hn₂, fun b o e => hs₂.extBut b o (fun q => by rw [q, hL₀] at e; cases e) (F'.keep b o e), F'.above⟩
    refine ⟨m', hn.sameBut hs₂ hCL, fun h'' hs'' => R2 ys fin D h'' _ (F₂.change hs'' hCL hC₀) (fun p hp => ?_) o1⟩
    have z : h₂.get? p.1 = some p.2 := hs₂.extBut _ _ (N' p hp).2.1 (N' p hp).1
    refine ⟨hs''.extBut _ _ ?_ z, (N' p hp).2⟩
    rcases List.mem_cons.mp hp with rfl | hp
    · exact Ne.symm hCD
    · exact offC p hp
theorem range_filter_t {P : Nat → Bool} {i : Nat} (h : P i = true) (g : Nat → Int) : ((List.range (i + 1)).filter P).map g = ((List.range i).filter P).map g ++ [g i] := by
  rw [List.range_succ, List.filter_append, List.map_append]
  congr 1
  simp [h]
theorem range_filter_f {P : Nat → Bool} {i : Nat} (h : P i = false) (g : Nat → Int) : ((List.range (i + 1)).filter P).map g = ((List.range i).filter P).map g := by
  rw [List.range_succ, List.filter_append]
  simp [h]
open PyProof.Rows.LCt in
theorem test_rest {ct elt : PySem.Expr} {x : Str} {scope : Scope} {cl : List (Str × Addr)} {s : Shared} {Fin : List Value → List (Addr × Obj) → Prop} (P : Nat → Bool) (g : Nat → Int) (nws : List (Addr × Obj))
    (turn : ∀ (i : Nat) t ys, i < 8 → ∀ I oI C oC D m₂ h tk (E' : Value → Shared → Prop) (R : Value → List (Addr × Obj) → Prop) (R0 : List (Addr × Obj) → Prop), NsObj oC m₂ → m₂ x = some (.int (i : Int) t) → Fr h₀ L h m → News h₀ L h ((I, oI) :: (C, oC) :: (D, lst ys) :: nws) → Off3 I C D nws → ((@Ne Nat I C) ∧ (@Ne Nat I D) ∧ (@Ne Nat C D)) →
      (P i = true → ∀ t, R (.int (g i) t) nws) → (P i = false → R0 nws) →
      wpAny (model prog w) A (isTrue ct (compEnvC scope cl C env) (eval ct (compEnvC scope cl C env))) (fun ok s' => if ok = true then
        wpAny (model prog w) A (eval elt (compEnvC scope cl C env)) (CompEnd h₀ L m { s with heap := h, toks := tk } I oI C oC D (lst ys) (fun _ => True) R) E' s' else CompEnd h₀ L m { s with heap := h, toks := tk } I oI C oC D (lst ys) (fun _ => True) (fun _ nw => R0 nw) Value.none s') E' { s with heap := h, toks := tk })
    (fin : ∀ ys, IntsAre ys (((List.range 8).filter P).map g) → Fin ys nws) :
    ∀ (k i : Nat) ys, i + k = 8 → IntsAre ys (((List.range i).filter P).map g) →
      CompRestT prog w A h₀ L m env ct elt x scope cl s (fun _ => True) (fun i v => ∃ t, v = .int (0 + (i : Int)) t) Fin k i ys nws := by
  intro k
  induction k with
  | zero =>
    intro i ys hi hp
    have : i = 8 := by omega
    subst this
    exact CompRestT.zero (fin ys hp)
  | succ k ih =>
    intro i ys hi hp
    refine CompRestT.succ fun v I oI C oC D m₂ h tk E' hv hNs h1 F N off ne => ?_
    obtain ⟨t, rfl⟩ := hv
    rw [Int.zero_add] at h1
    refine turn i t ys (by omega) I oI C oC D m₂ h tk E' _ (fun nw => CompRestT prog w A h₀ L m env ct elt x scope cl s (fun _ => True) (fun i v => ∃ t, v = .int (0 + (i : Int)) t) Fin k (i + 1) ys nw) hNs h1 F N off ne (fun hb t => ?_) (fun hb => ?_)
    · exact ih (i + 1) _ (by omega) (by rw [range_filter_t hb]; exact ints_snoc hp)
    · exact ih (i + 1) _ (by omega) (by rw [range_filter_f hb]; exact hp)
noncomputable def sqI (μ : Nat) (k : Int) : Int := (((List.range 8).filter fun u => decide (onesI ((u : Nat) : Int) = k)).map fun u => WVi μ ((u : Nat) : Int) ^ 2).sum
end
end Mine
end
section -- LAWJ
namespace Mine
theorem offLAWJ : True := by
  w_top off
  exact trivial
local macro_rules | `(tactic| k_all) => `(tactic| assumption)
theorem wv_abs (μ : Nat) (k : Int) : (WVi μ k).natAbs < 2 ^ 64 := by
  have h := WVi_bd μ k
  omega
noncomputable def lawJ : Stage lawI.P := Stage.mk _ <| by
  w_top off
  intro hP9
  intro w9
  intros
  (rename T => τ)
  (with_reducible rename News _ _ _ _ => N)
  (with_reducible rename Fr _ _ _ _ => F)
  (with_reducible rename IntsAre _ (WV _) => hWV)
  repeat ((fail_if_success (with_reducible show SrcA _ _ _ _ _ _ _ _ _ _ _ _ _ _ _)); (first | ((first | ((with_reducible show wpAny _ _ (binaryOp Operator.Pow (Value.int _ _) (Value.int _ _)) _ _ _); (k_here; k_dflt (refine pow_int_small (by decide) (by decide) (wv_abs _ _) ?_))) | (k_here; (with_reducible show wpAny _ _ (call (Value.ref 263) [_]) _ _ _); k_dflt (refine' ones_c _ _ _ _ _ _ ?p0 ?p8 _ _ _ _ _ _ _ _ _ _ _ _ _ _ _ _ _ _ ?k1 ?k2 ?k3 ?k4 ?k5 ?kK ?kd ?ku ?_); (case p0 => assumption); (case p8 => assumption); (case k1 => k_asm); (case k2 => k_asm); (case k3 => k_asm); (case k4 => k_asm); (case k5 => k_asm); (case kK => exact rfl); (case kd => exact law_dp (by decide)); (case ku => exact law_un (by decide)); intro tS hS tkS FS NS; dsimp only) | (k_here; (with_reducible show wpAny _ _ (subscriptTail _ _ (Value.ref _) (Value.int _ _)) _ _ _); k_dflt (refine' sub_wv ?k1 ?k2 ?k3 ?k4 ?k5 ?_; (case k1 => k_asm); (case k2 => k_mem); (case k3 => assumption); (case k4 => assumption); (case k5 => assumption)); intro tW) | (k_here; (with_reducible show wpAny _ _ (call (Value.builtin "sum") [Value.ref _]) _ _ _); k_dflt (refine' sumN ?k0 ?k1 ?k2 ?k3 ?k4 ?_; (case k0 => rfl); (case k1 => k_asm); (case k2 => k_asm); (case k3 => k_mem); (case k4 => assumption)); intro h' tk' t' F' N') | ((fail_if_success (with_reducible show wpAny _ _ _ _ _ _)); (unfold TurnC; intro I' oI' C' oC' c' oc' D' m' ys' h' tk' E' hC' hcd' F' N' off' ne' hMark'; clear ne'; (try dsimp only))) | ((with_reducible show wpAny _ _ (eval (Expr.ListComp _ _ _ _) _) _ _ _); (k_here; k_dflt (refine LCt.ListComp_T (F₀ := by k_asm) (by with_unfolding_all rfl) (by decide) (by rfl) (by decide) (by rfl) ?_))) | ((with_reducible show wpAny _ _ (exec (Stmt.Assign [_] (Expr.ListComp _ _ _ _) _) _) _ _ _); (k_here; k_dflt (refine Assign_ListComp_C (by k_asm) (by rfl) (by with_unfolding_all rfl) (by with_unfolding_all rfl) (by intro n; rfl) (by intro h; rfl) (by rfl) (by decide) (by rfl) (by rfl) (by rfl) ?_))) | walk1); (try dsimp only)) | (dsimp only; (first | ((with_reducible show wpAny _ _ (binaryOp Operator.Pow (Value.int _ _) (Value.int _ _)) _ _ _); (k_here; k_dflt (refine pow_int_small (by decide) (by decide) (wv_abs _ _) ?_))) | (k_here; (with_reducible show wpAny _ _ (call (Value.ref 263) [_]) _ _ _); k_dflt (refine' ones_c _ _ _ _ _ _ ?p0 ?p8 _ _ _ _ _ _ _ _ _ _ _ _ _ _ _ _ _ _ ?k1 ?k2 ?k3 ?k4 ?k5 ?kK ?kd ?ku ?_); (case p0 => assumption); (case p8 => assumption); (case k1 => k_asm); (case k2 => k_asm); (case k3 => k_asm); (case k4 => k_asm); (case k5 => k_asm); (case kK => exact rfl); (case kd => exact law_dp (by decide)); (case ku => exact law_un (by decide)); intro tS hS tkS FS NS; dsimp only) | (k_here; (with_reducible show wpAny _ _ (subscriptTail _ _ (Value.ref _) (Value.int _ _)) _ _ _); k_dflt (refine' sub_wv ?k1 ?k2 ?k3 ?k4 ?k5 ?_; (case k1 => k_asm); (case k2 => k_mem); (case k3 => assumption); (case k4 => assumption); (case k5 => assumption)); intro tW) | (k_here; (with_reducible show wpAny _ _ (call (Value.builtin "sum") [Value.ref _]) _ _ _); k_dflt (refine' sumN ?k0 ?k1 ?k2 ?k3 ?k4 ?_; (case k0 => rfl); (case k1 => k_asm); (case k2 => k_asm); (case k3 => k_mem); (case k4 => assumption)); intro h' tk' t' F' N') | ((fail_if_success (with_reducible show wpAny _ _ _ _ _ _)); (unfold TurnC; intro I' oI' C' oC' c' oc' D' m' ys' h' tk' E' hC' hcd' F' N' off' ne' hMark'; clear ne'; (try dsimp only))) | ((with_reducible show wpAny _ _ (eval (Expr.ListComp _ _ _ _) _) _ _ _); (k_here; k_dflt (refine LCt.ListComp_T (F₀ := by k_asm) (by with_unfolding_all rfl) (by decide) (by rfl) (by decide) (by rfl) ?_))) | ((with_reducible show wpAny _ _ (exec (Stmt.Assign [_] (Expr.ListComp _ _ _ _) _) _) _ _ _); (k_here; k_dflt (refine Assign_ListComp_C (by k_asm) (by rfl) (by with_unfolding_all rfl) (by with_unfolding_all rfl) (by intro n; rfl) (by intro h; rfl) (by rfl) (by decide) (by rfl) (by rfl) (by rfl) ?_))) | walk1))))
  (with_reducible rename IsRange _ _ _ _ _ _ _ _ => hR)
  (with_reducible rename News _ _ _ _ => N1)
  (with_reducible rename Fr _ _ _ _ => F1)
  refine' SrcA.r4 (sqI τ.mask) ?r0 F1 N1 hR (fun g' k tu hlo hhi => ?turn) (fun g' ys9 hI9 => ?fin)
  case r0 => rfl
  case turn =>
    clear F1 N1 hR
    (unfold TurnC; intro I' oI' C' oC' c' oc' D' m' ys' h' tk' E' hC' hcd' F' N' off' ne' hMark'; clear ne'; (try dsimp only))
    repeat ((fail_if_success (with_reducible show LCt.CompSrcT _ _ _ _ _ _ _ _ _ _ _ _ _ _ _)); (first | ((first | ((with_reducible show wpAny _ _ (binaryOp Operator.Pow (Value.int _ _) (Value.int _ _)) _ _ _); (k_here; k_dflt (refine pow_int_small (by decide) (by decide) (wv_abs _ _) ?_))) | (k_here; (with_reducible show wpAny _ _ (call (Value.ref 263) [_]) _ _ _); k_dflt (refine' ones_c _ _ _ _ _ _ ?p0 ?p8 _ _ _ _ _ _ _ _ _ _ _ _ _ _ _ _ _ _ ?k1 ?k2 ?k3 ?k4 ?k5 ?kK ?kd ?ku ?_); (case p0 => assumption); (case p8 => assumption); (case k1 => k_asm); (case k2 => k_asm); (case k3 => k_asm); (case k4 => k_asm); (case k5 => k_asm); (case kK => exact rfl); (case kd => exact law_dp (by decide)); (case ku => exact law_un (by decide)); intro tS hS tkS FS NS; dsimp only) | (k_here; (with_reducible show wpAny _ _ (subscriptTail _ _ (Value.ref _) (Value.int _ _)) _ _ _); k_dflt (refine' sub_wv ?k1 ?k2 ?k3 ?k4 ?k5 ?_; (case k1 => k_asm); (case k2 => k_mem); (case k3 => assumption); (case k4 => assumption); (case k5 => assumption)); intro tW) | (k_here; (with_reducible show wpAny _ _ (call (Value.builtin "sum") [Value.ref _]) _ _ _); k_dflt (refine' sumN ?k0 ?k1 ?k2 ?k3 ?k4 ?_; (case k0 => rfl); (case k1 => k_asm); (case k2 => k_asm); (case k3 => k_mem); (case k4 => assumption)); intro h' tk' t' F' N') | ((fail_if_success (with_reducible show wpAny _ _ _ _ _ _)); (unfold TurnC; intro I' oI' C' oC' c' oc' D' m' ys' h' tk' E' hC' hcd' F' N' off' ne' hMark'; clear ne'; (try dsimp only))) | ((with_reducible show wpAny _ _ (eval (Expr.ListComp _ _ _ _) _) _ _ _); (k_here; k_dflt (refine LCt.ListComp_T (F₀ := by k_asm) (by with_unfolding_all rfl) (by decide) (by rfl) (by decide) (by rfl) ?_))) | ((with_reducible show wpAny _ _ (exec (Stmt.Assign [_] (Expr.ListComp _ _ _ _) _) _) _ _ _); (k_here; k_dflt (refine Assign_ListComp_C (by k_asm) (by rfl) (by with_unfolding_all rfl) (by with_unfolding_all rfl) (by intro n; rfl) (by intro h; rfl) (by rfl) (by decide) (by rfl) (by rfl) (by rfl) ?_))) | walk1); (try dsimp only)) | (dsimp only; (first | ((with_reducible show wpAny _ _ (binaryOp Operator.Pow (Value.int _ _) (Value.int _ _)) _ _ _); (k_here; k_dflt (refine pow_int_small (by decide) (by decide) (wv_abs _ _) ?_))) | (k_here; (with_reducible show wpAny _ _ (call (Value.ref 263) [_]) _ _ _); k_dflt (refine' ones_c _ _ _ _ _ _ ?p0 ?p8 _ _ _ _ _ _ _ _ _ _ _ _ _ _ _ _ _ _ ?k1 ?k2 ?k3 ?k4 ?k5 ?kK ?kd ?ku ?_); (case p0 => assumption); (case p8 => assumption); (case k1 => k_asm); (case k2 => k_asm); (case k3 => k_asm); (case k4 => k_asm); (case k5 => k_asm); (case kK => exact rfl); (case kd => exact law_dp (by decide)); (case ku => exact law_un (by decide)); intro tS hS tkS FS NS; dsimp only) | (k_here; (with_reducible show wpAny _ _ (subscriptTail _ _ (Value.ref _) (Value.int _ _)) _ _ _); k_dflt (refine' sub_wv ?k1 ?k2 ?k3 ?k4 ?k5 ?_; (case k1 => k_asm); (case k2 => k_mem); (case k3 => assumption); (case k4 => assumption); (case k5 => assumption)); intro tW) | (k_here; (with_reducible show wpAny _ _ (call (Value.builtin "sum") [Value.ref _]) _ _ _); k_dflt (refine' sumN ?k0 ?k1 ?k2 ?k3 ?k4 ?_; (case k0 => rfl); (case k1 => k_asm); (case k2 => k_asm); (case k3 => k_mem); (case k4 => assumption)); intro h' tk' t' F' N') | ((fail_if_success (with_reducible show wpAny _ _ _ _ _ _)); (unfold TurnC; intro I' oI' C' oC' c' oc' D' m' ys' h' tk' E' hC' hcd' F' N' off' ne' hMark'; clear ne'; (try dsimp only))) | ((with_reducible show wpAny _ _ (eval (Expr.ListComp _ _ _ _) _) _ _ _); (k_here; k_dflt (refine LCt.ListComp_T (F₀ := by k_asm) (by with_unfolding_all rfl) (by decide) (by rfl) (by decide) (by rfl) ?_))) | ((with_reducible show wpAny _ _ (exec (Stmt.Assign [_] (Expr.ListComp _ _ _ _) _) _) _ _ _); (k_here; k_dflt (refine Assign_ListComp_C (by k_asm) (by rfl) (by with_unfolding_all rfl) (by with_unfolding_all rfl) (by intro n; rfl) (by intro h; rfl) (by rfl) (by decide) (by rfl) (by rfl) (by rfl) ?_))) | walk1))))
    try dsimp only
    (with_reducible rename IsRange _ _ _ _ _ _ _ _ => hR2)
    (with_reducible rename News _ _ _ _ => N2)
    (with_reducible rename Fr _ _ _ _ => F2)
    refine LCt.CompSrcT.range (n := 8) (by rfl) F2 N2 hR2 (by decide) (rangeSize_nat 0 8) (by exact Nat.le_of_ble_eq_true rfl) ?_
    intro g9
    clear hR2 N2 F2
    refine test_rest (fun u => decide (onesI ((u : Nat) : Int) = k)) (fun u => WVi τ.mask ((u : Nat) : Int) ^ 2) _ ?turn2 ?fin2 8 0 [] rfl .nil
    case turn2 =>
      intro i t ys hi8 I oI C oC D m₂ h tk E' R R0 hNs h1 F N off ne hR1 hR0
      have hi8z : ((i : Nat) : Int) < 8 := by omega
      have hi0z : (0 : Int) ≤ ((i : Nat) : Int) := by omega
      clear ne
      (repeat' (first | (k_unfold; (try dsimp only)) | ((first | ((with_reducible show wpAny _ _ (binaryOp Operator.Pow (Value.int _ _) (Value.int _ _)) _ _ _); (k_here; k_dflt (refine pow_int_small (by decide) (by decide) (wv_abs _ _) ?_))) | (k_here; (with_reducible show wpAny _ _ (call (Value.ref 263) [_]) _ _ _); k_dflt (refine' ones_c _ _ _ _ _ _ ?p0 ?p8 _ _ _ _ _ _ _ _ _ _ _ _ _ _ _ _ _ _ ?k1 ?k2 ?k3 ?k4 ?k5 ?kK ?kd ?ku ?_); (case p0 => assumption); (case p8 => assumption); (case k1 => k_asm); (case k2 => k_asm); (case k3 => k_asm); (case k4 => k_asm); (case k5 => k_asm); (case kK => exact rfl); (case kd => exact law_dp (by decide)); (case ku => exact law_un (by decide)); intro tS hS tkS FS NS; dsimp only) | (k_here; (with_reducible show wpAny _ _ (subscriptTail _ _ (Value.ref _) (Value.int _ _)) _ _ _); k_dflt (refine' sub_wv ?k1 ?k2 ?k3 ?k4 ?k5 ?_; (case k1 => k_asm); (case k2 => k_mem); (case k3 => assumption); (case k4 => assumption); (case k5 => assumption)); intro tW) | (k_here; (with_reducible show wpAny _ _ (call (Value.builtin "sum") [Value.ref _]) _ _ _); k_dflt (refine' sumN ?k0 ?k1 ?k2 ?k3 ?k4 ?_; (case k0 => rfl); (case k1 => k_asm); (case k2 => k_asm); (case k3 => k_mem); (case k4 => assumption)); intro h' tk' t' F' N') | ((fail_if_success (with_reducible show wpAny _ _ _ _ _ _)); (unfold TurnC; intro I' oI' C' oC' c' oc' D' m' ys' h' tk' E' hC' hcd' F' N' off' ne' hMark'; clear ne'; (try dsimp only))) | ((with_reducible show wpAny _ _ (eval (Expr.ListComp _ _ _ _) _) _ _ _); (k_here; k_dflt (refine LCt.ListComp_T (F₀ := by k_asm) (by with_unfolding_all rfl) (by decide) (by rfl) (by decide) (by rfl) ?_))) | ((with_reducible show wpAny _ _ (exec (Stmt.Assign [_] (Expr.ListComp _ _ _ _) _) _) _ _ _); (k_here; k_dflt (refine Assign_ListComp_C (by k_asm) (by rfl) (by with_unfolding_all rfl) (by with_unfolding_all rfl) (by intro n; rfl) (by intro h; rfl) (by rfl) (by decide) (by rfl) (by rfl) (by rfl) ?_))) | walk1); (try dsimp only)) | (dsimp only; (first | ((with_reducible show wpAny _ _ (binaryOp Operator.Pow (Value.int _ _) (Value.int _ _)) _ _ _); (k_here; k_dflt (refine pow_int_small (by decide) (by decide) (wv_abs _ _) ?_))) | (k_here; (with_reducible show wpAny _ _ (call (Value.ref 263) [_]) _ _ _); k_dflt (refine' ones_c _ _ _ _ _ _ ?p0 ?p8 _ _ _ _ _ _ _ _ _ _ _ _ _ _ _ _ _ _ ?k1 ?k2 ?k3 ?k4 ?k5 ?kK ?kd ?ku ?_); (case p0 => assumption); (case p8 => assumption); (case k1 => k_asm); (case k2 => k_asm); (case k3 => k_asm); (case k4 => k_asm); (case k5 => k_asm); (case kK => exact rfl); (case kd => exact law_dp (by decide)); (case ku => exact law_un (by decide)); intro tS hS tkS FS NS; dsimp only) | (k_here; (with_reducible show wpAny _ _ (subscriptTail _ _ (Value.ref _) (Value.int _ _)) _ _ _); k_dflt (refine' sub_wv ?k1 ?k2 ?k3 ?k4 ?k5 ?_; (case k1 => k_asm); (case k2 => k_mem); (case k3 => assumption); (case k4 => assumption); (case k5 => assumption)); intro tW) | (k_here; (with_reducible show wpAny _ _ (call (Value.builtin "sum") [Value.ref _]) _ _ _); k_dflt (refine' sumN ?k0 ?k1 ?k2 ?k3 ?k4 ?_; (case k0 => rfl); (case k1 => k_asm); (case k2 => k_asm); (case k3 => k_mem); (case k4 => assumption)); intro h' tk' t' F' N') | ((fail_if_success (with_reducible show wpAny _ _ _ _ _ _)); (unfold TurnC; intro I' oI' C' oC' c' oc' D' m' ys' h' tk' E' hC' hcd' F' N' off' ne' hMark'; clear ne'; (try dsimp only))) | ((with_reducible show wpAny _ _ (eval (Expr.ListComp _ _ _ _) _) _ _ _); (k_here; k_dflt (refine LCt.ListComp_T (F₀ := by k_asm) (by with_unfolding_all rfl) (by decide) (by rfl) (by decide) (by rfl) ?_))) | ((with_reducible show wpAny _ _ (exec (Stmt.Assign [_] (Expr.ListComp _ _ _ _) _) _) _ _ _); (k_here; k_dflt (refine Assign_ListComp_C (by k_asm) (by rfl) (by with_unfolding_all rfl) (by with_unfolding_all rfl) (by intro n; rfl) (by intro h; rfl) (by rfl) (by decide) (by rfl) (by rfl) (by rfl) ?_))) | walk1)) | (leave1; (try dsimp only))))
      · (with_reducible rename _ = k => hb)
        exact ⟨_, _, _, rfl, FS, NS, off, trivial, hR1 (decide_eq_true hb) _⟩
      · (with_reducible rename _ ≠ k => hb)
        exact ⟨_, _, _, rfl, FS, NS, off, trivial, hR0 (decide_eq_false hb)⟩
    case fin2 =>
      intro ys hys D h tk F N off
      dsimp only
      (repeat' (first | (k_unfold; (try dsimp only)) | ((first | ((with_reducible show wpAny _ _ (binaryOp Operator.Pow (Value.int _ _) (Value.int _ _)) _ _ _); (k_here; k_dflt (refine pow_int_small (by decide) (by decide) (wv_abs _ _) ?_))) | (k_here; (with_reducible show wpAny _ _ (call (Value.ref 263) [_]) _ _ _); k_dflt (refine' ones_c _ _ _ _ _ _ ?p0 ?p8 _ _ _ _ _ _ _ _ _ _ _ _ _ _ _ _ _ _ ?k1 ?k2 ?k3 ?k4 ?k5 ?kK ?kd ?ku ?_); (case p0 => assumption); (case p8 => assumption); (case k1 => k_asm); (case k2 => k_asm); (case k3 => k_asm); (case k4 => k_asm); (case k5 => k_asm); (case kK => exact rfl); (case kd => exact law_dp (by decide)); (case ku => exact law_un (by decide)); intro tS hS tkS FS NS; dsimp only) | (k_here; (with_reducible show wpAny _ _ (subscriptTail _ _ (Value.ref _) (Value.int _ _)) _ _ _); k_dflt (refine' sub_wv ?k1 ?k2 ?k3 ?k4 ?k5 ?_; (case k1 => k_asm); (case k2 => k_mem); (case k3 => assumption); (case k4 => assumption); (case k5 => assumption)); intro tW) | (k_here; (with_reducible show wpAny _ _ (call (Value.builtin "sum") [Value.ref _]) _ _ _); k_dflt (refine' sumN ?k0 ?k1 ?k2 ?k3 ?k4 ?_; (case k0 => rfl); (case k1 => k_asm); (case k2 => k_asm); (case k3 => k_mem); (case k4 => assumption)); intro h' tk' t' F' N') | ((fail_if_success (with_reducible show wpAny _ _ _ _ _ _)); (unfold TurnC; intro I' oI' C' oC' c' oc' D' m' ys' h' tk' E' hC' hcd' F' N' off' ne' hMark'; clear ne'; (try dsimp only))) | ((with_reducible show wpAny _ _ (eval (Expr.ListComp _ _ _ _) _) _ _ _); (k_here; k_dflt (refine LCt.ListComp_T (F₀ := by k_asm) (by with_unfolding_all rfl) (by decide) (by rfl) (by decide) (by rfl) ?_))) | ((with_reducible show wpAny _ _ (exec (Stmt.Assign [_] (Expr.ListComp _ _ _ _) _) _) _ _ _); (k_here; k_dflt (refine Assign_ListComp_C (by k_asm) (by rfl) (by with_unfolding_all rfl) (by with_unfolding_all rfl) (by intro n; rfl) (by intro h; rfl) (by rfl) (by decide) (by rfl) (by rfl) (by rfl) ?_))) | walk1); (try dsimp only)) | (dsimp only; (first | ((with_reducible show wpAny _ _ (binaryOp Operator.Pow (Value.int _ _) (Value.int _ _)) _ _ _); (k_here; k_dflt (refine pow_int_small (by decide) (by decide) (wv_abs _ _) ?_))) | (k_here; (with_reducible show wpAny _ _ (call (Value.ref 263) [_]) _ _ _); k_dflt (refine' ones_c _ _ _ _ _ _ ?p0 ?p8 _ _ _ _ _ _ _ _ _ _ _ _ _ _ _ _ _ _ ?k1 ?k2 ?k3 ?k4 ?k5 ?kK ?kd ?ku ?_); (case p0 => assumption); (case p8 => assumption); (case k1 => k_asm); (case k2 => k_asm); (case k3 => k_asm); (case k4 => k_asm); (case k5 => k_asm); (case kK => exact rfl); (case kd => exact law_dp (by decide)); (case ku => exact law_un (by decide)); intro tS hS tkS FS NS; dsimp only) | (k_here; (with_reducible show wpAny _ _ (subscriptTail _ _ (Value.ref _) (Value.int _ _)) _ _ _); k_dflt (refine' sub_wv ?k1 ?k2 ?k3 ?k4 ?k5 ?_; (case k1 => k_asm); (case k2 => k_mem); (case k3 => assumption); (case k4 => assumption); (case k5 => assumption)); intro tW) | (k_here; (with_reducible show wpAny _ _ (call (Value.builtin "sum") [Value.ref _]) _ _ _); k_dflt (refine' sumN ?k0 ?k1 ?k2 ?k3 ?k4 ?_; (case k0 => rfl); (case k1 => k_asm); (case k2 => k_asm); (case k3 => k_mem); (case k4 => assumption)); intro h' tk' t' F' N') | ((fail_if_success (with_reducible show wpAny _ _ _ _ _ _)); (unfold TurnC; intro I' oI' C' oC' c' oc' D' m' ys' h' tk' E' hC' hcd' F' N' off' ne' hMark'; clear ne'; (try dsimp only))) | ((with_reducible show wpAny _ _ (eval (Expr.ListComp _ _ _ _) _) _ _ _); (k_here; k_dflt (refine LCt.ListComp_T (F₀ := by k_asm) (by with_unfolding_all rfl) (by decide) (by rfl) (by decide) (by rfl) ?_))) | ((with_reducible show wpAny _ _ (exec (Stmt.Assign [_] (Expr.ListComp _ _ _ _) _) _) _ _ _); (k_here; k_dflt (refine Assign_ListComp_C (by k_asm) (by rfl) (by with_unfolding_all rfl) (by with_unfolding_all rfl) (by intro n; rfl) (by intro h; rfl) (by rfl) (by decide) (by rfl) (by rfl) (by rfl) ?_))) | walk1)) | (leave1; (try dsimp only))))
      exact ⟨rfl, _, rfl⟩
  case fin =>
    intro D9 h tk F N off
    dsimp only
    clear off F1 N1 hR
    repeat (first | ((fail_if_success (with_reducible show wpAny _ _ (eval (Expr.ListComp _ _ _ _) _) _ _ _)); (first | ((with_reducible show wpAny _ _ (binaryOp Operator.Pow (Value.int _ _) (Value.int _ _)) _ _ _); (k_here; k_dflt (refine pow_int_small (by decide) (by decide) (wv_abs _ _) ?_))) | (k_here; (with_reducible show wpAny _ _ (call (Value.ref 263) [_]) _ _ _); k_dflt (refine' ones_c _ _ _ _ _ _ ?p0 ?p8 _ _ _ _ _ _ _ _ _ _ _ _ _ _ _ _ _ _ ?k1 ?k2 ?k3 ?k4 ?k5 ?kK ?kd ?ku ?_); (case p0 => assumption); (case p8 => assumption); (case k1 => k_asm); (case k2 => k_asm); (case k3 => k_asm); (case k4 => k_asm); (case k5 => k_asm); (case kK => exact rfl); (case kd => exact law_dp (by decide)); (case ku => exact law_un (by decide)); intro tS hS tkS FS NS; dsimp only) | (k_here; (with_reducible show wpAny _ _ (subscriptTail _ _ (Value.ref _) (Value.int _ _)) _ _ _); k_dflt (refine' sub_wv ?k1 ?k2 ?k3 ?k4 ?k5 ?_; (case k1 => k_asm); (case k2 => k_mem); (case k3 => assumption); (case k4 => assumption); (case k5 => assumption)); intro tW) | (k_here; (with_reducible show wpAny _ _ (call (Value.builtin "sum") [Value.ref _]) _ _ _); k_dflt (refine' sumN ?k0 ?k1 ?k2 ?k3 ?k4 ?_; (case k0 => rfl); (case k1 => k_asm); (case k2 => k_asm); (case k3 => k_mem); (case k4 => assumption)); intro h' tk' t' F' N') | ((fail_if_success (with_reducible show wpAny _ _ _ _ _ _)); (unfold TurnC; intro I' oI' C' oC' c' oc' D' m' ys' h' tk' E' hC' hcd' F' N' off' ne' hMark'; clear ne'; (try dsimp only))) | ((with_reducible show wpAny _ _ (eval (Expr.ListComp _ _ _ _) _) _ _ _); (k_here; k_dflt (refine LCt.ListComp_T (F₀ := by k_asm) (by with_unfolding_all rfl) (by decide) (by rfl) (by decide) (by rfl) ?_))) | ((with_reducible show wpAny _ _ (exec (Stmt.Assign [_] (Expr.ListComp _ _ _ _) _) _) _ _ _); (k_here; k_dflt (refine Assign_ListComp_C (by k_asm) (by rfl) (by with_unfolding_all rfl) (by with_unfolding_all rfl) (by intro n; rfl) (by intro h; rfl) (by rfl) (by decide) (by rfl) (by rfl) (by rfl) ?_))) | walk1)) | ((fail_if_success (with_reducible show wpAny _ _ (eval (Expr.ListComp _ _ _ _) _) _ _ _)); dsimp only; (first | ((with_reducible show wpAny _ _ (binaryOp Operator.Pow (Value.int _ _) (Value.int _ _)) _ _ _); (k_here; k_dflt (refine pow_int_small (by decide) (by decide) (wv_abs _ _) ?_))) | (k_here; (with_reducible show wpAny _ _ (call (Value.ref 263) [_]) _ _ _); k_dflt (refine' ones_c _ _ _ _ _ _ ?p0 ?p8 _ _ _ _ _ _ _ _ _ _ _ _ _ _ _ _ _ _ ?k1 ?k2 ?k3 ?k4 ?k5 ?kK ?kd ?ku ?_); (case p0 => assumption); (case p8 => assumption); (case k1 => k_asm); (case k2 => k_asm); (case k3 => k_asm); (case k4 => k_asm); (case k5 => k_asm); (case kK => exact rfl); (case kd => exact law_dp (by decide)); (case ku => exact law_un (by decide)); intro tS hS tkS FS NS; dsimp only) | (k_here; (with_reducible show wpAny _ _ (subscriptTail _ _ (Value.ref _) (Value.int _ _)) _ _ _); k_dflt (refine' sub_wv ?k1 ?k2 ?k3 ?k4 ?k5 ?_; (case k1 => k_asm); (case k2 => k_mem); (case k3 => assumption); (case k4 => assumption); (case k5 => assumption)); intro tW) | (k_here; (with_reducible show wpAny _ _ (call (Value.builtin "sum") [Value.ref _]) _ _ _); k_dflt (refine' sumN ?k0 ?k1 ?k2 ?k3 ?k4 ?_; (case k0 => rfl); (case k1 => k_asm); (case k2 => k_asm); (case k3 => k_mem); (case k4 => assumption)); intro h' tk' t' F' N') | ((fail_if_success (with_reducible show wpAny _ _ _ _ _ _)); (unfold TurnC; intro I' oI' C' oC' c' oc' D' m' ys' h' tk' E' hC' hcd' F' N' off' ne' hMark'; clear ne'; (try dsimp only))) | ((with_reducible show wpAny _ _ (eval (Expr.ListComp _ _ _ _) _) _ _ _); (k_here; k_dflt (refine LCt.ListComp_T (F₀ := by k_asm) (by with_unfolding_all rfl) (by decide) (by rfl) (by decide) (by rfl) ?_))) | ((with_reducible show wpAny _ _ (exec (Stmt.Assign [_] (Expr.ListComp _ _ _ _) _) _) _ _ _); (k_here; k_dflt (refine Assign_ListComp_C (by k_asm) (by rfl) (by with_unfolding_all rfl) (by with_unfolding_all rfl) (by intro n; rfl) (by intro h; rfl) (by rfl) (by decide) (by rfl) (by rfl) (by rfl) ?_))) | walk1)))
    (repeat (with_unfolding_none rename _ => z9; revert z9))
    exact fun h => h.h
end Mine
end
section -- LAWK0
namespace Mine
theorem offLAWK0 : True := by
  w_top off
  exact trivial
noncomputable def rowsL : List (List Int) := [[1, 1, 1, 1], [3, 1, -1, -3], [3, -1, -1, 3], [1, -1, 1, -1]]
noncomputable def dot4 (ap row : List Int) : Int := ((rangeKs 0 4).map fun i => row.getD i.toNat 0 * ap.getD i.toNat 0).sum
theorem law_fin : ∀ μ, μ < 256 → (rangeKs 0 4).map (sqI μ) = rowsL.map (dot4 (apL μ)) := by decide +kernel
noncomputable def RowAt (news : List (Addr × Obj)) (k : List Int) (v : Value) : Prop := ∃ r vs n, v = .ref r ∧ (r, listOf (List.toArray vs) n) ∈ news ∧ IntsAre vs k ∧ k.length = 4 ∧ ∀ x ∈ k, -3 ≤ x ∧ x ≤ 3
theorem ints_ap {a b c d : Int} {l : List Int} {t1 t2 t3 t4 : Tok} (h : [a, b, c, d] = l) : IntsAre [.int a t1, .int b t2, .int c t3, .int d t4] l := h ▸ .cons _ _ (.cons _ _ (.cons _ _ (.cons _ _ .nil)))
theorem rows_bd : ∀ k ∈ rowsL, k.length = 4 ∧ ∀ x ∈ k, -3 ≤ x ∧ x ≤ 3 := by decide
theorem getD_bd {k : List Int} (h : ∀ x ∈ k, -3 ≤ x ∧ x ≤ 3) (i : Nat) : -3 ≤ k.getD i 0 ∧ k.getD i 0 ≤ 3 := by
  rw [List.getD_eq_getElem?_getD]
  cases e : k[i]? with
  | none => exact ⟨by decide, by decide⟩
  | some x => exact h x (List.mem_of_getElem? e)
section
open PyProof.Rows.LCg PySem.Spec PySem.Calls
variable {prog : Program} {w : World} {A : Around} {E : Value → Shared → Prop} {s : Shared} {h₀ : Heap} {L : Addr} {m : Str → Option Value} {env : Env}
theorem sub_four {D : Addr} {vs : List Value} {n : Nat} {k : Int} {u : Tok} {news : List (Addr × Obj)} {value slice : PySem.Expr} {ns : List Int} {Q : Value → Shared → Prop} (N : News h₀ L s.heap news) (hm : (D, listOf vs.toArray n) ∈ news) (hi : IntsAre vs ns) (hl : ns.length = 4) (h0 : 0 ≤ k) (h1 : k < 4) (h : ∀ t, Q (.int (ns.getD k.toNat 0) t) s)
    (hs : subscripted slice false (.ref D) (.int k u) = operate [.ref D, .int k u] (getItem (.ref D) (.int k u)) := by with_unfolding_all rfl) :
    wpAny (model prog w) A (subscriptTail value slice (.ref D) (.int k u)) Q E s :=
  ksa_sub N hm hi h0 (by rw [hl]; omega) (by omega) h hs
theorem mul_row {k ap : List Int} {i j : Nat} {t u : Tok} (hb : ∀ x ∈ k, -3 ≤ x ∧ x ≤ 3) {Q : Value → Shared → Prop} (h : Q (.int (k.getD i 0 * ap.getD j 0) s.toks) { s with toks := s.toks + 1 }) : wpAny (model prog w) A (binaryOp .Mult (.int (k.getD i 0) t) (.int (ap.getD j 0) u)) Q E s := by
  have hb := getD_bd hb i
  exact mul_int h (IntMulOk.of_left (intBits_le_64 (by omega) (by omega)))
theorem src4 {elt : PySem.Expr} {x : Str} {scope : Scope} {cl : List (Str × Addr)} {Fin : Shared → List Value → List (Addr × Obj) → Prop} {r : Addr} {t u v : Tok} {news : List (Addr × Obj)} {s₁ : Shared} (g : Int → Int)
    (hh : A.handled = none) (F : Fr h₀ L s₁.heap m) (N : News h₀ L s₁.heap news) (hr : IsRange s₁.heap r 0 4 1 t u v)
    (turn : ∀ g' k t I oI C oC D m₂ ys h tk (E' : Value → Shared → Prop), 0 ≤ k → k < 4 → NsObj oC m₂ → m₂ x = some (.int k t) → Fr h₀ L h m → News h₀ L h ((I, oI) :: (C, oC) :: (D, lst ys) :: news) → Off3 I C D news → KPfMark →
      wpAny (model prog w) A (eval elt (compEnvC scope cl C env)) (CompEnd h₀ L m { s₁ with heap := h, gens := ({ s₁ with heap := g' } : Shared).gens, toks := tk } I oI C oC D (lst ys) (fun _ => True) (fun y news' => KCfEl news (g k) y news')) E' { s₁ with heap := h, toks := tk })
    (fin : ∀ g' ys, IntsAre ys ((rangeKs 0 4).map g) → Fin { s₁ with heap := g' } ys news) : LCg.CompSrc prog w A h₀ L m env elt x scope cl Fin (.ref r) s₁ :=
  LCg.CompSrc.range (n := 4) hh F N hr (by decide) (rangeSize_nat 0 4) (by exact Nat.le_of_ble_eq_true rfl) fun g' => kcf_range g (fun k t I oI C oC D m₂ ys h tk E' h1 h2 hC hx F' N' off _ mk => turn g' k t I oI C oC D m₂ ys h tk E' h1 (by simpa using h2) hC hx F' N' off mk) (fin g')
noncomputable def SrcCK (prog : Program) (w : World) (A : Around) (h₀ : Heap) (L : Addr) (m : Str → Option Value) (env : Env) (elt : PySem.Expr) (x : Str) (scope : Scope) (cl : List (Str × Addr)) (Q : Value → Shared → Prop) (xv : Value) (s₁ : Shared) : Prop :=
  ∃ ax its news, ∃ (ks : List (List Int)) (Is : List Int → Value → Prop) (g : List Int → Int), xv = .ref ax ∧ A.handled = none ∧ Fr h₀ L s₁.heap m ∧ News h₀ L s₁.heap news ∧ SrcAt h₀ ax its news ∧ its.size ≤ sizeLine ∧ AreL Is its.toList ks ∧
    ∀ s₂ : Shared, (∃ h, s₂ = { s₁ with heap := h }) → (∀ k v, k ∈ ks → Is k v → TurnC prog w A h₀ L m env elt x scope cl s₂ (SrcAt h₀ ax its) news (g k) v) ∧ (∀ ys, IntsAre ys (ks.map g) → FinE h₀ L m s₂ Q ys news)
theorem SrcCK.mk {elt : PySem.Expr} {x : Str} {scope : Scope} {cl : List (Str × Addr)} {Q : Value → Shared → Prop} {ax : Addr} {vs : List Value} {k : Nat} {news : List (Addr × Obj)} {s₁ : Shared} {ks : List (List Int)} (Is : List Int → Value → Prop) (g : List Int → Int)
    (hh : A.handled = none) (F : Fr h₀ L s₁.heap m) (N : News h₀ L s₁.heap news) (hm : (ax, ({ cls := .type "list", data := .seq vs.toArray k } : Obj)) ∈ news) (hsz : vs.length ≤ sizeLine) (hA : AreL Is vs ks)
    (h : ∀ g', ∀ k v, k ∈ ks → Is k v → TurnC prog w A h₀ L m env elt x scope cl { s₁ with heap := g' } (SrcAt h₀ ax vs.toArray) news (g k) v) (hf : ∀ g' ys, IntsAre ys (ks.map g) → FinE h₀ L m { s₁ with heap := g' } Q ys news) :
    SrcCK prog w A h₀ L m env elt x scope cl Q (.ref ax) s₁ := ⟨ax, vs.toArray, news, ks, Is, g, rfl, hh, F, N, .inr ⟨_, hm, rfl, _, rfl⟩, by simpa using hsz, hA, fun _ ⟨g', e⟩ => e ▸ ⟨h g', hf g'⟩⟩
theorem SrcCK.rows {elt : PySem.Expr} {x : Str} {scope : Scope} {cl : List (Str × Addr)} {Q : Value → Shared → Prop} {ax : Addr} {vs : List Value} {k : Nat} {news : List (Addr × Obj)} {s₁ : Shared} {ks : List (List Int)} (g : List Int → Int)
    (hh : A.handled = none) (F : Fr h₀ L s₁.heap m) (N : News h₀ L s₁.heap news) (hm : (ax, ({ cls := .type "list", data := .seq vs.toArray k } : Obj)) ∈ news) (hsz : vs.length ≤ sizeLine) (hA : AreL (RowAt news) vs ks)
    (h : ∀ g', ∀ k v, k ∈ ks → RowAt news k v → TurnC prog w A h₀ L m env elt x scope cl { s₁ with heap := g' } (SrcAt h₀ ax vs.toArray) news (g k) v) (hf : ∀ g' ys, IntsAre ys (ks.map g) → FinE h₀ L m { s₁ with heap := g' } Q ys news) :
    SrcCK prog w A h₀ L m env elt x scope cl Q (.ref ax) s₁ := SrcCK.mk (RowAt news) g hh F N hm hsz hA h hf
theorem AreL.at {α : Type} {Is : α → Value → Prop} : ∀ {vs : List Value} {ks : List α}, AreL Is vs ks → vs.length = ks.length ∧ ∀ (i : Nat) (v : Value), vs[i]? = some v → ∃ k, ks[i]? = some k ∧ Is k v
  | _, _, .nil => ⟨rfl, fun i v h => by simp at h⟩
  | _, _, .cons hk hr => by
    obtain ⟨h1, h2⟩ := hr.at
    refine ⟨by rw [List.length_cons, List.length_cons, h1], fun i v h => ?_⟩
    cases i with
    | zero => simp at h; exact ⟨_, rfl, h ▸ hk⟩
    | succ i => exact h2 i v (by simpa using h)
theorem ListComp_CK {elt iter : PySem.Expr} {x : Str} {px : Pos} {scope : Scope} {cl : List (Str × Addr)} {pos : Pos} {Q : Value → Shared → Prop} (_F₀ : Fr h₀ L s.heap m)
    (hclos : closureFor scope env = pure cl) (hone : ∀ n, cellsFrom n scope.names cl = (x, n) :: cl) (hpush : ∀ h, pushCells h scope.names = h.push cellO) (hkind : scope.kind = .function)
    (hnames : ∀ y ∈ scope.names, y.2 = .local → scope.names.lookup y.1 = some .local) (hx : (relabel scope env).names.lookup x = some .cell)
    (h : wpAny (model prog w) A (eval iter env) (SrcCK prog w A h₀ L m env elt x scope cl Q) E s)
    (hs : ∀ x, foldedSetIterable iter env x = pure x := by intro _; rfl) :
    wpAny (model prog w) A (eval (.ListComp elt [⟨.Name x px, iter, [], 0⟩] scope pos) env) Q E s := by
  rw [eval_ListComp]
  refine wpAny_comprehension_free (use := none) rfl hs hclos hkind hnames (wpAny_mono h (fun xv s₁ h₁ => ?_) fun _ _ e => e)
  obtain ⟨ax, its, news, ks, Is, g, rfl, hh, F, N, S, hsz, hA, R⟩ := h₁
  have hl := S.list F.keep N
  have hlt : ax < s₁.heap.objs.size := by obtain ⟨_, e, _⟩ := hl; exact Heap.lt_size e
  refine wpAny_pyIter_list hl ?_
  have up : ∀ b o, s₁.heap.get? b = some o → (s₁.heap.push { cls := .type "list_iterator", data := .fields #[.ref ax, .int 0 0] }).get? b = some o := fun b o e => Heap.get?_push_of_some _ e
  obtain ⟨R1, R2⟩ := R _ ⟨_, rfl⟩
  obtain ⟨hAl, hAt⟩ := hA.at
  refine block_C (ks := ks) (Is := Is) g (Walks.list hh s₁.heap.objs.size ax (Nat.ne_of_lt hlt) its) hsz (by rw [← hAl]; simp) (fun i v _ hv => hAt i v (by simpa using hv)) (fun i h st => by obtain ⟨o, e, _⟩ := st.1; exact ⟨o, e⟩) list_st hone hpush hkind hx ⟨⟨_, Heap.get?_push_size _ rfl, rfl, rfl⟩, hl.push _⟩ (fun b hb => ?_)
    (F.keeps up) (N.grown up) (Nat.ne_of_lt F.ns.lt) (next_is_new F) (fun p hp => Nat.ne_of_lt (Heap.lt_size (N p hp).1)) (fun p => S.elim .inl fun ⟨o, hm, r⟩ => .inr ⟨o, List.mem_cons_of_mem _ hm, r⟩) R1 ?_
  · show b < (s₁.heap.push _).objs.size
    rw [Heap.size_push]
    rcases List.mem_cons.mp hb with rfl | hb
    · exact Nat.lt_succ_self _
    · rw [List.mem_singleton.mp hb]; exact Nat.lt_succ_of_lt hlt
  · intro D C h tk m' ys F' N' o1 hn hC₀ hD₀ hCL hDL hCD offC fin
    refine ⟨m', hn, fun h'' hs'' => R2 ys fin D h'' tk (F'.change hs'' hCL hC₀) (fun p hp => ?_) o1⟩
    refine ⟨hs''.extBut _ _ ?_ (N' p hp).1, (N' p hp).2⟩
    rcases List.mem_cons.mp hp with rfl | hp
    · exact Ne.symm hCD
    · exact offC p hp
end
end Mine
end
section -- LAWK
namespace Mine
theorem offLAWK : True := by
  w_top off
  exact trivial
local macro_rules | `(tactic| k_all) => `(tactic| assumption)
theorem lawK : lawJ.P := by
  w_top off
  intro w9
  intros
  (rename T => τ)
  (with_reducible rename News _ _ _ _ => N)
  (with_reducible rename Fr _ _ _ _ => F)
  (rename [_, _, _, _] = apL _ => hap)
  repeat ((fail_if_success (with_reducible show SrcCK _ _ _ _ _ _ _ _ _ _ _ _ _ _)); (first | ((first | ((with_reducible show wpAny _ _ (binaryOp Operator.Mult (Value.int _ _) (Value.int _ _)) _ _ _); (k_here; k_dflt (refine mul_row (by assumption) ?_))) | (k_here; (with_reducible show wpAny _ _ (subscriptTail _ _ (Value.ref _) (Value.int _ _)) _ _ _); k_dflt (refine' sub_four ?k1 ?k2 ?k3 ?kl ?k4 ?k5 ?_; (case k1 => k_asm); (case k2 => (repeat (first | assumption | exact List.mem_cons_self .. | refine List.mem_cons_of_mem _ ?_))); (case k3 => first | assumption | exact ints_ap hap); (case kl => first | assumption | exact rfl); (case k4 => assumption); (case k5 => assumption)); intro tW) | (k_here; (with_reducible show wpAny _ _ (call (Value.builtin "sum") [Value.ref _]) _ _ _); k_dflt (refine' sumN ?k0 ?k1 ?k2 ?k3 ?k4 ?_; (case k0 => rfl); (case k1 => k_asm); (case k2 => k_asm); (case k3 => k_mem); (case k4 => assumption)); intro h' tk' t' F' N') | ((fail_if_success (with_reducible show wpAny _ _ _ _ _ _)); (unfold TurnC; intro I' oI' C' oC' c' oc' D' m' ys' h' tk' E' hC' hcd' F' N' off' ne' hMark'; clear ne'; (try dsimp only))) | ((with_reducible show wpAny _ _ (eval (Expr.ListComp _ _ _ _) _) _ _ _); (k_here; k_dflt (first | refine LCg.ListComp_U (F₀ := by k_asm) (by with_unfolding_all rfl) (by decide) (by rfl) (by decide) (by rfl) ?_ | refine ListComp_CK (by k_asm) (by with_unfolding_all rfl) (by intro n; rfl) (by intro h; rfl) (by rfl) (by decide) (by rfl) ?_))) | walk1); (try dsimp only)) | (dsimp only; (first | ((with_reducible show wpAny _ _ (binaryOp Operator.Mult (Value.int _ _) (Value.int _ _)) _ _ _); (k_here; k_dflt (refine mul_row (by assumption) ?_))) | (k_here; (with_reducible show wpAny _ _ (subscriptTail _ _ (Value.ref _) (Value.int _ _)) _ _ _); k_dflt (refine' sub_four ?k1 ?k2 ?k3 ?kl ?k4 ?k5 ?_; (case k1 => k_asm); (case k2 => (repeat (first | assumption | exact List.mem_cons_self .. | refine List.mem_cons_of_mem _ ?_))); (case k3 => first | assumption | exact ints_ap hap); (case kl => first | assumption | exact rfl); (case k4 => assumption); (case k5 => assumption)); intro tW) | (k_here; (with_reducible show wpAny _ _ (call (Value.builtin "sum") [Value.ref _]) _ _ _); k_dflt (refine' sumN ?k0 ?k1 ?k2 ?k3 ?k4 ?_; (case k0 => rfl); (case k1 => k_asm); (case k2 => k_asm); (case k3 => k_mem); (case k4 => assumption)); intro h' tk' t' F' N') | ((fail_if_success (with_reducible show wpAny _ _ _ _ _ _)); (unfold TurnC; intro I' oI' C' oC' c' oc' D' m' ys' h' tk' E' hC' hcd' F' N' off' ne' hMark'; clear ne'; (try dsimp only))) | ((with_reducible show wpAny _ _ (eval (Expr.ListComp _ _ _ _) _) _ _ _); (k_here; k_dflt (first | refine LCg.ListComp_U (F₀ := by k_asm) (by with_unfolding_all rfl) (by decide) (by rfl) (by decide) (by rfl) ?_ | refine ListComp_CK (by k_asm) (by with_unfolding_all rfl) (by intro n; rfl) (by intro h; rfl) (by rfl) (by decide) (by rfl) ?_))) | walk1))))
  refine' SrcCK.rows (ks := rowsL) (dot4 (apL τ.mask)) ?s0 F N ?s3 ?s4 ?s5 (fun g' k v hk hr => ?turn) (fun g' ys9 hI9 => ?fin)
  case s0 => rfl
  case s3 => exact List.mem_cons_self ..
  case s4 => exact Nat.le_of_ble_eq_true rfl
  case s5 =>
    refine .cons ⟨_, [_, _, _, _], 0, rfl, by (repeat (first | assumption | exact List.mem_cons_self .. | refine List.mem_cons_of_mem _ ?_)), .cons _ _ (.cons _ _ (.cons _ _ (.cons _ _ .nil))), rfl, by decide⟩ (.cons ⟨_, [_, _, _, _], 0, rfl, by (repeat (first | assumption | exact List.mem_cons_self .. | refine List.mem_cons_of_mem _ ?_)), .cons _ _ (.cons _ _ (.cons _ _ (.cons _ _ .nil))), rfl, by decide⟩ (.cons ⟨_, [_, _, _, _], 0, rfl, by (repeat (first | assumption | exact List.mem_cons_self .. | refine List.mem_cons_of_mem _ ?_)), .cons _ _ (.cons _ _ (.cons _ _ (.cons _ _ .nil))), rfl, by decide⟩ (.cons ⟨_, [_, _, _, _], 0, rfl, by (repeat (first | assumption | exact List.mem_cons_self .. | refine List.mem_cons_of_mem _ ?_)), .cons _ _ (.cons _ _ (.cons _ _ (.cons _ _ .nil))), rfl, by decide⟩ .nil)))
  case turn =>
    obtain ⟨r, vs, n, rfl, hrm, hri, hrl, hrb⟩ := hr
    clear F N
    (unfold TurnC; intro I' oI' C' oC' c' oc' D' m' ys' h' tk' E' hC' hcd' F' N' off' ne' hMark'; clear ne'; (try dsimp only))
    repeat ((fail_if_success (with_reducible show LCg.CompSrc _ _ _ _ _ _ _ _ _ _ _ _ _ _)); (first | ((first | ((with_reducible show wpAny _ _ (binaryOp Operator.Mult (Value.int _ _) (Value.int _ _)) _ _ _); (k_here; k_dflt (refine mul_row (by assumption) ?_))) | (k_here; (with_reducible show wpAny _ _ (subscriptTail _ _ (Value.ref _) (Value.int _ _)) _ _ _); k_dflt (refine' sub_four ?k1 ?k2 ?k3 ?kl ?k4 ?k5 ?_; (case k1 => k_asm); (case k2 => (repeat (first | assumption | exact List.mem_cons_self .. | refine List.mem_cons_of_mem _ ?_))); (case k3 => first | assumption | exact ints_ap hap); (case kl => first | assumption | exact rfl); (case k4 => assumption); (case k5 => assumption)); intro tW) | (k_here; (with_reducible show wpAny _ _ (call (Value.builtin "sum") [Value.ref _]) _ _ _); k_dflt (refine' sumN ?k0 ?k1 ?k2 ?k3 ?k4 ?_; (case k0 => rfl); (case k1 => k_asm); (case k2 => k_asm); (case k3 => k_mem); (case k4 => assumption)); intro h' tk' t' F' N') | ((fail_if_success (with_reducible show wpAny _ _ _ _ _ _)); (unfold TurnC; intro I' oI' C' oC' c' oc' D' m' ys' h' tk' E' hC' hcd' F' N' off' ne' hMark'; clear ne'; (try dsimp only))) | ((with_reducible show wpAny _ _ (eval (Expr.ListComp _ _ _ _) _) _ _ _); (k_here; k_dflt (first | refine LCg.ListComp_U (F₀ := by k_asm) (by with_unfolding_all rfl) (by decide) (by rfl) (by decide) (by rfl) ?_ | refine ListComp_CK (by k_asm) (by with_unfolding_all rfl) (by intro n; rfl) (by intro h; rfl) (by rfl) (by decide) (by rfl) ?_))) | walk1); (try dsimp only)) | (dsimp only; (first | ((with_reducible show wpAny _ _ (binaryOp Operator.Mult (Value.int _ _) (Value.int _ _)) _ _ _); (k_here; k_dflt (refine mul_row (by assumption) ?_))) | (k_here; (with_reducible show wpAny _ _ (subscriptTail _ _ (Value.ref _) (Value.int _ _)) _ _ _); k_dflt (refine' sub_four ?k1 ?k2 ?k3 ?kl ?k4 ?k5 ?_; (case k1 => k_asm); (case k2 => (repeat (first | assumption | exact List.mem_cons_self .. | refine List.mem_cons_of_mem _ ?_))); (case k3 => first | assumption | exact ints_ap hap); (case kl => first | assumption | exact rfl); (case k4 => assumption); (case k5 => assumption)); intro tW) | (k_here; (with_reducible show wpAny _ _ (call (Value.builtin "sum") [Value.ref _]) _ _ _); k_dflt (refine' sumN ?k0 ?k1 ?k2 ?k3 ?k4 ?_; (case k0 => rfl); (case k1 => k_asm); (case k2 => k_asm); (case k3 => k_mem); (case k4 => assumption)); intro h' tk' t' F' N') | ((fail_if_success (with_reducible show wpAny _ _ _ _ _ _)); (unfold TurnC; intro I' oI' C' oC' c' oc' D' m' ys' h' tk' E' hC' hcd' F' N' off' ne' hMark'; clear ne'; (try dsimp only))) | ((with_reducible show wpAny _ _ (eval (Expr.ListComp _ _ _ _) _) _ _ _); (k_here; k_dflt (first | refine LCg.ListComp_U (F₀ := by k_asm) (by with_unfolding_all rfl) (by decide) (by rfl) (by decide) (by rfl) ?_ | refine ListComp_CK (by k_asm) (by with_unfolding_all rfl) (by intro n; rfl) (by intro h; rfl) (by rfl) (by decide) (by rfl) ?_))) | walk1))))
    try dsimp only
    (with_reducible rename IsRange _ _ _ _ _ _ _ _ => hR2)
    (with_reducible rename News _ _ _ _ => N2)
    (with_reducible rename Fr _ _ _ _ => F2)
    refine' src4 (fun i => k.getD i.toNat 0 * (apL τ.mask).getD i.toNat 0) ?b1 F2 N2 hR2 (fun g2 i t I oI C oC D m₂ ys h tk E' hlo hhi hNs h1 F N off mk => ?turn2) (fun g2 ys hys D h tk F N off => ?fin2)
    case b1 => rfl
    case turn2 =>
      clear hR2 N2 F2
      dsimp only
      (repeat' (first | (k_unfold; (try dsimp only)) | ((first | ((with_reducible show wpAny _ _ (binaryOp Operator.Mult (Value.int _ _) (Value.int _ _)) _ _ _); (k_here; k_dflt (refine mul_row (by assumption) ?_))) | (k_here; (with_reducible show wpAny _ _ (subscriptTail _ _ (Value.ref _) (Value.int _ _)) _ _ _); k_dflt (refine' sub_four ?k1 ?k2 ?k3 ?kl ?k4 ?k5 ?_; (case k1 => k_asm); (case k2 => (repeat (first | assumption | exact List.mem_cons_self .. | refine List.mem_cons_of_mem _ ?_))); (case k3 => first | assumption | exact ints_ap hap); (case kl => first | assumption | exact rfl); (case k4 => assumption); (case k5 => assumption)); intro tW) | (k_here; (with_reducible show wpAny _ _ (call (Value.builtin "sum") [Value.ref _]) _ _ _); k_dflt (refine' sumN ?k0 ?k1 ?k2 ?k3 ?k4 ?_; (case k0 => rfl); (case k1 => k_asm); (case k2 => k_asm); (case k3 => k_mem); (case k4 => assumption)); intro h' tk' t' F' N') | ((fail_if_success (with_reducible show wpAny _ _ _ _ _ _)); (unfold TurnC; intro I' oI' C' oC' c' oc' D' m' ys' h' tk' E' hC' hcd' F' N' off' ne' hMark'; clear ne'; (try dsimp only))) | ((with_reducible show wpAny _ _ (eval (Expr.ListComp _ _ _ _) _) _ _ _); (k_here; k_dflt (first | refine LCg.ListComp_U (F₀ := by k_asm) (by with_unfolding_all rfl) (by decide) (by rfl) (by decide) (by rfl) ?_ | refine ListComp_CK (by k_asm) (by with_unfolding_all rfl) (by intro n; rfl) (by intro h; rfl) (by rfl) (by decide) (by rfl) ?_))) | walk1); (try dsimp only)) | (dsimp only; (first | ((with_reducible show wpAny _ _ (binaryOp Operator.Mult (Value.int _ _) (Value.int _ _)) _ _ _); (k_here; k_dflt (refine mul_row (by assumption) ?_))) | (k_here; (with_reducible show wpAny _ _ (subscriptTail _ _ (Value.ref _) (Value.int _ _)) _ _ _); k_dflt (refine' sub_four ?k1 ?k2 ?k3 ?kl ?k4 ?k5 ?_; (case k1 => k_asm); (case k2 => (repeat (first | assumption | exact List.mem_cons_self .. | refine List.mem_cons_of_mem _ ?_))); (case k3 => first | assumption | exact ints_ap hap); (case kl => first | assumption | exact rfl); (case k4 => assumption); (case k5 => assumption)); intro tW) | (k_here; (with_reducible show wpAny _ _ (call (Value.builtin "sum") [Value.ref _]) _ _ _); k_dflt (refine' sumN ?k0 ?k1 ?k2 ?k3 ?k4 ?_; (case k0 => rfl); (case k1 => k_asm); (case k2 => k_asm); (case k3 => k_mem); (case k4 => assumption)); intro h' tk' t' F' N') | ((fail_if_success (with_reducible show wpAny _ _ _ _ _ _)); (unfold TurnC; intro I' oI' C' oC' c' oc' D' m' ys' h' tk' E' hC' hcd' F' N' off' ne' hMark'; clear ne'; (try dsimp only))) | ((with_reducible show wpAny _ _ (eval (Expr.ListComp _ _ _ _) _) _ _ _); (k_here; k_dflt (first | refine LCg.ListComp_U (F₀ := by k_asm) (by with_unfolding_all rfl) (by decide) (by rfl) (by decide) (by rfl) ?_ | refine ListComp_CK (by k_asm) (by with_unfolding_all rfl) (by intro n; rfl) (by intro h; rfl) (by rfl) (by decide) (by rfl) ?_))) | walk1)) | (leave1; (try dsimp only))))
    case fin2 =>
      clear hR2 N2 F2
      dsimp only
      (repeat' (first | (k_unfold; (try dsimp only)) | ((first | ((with_reducible show wpAny _ _ (binaryOp Operator.Mult (Value.int _ _) (Value.int _ _)) _ _ _); (k_here; k_dflt (refine mul_row (by assumption) ?_))) | (k_here; (with_reducible show wpAny _ _ (subscriptTail _ _ (Value.ref _) (Value.int _ _)) _ _ _); k_dflt (refine' sub_four ?k1 ?k2 ?k3 ?kl ?k4 ?k5 ?_; (case k1 => k_asm); (case k2 => (repeat (first | assumption | exact List.mem_cons_self .. | refine List.mem_cons_of_mem _ ?_))); (case k3 => first | assumption | exact ints_ap hap); (case kl => first | assumption | exact rfl); (case k4 => assumption); (case k5 => assumption)); intro tW) | (k_here; (with_reducible show wpAny _ _ (call (Value.builtin "sum") [Value.ref _]) _ _ _); k_dflt (refine' sumN ?k0 ?k1 ?k2 ?k3 ?k4 ?_; (case k0 => rfl); (case k1 => k_asm); (case k2 => k_asm); (case k3 => k_mem); (case k4 => assumption)); intro h' tk' t' F' N') | ((fail_if_success (with_reducible show wpAny _ _ _ _ _ _)); (unfold TurnC; intro I' oI' C' oC' c' oc' D' m' ys' h' tk' E' hC' hcd' F' N' off' ne' hMark'; clear ne'; (try dsimp only))) | ((with_reducible show wpAny _ _ (eval (Expr.ListComp _ _ _ _) _) _ _ _); (k_here; k_dflt (first | refine LCg.ListComp_U (F₀ := by k_asm) (by with_unfolding_all rfl) (by decide) (by rfl) (by decide) (by rfl) ?_ | refine ListComp_CK (by k_asm) (by with_unfolding_all rfl) (by intro n; rfl) (by intro h; rfl) (by rfl) (by decide) (by rfl) ?_))) | walk1); (try dsimp only)) | (dsimp only; (first | ((with_reducible show wpAny _ _ (binaryOp Operator.Mult (Value.int _ _) (Value.int _ _)) _ _ _); (k_here; k_dflt (refine mul_row (by assumption) ?_))) | (k_here; (with_reducible show wpAny _ _ (subscriptTail _ _ (Value.ref _) (Value.int _ _)) _ _ _); k_dflt (refine' sub_four ?k1 ?k2 ?k3 ?kl ?k4 ?k5 ?_; (case k1 => k_asm); (case k2 => (repeat (first | assumption | exact List.mem_cons_self .. | refine List.mem_cons_of_mem _ ?_))); (case k3 => first | assumption | exact ints_ap hap); (case kl => first | assumption | exact rfl); (case k4 => assumption); (case k5 => assumption)); intro tW) | (k_here; (with_reducible show wpAny _ _ (call (Value.builtin "sum") [Value.ref _]) _ _ _); k_dflt (refine' sumN ?k0 ?k1 ?k2 ?k3 ?k4 ?_; (case k0 => rfl); (case k1 => k_asm); (case k2 => k_asm); (case k3 => k_mem); (case k4 => assumption)); intro h' tk' t' F' N') | ((fail_if_success (with_reducible show wpAny _ _ _ _ _ _)); (unfold TurnC; intro I' oI' C' oC' c' oc' D' m' ys' h' tk' E' hC' hcd' F' N' off' ne' hMark'; clear ne'; (try dsimp only))) | ((with_reducible show wpAny _ _ (eval (Expr.ListComp _ _ _ _) _) _ _ _); (k_here; k_dflt (first | refine LCg.ListComp_U (F₀ := by k_asm) (by with_unfolding_all rfl) (by decide) (by rfl) (by decide) (by rfl) ?_ | refine ListComp_CK (by k_asm) (by with_unfolding_all rfl) (by intro n; rfl) (by intro h; rfl) (by rfl) (by decide) (by rfl) ?_))) | walk1)) | (leave1; (try dsimp only))))
      exact ⟨rfl, _, rfl⟩
  case fin =>
    rw [← law_fin _ (by assumption)] at hI9
    intro D9 h tk F N off
    dsimp only
    (repeat' (first | (k_unfold; (try dsimp only)) | ((first | ((with_reducible show wpAny _ _ (binaryOp Operator.Mult (Value.int _ _) (Value.int _ _)) _ _ _); (k_here; k_dflt (refine mul_row (by assumption) ?_))) | (k_here; (with_reducible show wpAny _ _ (subscriptTail _ _ (Value.ref _) (Value.int _ _)) _ _ _); k_dflt (refine' sub_four ?k1 ?k2 ?k3 ?kl ?k4 ?k5 ?_; (case k1 => k_asm); (case k2 => (repeat (first | assumption | exact List.mem_cons_self .. | refine List.mem_cons_of_mem _ ?_))); (case k3 => first | assumption | exact ints_ap hap); (case kl => first | assumption | exact rfl); (case k4 => assumption); (case k5 => assumption)); intro tW) | (k_here; (with_reducible show wpAny _ _ (call (Value.builtin "sum") [Value.ref _]) _ _ _); k_dflt (refine' sumN ?k0 ?k1 ?k2 ?k3 ?k4 ?_; (case k0 => rfl); (case k1 => k_asm); (case k2 => k_asm); (case k3 => k_mem); (case k4 => assumption)); intro h' tk' t' F' N') | ((fail_if_success (with_reducible show wpAny _ _ _ _ _ _)); (unfold TurnC; intro I' oI' C' oC' c' oc' D' m' ys' h' tk' E' hC' hcd' F' N' off' ne' hMark'; clear ne'; (try dsimp only))) | ((with_reducible show wpAny _ _ (eval (Expr.ListComp _ _ _ _) _) _ _ _); (k_here; k_dflt (first | refine LCg.ListComp_U (F₀ := by k_asm) (by with_unfolding_all rfl) (by decide) (by rfl) (by decide) (by rfl) ?_ | refine ListComp_CK (by k_asm) (by with_unfolding_all rfl) (by intro n; rfl) (by intro h; rfl) (by rfl) (by decide) (by rfl) ?_))) | walk1); (try dsimp only)) | (dsimp only; (first | ((with_reducible show wpAny _ _ (binaryOp Operator.Mult (Value.int _ _) (Value.int _ _)) _ _ _); (k_here; k_dflt (refine mul_row (by assumption) ?_))) | (k_here; (with_reducible show wpAny _ _ (subscriptTail _ _ (Value.ref _) (Value.int _ _)) _ _ _); k_dflt (refine' sub_four ?k1 ?k2 ?k3 ?kl ?k4 ?k5 ?_; (case k1 => k_asm); (case k2 => (repeat (first | assumption | exact List.mem_cons_self .. | refine List.mem_cons_of_mem _ ?_))); (case k3 => first | assumption | exact ints_ap hap); (case kl => first | assumption | exact rfl); (case k4 => assumption); (case k5 => assumption)); intro tW) | (k_here; (with_reducible show wpAny _ _ (call (Value.builtin "sum") [Value.ref _]) _ _ _); k_dflt (refine' sumN ?k0 ?k1 ?k2 ?k3 ?k4 ?_; (case k0 => rfl); (case k1 => k_asm); (case k2 => k_asm); (case k3 => k_mem); (case k4 => assumption)); intro h' tk' t' F' N') | ((fail_if_success (with_reducible show wpAny _ _ _ _ _ _)); (unfold TurnC; intro I' oI' C' oC' c' oc' D' m' ys' h' tk' E' hC' hcd' F' N' off' ne' hMark'; clear ne'; (try dsimp only))) | ((with_reducible show wpAny _ _ (eval (Expr.ListComp _ _ _ _) _) _ _ _); (k_here; k_dflt (first | refine LCg.ListComp_U (F₀ := by k_asm) (by with_unfolding_all rfl) (by decide) (by rfl) (by decide) (by rfl) ?_ | refine ListComp_CK (by k_asm) (by with_unfolding_all rfl) (by intro n; rfl) (by intro h; rfl) (by rfl) (by decide) (by rfl) ?_))) | walk1)) | (leave1; (try dsimp only))))
    exact ⟨_, _, _, _, rfl, rfl, F, by assumption⟩
end Mine
end
theorem PySem.Challenge.cw_sh0069_01_holds : PySem.Challenge.rw_sh0069_01.Holds :=
  Mine.lawB.pf ⟨Mine.lawC.pf ⟨Mine.lawD.pf ⟨Mine.lawE.pf ⟨Mine.lawF.pf ⟨Mine.lawG.pf ⟨Mine.lawH.pf ⟨Mine.lawI.pf ⟨Mine.lawJ.pf ⟨Mine.lawK⟩⟩⟩⟩⟩⟩⟩⟩⟩
