import PyProof.Rows.All
import Wide.All
import OpenK.AllK
import KE.KSuper
import KE.KCallOwn
import KE.KStar
import KE.KMulAny
import KE.KDictIter
import Open.Split
import OpenK.KMake
import Wide.FinOn
import Lean
import PySem.Challenge.RW_ny0241_01
open PySem PySem.W PyProof.Rows
open Str (ofString)
set_option Elab.async false
set_option compiler.extract_closed false
set_option maxRecDepth 100000
set_option maxHeartbeats 8000000
set_option linter.unusedVariables false
set_option genSizeOfSpec false
set_option genInjectivity false
set_option tactic.hygienic false
namespace Mine
def macN (k : String) (xs : List Lean.Syntax) : Lean.Syntax := Lean.mkNode k.toName xs.toArray
def macP (k : String) (xs : List Lean.Syntax) : Lean.Syntax := macN ("Lean.Parser." ++ k) xs
def macA (k : String) (p : String) (x : List Lean.Syntax) : Lean.Syntax := macP k (Lean.mkAtom p :: x)
def macS (xs : List Lean.Syntax) : Lean.Syntax := macP "Tactic.tacticSeq" [macP "Tactic.tacticSeq1Indented" [macN "null" (xs.intersperse (Lean.mkAtom ";"))]]
def macF (xs : List Lean.Syntax) : Lean.Syntax := macA "Tactic.first" "first" [macN "null" (xs.map fun x => macN "group" [Lean.mkAtom "|", macS [x]])]
def macC (p : String) (x : Lean.Syntax) : Lean.Syntax := macA "Tactic.case" "case" [macN "null" [macP "Tactic.caseArg" [macN "Lean.binderIdent" [Lean.mkIdent p.toName], macN "null" []]], Lean.mkAtom "=>", macS [x]]
def macH (p : String) : Lean.Syntax := macA "Term.syntheticHole" "?" [if p == "_" then Lean.mkAtom p else Lean.mkIdent p.toName]
def macX (xs : List Lean.Syntax) : Lean.Syntax := macP "Term.app" [xs.headD .missing, macN "null" xs.tail]
def macR (x : List Lean.Syntax) : Lean.Syntax := macA "Tactic.refine" "refine" x
def macW (x : Lean.Syntax) : Lean.Syntax := macA "Tactic.withReducible" "with_reducible" [macS [x]]
def macT (p : String) : Lean.Syntax := macA (if p == "rfl" then "Tactic.tacticRfl" else "Tactic." ++ p) p []
def macQ (xs : List Lean.Syntax) : Lean.Syntax := macA "Tactic.paren" "(" [macS xs, Lean.mkAtom ")"]
def macTok (t : String) (st : List Lean.Syntax) : List Lean.Syntax :=
 let p := (t.drop 1).toString
 let xs := st.takeWhile (!·.isMissing)
 let rs := (st.dropWhile (!·.isMissing)).tail
 let x := st.headD .missing
 let r := st.tail
 match t.front with
 | ']' => .missing :: st
 | '.' => Lean.mkIdent (`_root_.Mine ++ p.toName) :: st
 | '\'' => Lean.mkIdent p.toName :: st
 | '_' => macA "Term.hole" "_" [] :: st
 | '?' => macH p :: st
 | '(' => macX xs :: rs
 | 'b' => macA "Term.byTactic" "by" [macS [x]] :: r
 | 'K' => macN "PySem.W.tacticWtm_at_" [Lean.mkAtom "wtm_at", Lean.Syntax.mkStrLit p] :: st
 | 'r' => macR [x] :: r
 | 'e' => macA "Tactic.exact" "exact" [x] :: r
 | 'a' => macA "Tactic.apply" "apply" [x] :: r
 | 's' => macA "Tactic.show" "show" [x] :: r
 | 'i' => macA "Tactic.intro" "intro" [macN "null" [macA "Term.hole" "_" []]] :: st
 | 'W' => macW x :: r
 | 'c' => macC p x :: r
 | '*' => macA "Tactic.tacticRepeat_" "repeat" [macS [x]] :: r
 | 'f' => macF xs :: rs
 | '{' => macQ xs :: rs
 | 'w' => macW (macF (xs.map fun t => macR [macX [t, macH "_"]])) :: rs
 | 'u' => macQ [macW (macF (xs.map fun t => macR [macX [t, macH "_", macH "zz"]])), macC "zz" (macT "rfl")] :: rs
 | _ => macT p :: st
def mac (s : String) : Lean.Syntax := (((s.splitOn " ").filter (· ≠ "")).foldr macTok []).headD .missing
def macG (s : String) : Lean.MacroM Lean.Syntax := match ("as=W Tassumption\nbb=W f a .bb_len a .bb_sum a .bb_iter a .bb_str a .bb_int a .bb_zip a .bb_range a .bb_list a .bb_map a .bb_super a .zgf ]\nab=W f e .ab_Name e .ab_Attr e .ab_Const e .ab_Sub \
 ]\nlk=f W Tassumption e .lk_hit { a ( .lk_skip b Trfl ] Klk ] Trfl ]\nled=f e .Led.head { a .Led.tail Kled ] ]\nmem=f e ( 'List.Mem.head _ ] { a 'List.Mem.tail Kmem ] ]\neither=f e ( 'Or.inl b Kmem ] e \
 ( 'Or.inr b Kmem ] ]\nsub=f e ( 'List.Sublist.refl _ ] { r ( 'List.Sublist.cons _ ?_ ] Ksub ] e ( 'List.nil_sublist _ ] ]\ngo=f w .zjx .x_nil .x_fla .x_pass .k_str .k_int .k_none .k_bool .e_list .zdl \
 .zdz 'wpAny_BinOp 'wpAny_UnaryOp 'Subscript_ .zlp 'wpAny_evalPart_none 'wpAny_evalPart_some .zg9 .zli .o_neg .a_cons .a_nil \
 'PyProof.Rows.gt_int 'PyProof.Rows.lt_int 'PyProof.Rows.eq_int 'wpAny_truthy_bool ] u .zby .zkn .zb0 .za3 .cw_type 'wpAny_isTrue_Compare1 ] { W r ( \
 .x_append ?_ ?za ?zb ?zc ?zd ?zf ] cza Kab czb Trfl czc Trfl czd Trfl czf e .sw_Call ] { W s ( .OnList _ _ _ ] r ( .OnList.go b Kas b Keither ?_ ] ] { W r ( .ziz ?_ ?za ?zb ] cza Trfl czb Trfl ] { W \
 s ( 'wpAny _ _ ( 'eval ( 'Expr.Name _ _ ] _ ] _ _ _ ] f r ( .zij b Kas b Klk ?_ ] r ( .e_glob b Kas ( .St.inv b Kas ] 'rfl ?_ ] r ( .e_blt b Kas ( .St.inv b Kas ] 'rfl b Kbb ?_ ] ] ] { W s ( 'wpAny _ \
 _ ( 'storeName _ _ _ ] _ _ _ ] r ( .zcm b Kas ?_ ] i i ] { W s ( 'wpAny _ _ ( 'newList _ ] _ _ _ ] r ( .n_list b Kas ?_ ( 'Nat.le_of_ble_eq_true 'rfl ] ] i i i ] { W s ( 'wpAny _ _ ( 'newTuple _ ] _ \
 _ _ ] r ( .n_tup b Kas ?_ ( 'Nat.le_of_ble_eq_true 'rfl ] ] i i i ] { W s ( .SlNew _ _ _ _ ] r ( .SlNew.go b Kas ?_ ] i i i i ] { W s ( .ExtS _ _ ] r ( .ExtS.go b Kas ?_ ] i i ] ]\ngo2=w .iteT .iteF \
 'wpAny_IfExp 'wpAny_isTrue_BoolOp 'wpAny_allTrue_And_cons 'wpAny_allTrue_And_nil 'wpAny_allTrue_Or_cons \
 'wpAny_allTrue_Or_nil 'PyProof.Rows.le_int 'PyProof.Rows.ge_int 'PyProof.Rows.eq_str 'wpAny_Call_NameR ]\ngo3=f { W r ( .zlo ?za ?_ ] cza e ( 'of_decide_eq_true 'rfl ] ] \
 { W r ( .zj7 ?za ?zb ?_ ] cza e ( 'of_decide_eq_true 'rfl ] czb e ( 'of_decide_eq_true 'rfl ] ] W r ( 'wpAny_assign_Name ?_ ] ]\ngo4=f w 'PyProof.Rows.ne_bool 'PyProof.Rows.ne_str \
 'P.le_str 'PyProof.Rows.lt_str 'PyProof.Rows.in_str 'PyProof.Rows.notIn_str ] u .e_chain 'wpAny_Compare1 ] { W r ( .x_extend ?_ ?za ?zb ?zc ?zd ?zf ] cza Kab czb Trfl czc Trfl czd Trfl czf \
 e .sw_Call ] ]\nAll=* f Kgo4 Kgo Kgo2 Kgo3 ]\nat=f w .At.ret .At.nil .At.int .At.str .At.elist .At.etup .At.sp0 .At.bin .At.un .At.sub .At.slc .At.ife .At.callN .At.and1 .At.or1 .At.kwh .At.addI \
 .At.subI .At.negI .At.ext .At.iteT .At.iteF .At.cnone .At.cbool .At.pN .At.pS .At.bop .At.and0 .At.or0 .At.tru .At.gtI .At.ltI .At.geI .At.leI .At.eqI ] u .At.asg .At.sp .At.cmp .At.kcallB ] { W f r ( \
 .At.list ?_ ?za ] r ( .At.tup ?_ ?za ] ] cza e ( 'Nat.le_of_ble_eq_true 'rfl ] i ] { W s ( .At _ _ _ _ _ _ ( 'wpAny _ _ ( 'eval ( 'Expr.Name _ _ ] _ ] _ _ ] ] f r ( .At.loc b Klk ?_ ] r ( .At.glob b \
 Kas 'rfl ?_ ] r ( .At.blt b Kas 'rfl b Kbb ?_ ] ] ] { W s ( .At _ _ _ _ _ _ ( .KSt _ _ _ _ _ _ _ _ ] ] r ( .At.kst ?_ ] ] { W s ( .At _ _ _ _ _ _ ( 'wpAny _ _ ( 'storeName _ _ _ ] _ _ ] ] r ( .At.st ?_ \
 ] ] { W r ( .At.ksl2 ?_ ] i ] { W r ( .At.apnd ?_ ?za ?zb ?zc ?zd ?zf ] cza Kab czb Trfl czc Trfl czd Trfl czf e .sw_Call ] { W s ( .At _ _ _ _ _ _ ( .KAp1 _ _ _ _ _ _ _ _ ] ] r ( .At.kap1 b Keither ?_ \
 ] ] ]\nat2=f w .At.fln ] { W r ( .At.forL ?_ ?za ] cza { i Trfl ] ] u .At.setitem .At.kcallT ] { W r ( .At.modI ?za ?_ ] cza e ( 'of_decide_eq_true 'rfl ] ] { W r ( .At.fdivI ?za ?zb ?_ ] cza e ( \
 'of_decide_eq_true 'rfl ] czb e ( 'of_decide_eq_true 'rfl ] ] { W s ( .At _ _ _ _ _ _ ( 'wpAny _ _ ( 'assign ( 'Expr.Name _ _ ] _ _ ] _ _ ] ] r ( .At.asgN ?_ ] ] ]\nat3=f w .At.flc .At.cnil .At.ktruC \
 .At.callNC .At.eqS .At.neS .At.inS ] { W f r ( .At.kcallOC ?za ?_ ?zb ] r ( .At.kcallO ?za ?_ ?zb ] ] cza Trfl czb Trfl ] { W f r ( .At.kown ?za ?_ ] r ( .At.kownC ?za ?_ ] ] cza Kas ] ]\nat4=f w \
 .At.ctOr .At.ctNot .At.knotC ] { W s ( .At _ _ _ _ _ _ ( .wpC _ _ ( 'PySem.isTrue ( 'Expr.Call _ _ _ _ ] _ _ ] _ _ ] ] r ( .At.ctVal ?_ b Trfl ] ] { W s ( .At _ _ _ _ _ _ ( .wpC _ _ ( 'eval ( \
 'Expr.Name _ _ ] _ ] _ _ ] ] r ( .At.toC ?_ ] ] ]\nAt=* f Kat Kat2 Kat3 ]\nEvC=* f Kev Kat Kat2 Kev2 Kat3 Kat4 ]\nmt=f w .At.kxpN .At.ret0 .At.cont .At.brk .At.tnot .At.knt ] { W r ( .At.attr ?_ ?za ] \
 cza Kab ] { W r ( .At.mcall ?_ ?za ?zb ?zc ] cza Kab czb Trfl czc Trfl ] { W r ( .At.kmf ?za ?zb ?_ ?zc ] cza Kas czb Trfl czc Trfl ] { W r ( .At.kowm ?za ?_ ] cza Kas ] { W s ( .At _ _ _ _ _ _ ( \
 'wpAny _ _ ( 'PySem.isTrue ( 'Expr.Call _ _ _ _ ] _ _ ] _ _ ] ] r ( .At.tval ?_ b Trfl ] ] { W f r ( .At.xtup ?_ ?za ?zb ] r ( .At.xpr ?_ ?za ?zb ] ] cza Trfl czb Trfl ] { W s ( .At _ _ _ _ _ _ ( .KAt \
 _ _ _ _ _ _ ] ] W f r ( .At.kcur b Kas b Kas b Kas ?_ ] r ( .At.kmax b Kas b Kas b Kas ?_ ] r ( .At.kspl b Kas b Kas b Kas ?_ ] r ( .At.klines b Kas b Kas b Kas ?_ ] ] ] ]\nMt=* f Kev Kasn Kat Kat2 \
 Kev2 Kat3 Kmt ]\nev=f { W s ( .At _ _ _ _ _ _ ( 'wpAny _ _ ( 'execs ( 'List.cons ( 'Stmt.Assign ( 'List.cons ( 'Expr.Name _ _ ] 'List.nil ] _ _ ] _ ] _ ] _ _ ] ] r ( .At.asgE b Kas 'rfl 'rfl b Trfl ?_ \
 ] ] { W s ( .At _ _ _ _ _ _ ( 'wpAny _ _ ( 'eval ( 'Expr.Subscript _ _ _ ] _ ] _ _ ] ] r ( .At.subE b Kas 'rfl 'rfl ?_ ] ] { W s ( .At _ _ _ _ _ _ ( .KSp1 _ _ _ _ _ _ _ _ ] ] r ( .At.ksp1E b Kas 'rfl \
 ?_ ] ] { W s ( .At _ _ _ _ _ _ ( .KSt _ _ _ _ _ _ _ _ ] ] r ( .At.kstE b Kas 'rfl ?_ ] ] { W s ( .At _ _ _ _ _ _ ( 'wpAny _ _ ( 'spliced ( 'backTo _ ( 'starEach ( 'List.cons _ _ ] _ ] ] ] _ _ ] ] r ( \
 .At.evL12 b Kas 'rfl ?_ ] ] { W s ( .At _ _ _ _ _ _ ( 'wpAny _ _ ( 'eval _ _ ] _ _ ] ] r ( .At.ev12 b Kas 'rfl ?_ ] ] ]\nasn=f { W s ( .At _ _ _ _ _ _ ( 'wpAny _ _ ( 'eval ( 'Expr.Name _ _ ] _ ] _ _ ] \
 ] r ( .At.locN b Kas b Klk ?_ b Trfl b Trfl ] ] { W r ( .At.asn ?za ?zb ?_ ] cza Trfl czb Kas ] { W r ( .At.stN ?zb ?za ?_ ] cza Trfl czb Kas ] ]\nev2=f w .At.isN ] u .At.kms ] { W r ( .At.xtnd ?_ ?za \
 ?zb ?zc ?zd ?zf ] cza Kab czb Trfl czc Trfl czd Trfl czf e .sw_Call ] { W s ( .At _ _ _ _ _ _ ( .KXt1 _ _ _ _ _ _ _ _ ] ] r ( .At.kxt1 b Keither ?_ ] ] ]\nEv=* f Kev Kasn Kat Kat2 Kev2 ]\nrk1=f w \
 .At.eqS .At.inS' .At.ninS .At.neB ] u .At.eFig .At.tFig ] { w .At.kfig .At.kfigT ] i ] ]\nrk=* f Kev Kat Kat2 Kev2 Krk1 ]".splitOn "\n").find? (·.startsWith (s ++ "=")) with
 | some l => return mac (l.drop (s.length + 1)).toString
 | none => Lean.Macro.throwUnsupported
local macro_rules | `(tactic| walk_at $s) => macG s.getString
local macro_rules | `(tactic| wtm_at $s) => macG s.getString
noncomputable section
abbrev zB := @wpAny_bind
abbrev zP := @wpAny_pure
abbrev zM := @wpAny_mono
abbrev zT := @Nat.le_trans
theorem zS {α : Type} {a b : α} (h : a ∈ [b]) : a = b := List.mem_singleton.mp h
theorem zC {α : Type} {a b : α} {l : List α} (h : a ∈ b :: l) : a = b ∨ a ∈ l := List.mem_cons.mp h
theorem zF : ¬ false = true := Bool.false_ne_true
abbrev zU := @Nat.lt_of_le_of_lt
abbrev zV := @Nat.lt_of_lt_of_le
abbrev zW := @Nat.le_of_eq
abbrev zO := @List.nil_sublist
abbrev zQ := @Heap.get?_push_of_some
abbrev zR := @List.mem_of_getElem?
abbrev zG := @if_neg
abbrev zH := @if_pos
theorem zD {α : Type} {a : α} {s t : List α} (h : a ∈ s ++ t) : a ∈ s ∨ a ∈ t := List.mem_append.mp h
abbrev zI := @List.getElem?_eq_getElem
abbrev zJ := @Nat.add_le_add
abbrev zK := @Nat.succ_le_succ
abbrev zL := @Heap.get?_push_size
abbrev Za := @Nat.mul_le_mul_left
abbrev Zb := @Nat.le_add_right
abbrev Zc := @Nat.add_le_add_left
abbrev Zd := @Nat.le_add_left
abbrev Ze := @Nat.le_refl
abbrev Zf := @Nat.mul_le_mul_right
abbrev Zg := @Nat.add_le_add_right
abbrev Zh := @List.take_of_length_le
abbrev Zi := @List.map_cons
abbrev zY := @List.length_append
theorem blT {a b : Nat} (h : Nat.ble a b = true) : a ≤ b := Nat.le_of_ble_eq_true h
abbrev VP := Value → Shared → Prop
abbrev LS := List (Str × Value)
abbrev LO := List (Nat × Obj)
abbrev SP := Shared → Prop
open Sem (wp)
def HasC (Γ : Ctx) : Prop := (Γ.code :: Γ.below.map (·.1)).any Code.isCaller = true
def wpC {α : Type} (M : Model) (A : Around) (t : Sem α) (Q : α → SP) (E : VP) (s : Shared) : Prop :=
 ∀ Γ p, Γ.In A → HasC Γ → wp M Γ t (fun a _ s' => Q a s') (fun e _ s' => E e s') p s
def HasB (Γ : Ctx) : Prop := (Γ.below.map (·.1)).any Code.isCaller = true
def codeC (M : Model) (A : Around) (c : Code) (R : Result → SP) (s : Shared) : Prop :=
 ∀ Γ p, Γ.code = c → Γ.Below A → HasB Γ → wpCode M Γ R p s
section
variable {α β : Type} {M : Model} {A : Around} {E : VP} {s : Shared}
theorem wpC.any {t : Sem α} {Q : α → SP} (h : wpAny M A t Q E s) : wpC M A t Q E s := fun Γ p hΓ _ => h Γ p hΓ
abbrev zy := @wpC.any
theorem codeC.any {c : Code} {R : Result → SP} (h : codeAny M A c R s) : codeC M A c R s := fun Γ p hc hΓ _ => h Γ p hc hΓ
theorem wpC.mono {t : Sem α} {Q Q' : α → SP} {E' : VP} (h : wpC M A t Q E s) (hQ : ∀ a s, Q a s → Q' a s) (hE : ∀ e s, E e s → E' e s) : wpC M A t Q' E' s :=
 fun Γ p hΓ hC => Sem.wp_mono M Γ t (fun a j s => hQ a s) (fun e j s => hE e s) p s (h Γ p hΓ hC)
theorem wpC.bind {m : Sem α} {f : α → Sem β} {Q : β → SP} (h : wpC M A m (fun a s' => wpC M A (f a) Q E s') E s) : wpC M A (m >>= f) Q E s := fun Γ p hΓ hC => by
 rw [Sem.wp_bind']
 exact Sem.wp_mono M Γ m (fun a p' s' h' => h' Γ p' hΓ hC) (fun j j j h' => h') p s (h Γ p hΓ hC)
abbrev zw := @wpC.bind
theorem wpC.onRaise {m : Sem α} {k : Value → Sem Unit} {Q : α → SP} (h : wpC M A m Q (fun e s' => wpC M A (k e) (fun j s'' => E e s'') E s') s) : wpC M A (m.onRaise k) Q E s := fun Γ p hΓ hC => by
 rw [Sem.wp_onRaise]
 exact Sem.wp_mono M Γ m (fun j j j h' => h') (fun e p' s' h' => h' Γ p' hΓ hC) p s (h Γ p hΓ hC)
theorem wpC.attempt {m : Sem α} {Q : Except Value α → SP} (h : wpC M A m (fun a => Q (.ok a)) (fun e => Q (.error e)) s) : wpC M A m.attempt Q E s := fun Γ p hΓ hC => by
 rw [Sem.wp_attempt]; exact h Γ p hΓ hC
theorem wpC.holding {vs : List Value} {m : Sem α} {Q : α → SP} (h : wpC M A m Q E s) : wpC M A (holding vs m) Q E s := fun Γ p hΓ hC => by
 rw [Sem.wp_holding]; exact h Γ p hΓ hC
theorem HasC.enter {Γ : Ctx} (h : HasC Γ) (c : Code) (hd : Option Value) (p : Pos) : HasB (Γ.enter c hd p) := by
 unfold HasC at h
 show (((Γ.code, p) :: Γ.below).map (·.1)).any Code.isCaller = true
 simpa using h
theorem HasB.toC {Γ : Ctx} (h : HasB Γ) : HasC Γ := by
 unfold HasC
 rw [List.any_cons, h, Bool.or_true]
theorem codeC.mono {c : Code} {R R' : Result → SP} (h : codeC M A c R s) (hR : ∀ r s, R r s → R' r s) : codeC M A c R' s := fun Γ p hc hΓ hB => by
 obtain ⟨r, s', h1, h2⟩ := h Γ p hc hΓ hB
 exact ⟨r, s', h1, hR r s' h2⟩
theorem wpC.run {c : Code} {h : Option Value} {Q : Flow → SP} (hc : codeC M (A.mark h) c (fun r s' => match r with | .ok f => Q f s' | .error e => E e s') s) (hnb : h ≠ some byPass := by intro x; cases x) : wpC M A (run c h) Q E s :=
 fun Γ p hΓ hC => by rw [Sem.wp_run]; exact hc _ p rfl (hΓ.enter c h p hnb) (hC.enter c h p)
theorem wpC.call {f : Value} {pos : List Value} {kw : LS} {Q : VP} (hc : codeC M A (.call f ⟨pos, kw⟩) (fun r s' => match r with | .ok (.ret v) => Q v s' | .ok _ => False | .error e => E e s') s) : wpC M A (call f pos kw) Q E s :=
 fun Γ p hΓ hC => by
  show wp M Γ (runValue (.call f ⟨pos, kw⟩)) _ _ p s
  rw [Sem.wp_runValue]; exact hc _ p rfl (hΓ.enter _ none p (by intro x; cases x)) (hC.enter _ none p)
theorem codeC.tree {c : Code} {R : Result → SP} (h : wpC M (A.under c) (M.den c) (fun fin s' => match fin with | .done f => R (.ok f) s' | .again c' => c'.quiet = true ∧ codeC M A c' R s') (fun e s' => R (.error e) s') s) : codeC M A c R s := fun Γ p hc hΓ hB => by
 rw [wpCode_iff_wp, hc]
 refine Sem.wp_mono M Γ _ (fun fin p' s' h' => ?_) (fun j j j h' => h') p s (h Γ p (hc ▸ hΓ.in) hB.toC)
 cases fin with
 | done f => exact h'
 | again c' => exact ⟨h'.1, h'.2 (Γ.goto c') p' rfl (hΓ.goto c') hB⟩
theorem codeC.loop {c : Code} {R : Result → SP} (hq : c.quiet = true) (I : Nat → SP)
  (turn : ∀ n s, I n s → wpC M (A.under c) (M.den c) (fun fin s' => match fin with | .done f => R (.ok f) s' | .again c' => c' = c ∧ ∃ m, m < n ∧ I m s') (fun e s' => R (.error e) s') s)
  (n : Nat) (h : I n s) : codeC M A c R s := by
 induction n using Nat.strongRecOn generalizing s with
 | ind n ih =>
  refine codeC.tree ((turn n s h).mono (fun fin s' hf => ?_) fun j j h' => h')
  cases fin with
  | done f => exact hf
  | again c' => obtain ⟨rfl, m, hm, hI⟩ := hf; exact ⟨hq, ih m hm hI⟩
theorem wpC.stack {Q : List (Code × Pos) → SP} (h : ∀ st : List (Code × Pos), (st.map (·.1)).any Code.isCaller = true → Q st s) : wpC M A stack Q E s := fun Γ p hΓ hC => by
 exact h _ (by unfold HasC at hC; simpa using hC)
theorem wpC.mark {own : List String} {e : Value} {Q : Unit → SP} (h : Q () s) : wpC M A (markTheRefusal own e) Q E s := by
 refine zw (wpC.stack fun st hst => ?_)
 have hf : pythonCodeMadeTheCall own (st.map (·.1)) = false := by
  show ((!((st.map (·.1)).any Code.isCaller)) && _ && _) = false
  rw [hst]; rfl
 rw [hf]
 exact zy (zP h)
end
open PySem.Calls
theorem zkg : HasC (⟨.builtin "claim.caller" {}, none, none, [], none⟩ : Ctx) := by unfold HasC; rfl
theorem wpC.halts {prog : Program} {w : World} {t : Sem Fin} {s : Shared} {R : Result → SP} (hreg : s.asleep)
  (h : wpC (model prog w) callerA t (fun fin s' => ∃ f, fin = .done f ∧ R (.ok f) s' ∧ leftWithCleanup s'.gens = false) (fun e s' => R (.error e) s' ∧ leftWithCleanup s'.gens = false) s) :
  ∃ n r s' s'', schedN (denote table) prog w n (.single s ⟨t, .builtin "claim.caller" {}, default, []⟩) = .halted (outcomeOf r) s'' ∧
   runN (denote table) prog w n s ⟨t, .builtin "claim.caller" {}, default, []⟩ = .halted (outcomeOf r) s'' ∧ s''.forget = s'.forget ∧ R r s' := by
 refine wp_halts_full (M := model prog w) (R := R) hreg (p := default) ?_
 refine Sem.wp_mono _ _ t (fun fin p' s' h' => ?_) (fun j j j h' => h') default s (h _ default caller_in zkg)
 obtain ⟨f, rfl, hf⟩ := h'
 exact hf
def EndsK (c : ClaimW) (s : Shared) (args : List WData) (vs : List Value) (s₁ : Shared) (kept : Heap → Prop) (r : Result) (s' : Shared) : Prop := c.Ends s args vs s₁ r s' ∧ s'.os = s.os ∧ kept s'.heap
theorem fromC {c : ClaimW} {tree : List Value → Sem Fin} {w : World} {s : Shared} {free : Addr → Prop} {gens : Prop} {kept : Heap → Prop} (hz : s.asleep) (hgens : s.gens = #[])
  (spec : ∀ args, c.pre args = true → WData.layableAll args = true → ∀ ord : List DictEntry → List DictEntry, (∀ l, (ord l).Perm l) →
   ∃ vs s₁, layAllW c.records (classAt s.heap) w.params ord args s = some (vs, s₁) ∧
    wpC (model c.prog w) callerA (tree vs) (fun fin s' => ∃ f, fin = .done f ∧ EndsK c s args vs s₁ kept (.ok f) s' ∧ leftWithCleanup s'.gens = false) (fun e s' => EndsK c s args vs s₁ kept (.error e) s' ∧ leftWithCleanup s'.gens = false) s₁) :
  c.CallFrom (fun vs => ⟨tree vs, .builtin "claim.caller" {}, default, []⟩) w free gens kept s := fun args hpre hlay ord hord => (spec args hpre hlay ord hord).imp fun vs h => h.imp fun s₁ h => ⟨h.1, (h.2.halts (Shared.asleep_of_life (layAllW_rest _ _ _ h.1).2.2.2 hz)).imp fun n H => by
 obtain ⟨r, t', t'', H⟩ := H
 refine ⟨outcomeOf r, t'', H.1, ?_, fun j i x hx => ?_, ?_, ?_, ?_⟩
 ·exact (ClaimW.Ends.congr (Shared.forget_eq H.2.2.1).1 H.2.2.2.1).imp (fun h => h.imp fun v h => ⟨congrArg outcomeOf h.1, h.2.1, h.2.2.1, h.2.2.2.1, fun b o hb j => h.2.2.2.2.1 b o hb, h.2.2.2.2.2⟩)
   (fun h => h.imp fun x h => h.imp fun ob h => h.imp fun cls h => ⟨congrArg outcomeOf h.1, h.2.1, h.2.2.1, h.2.2.2.1, h.2.2.2.2.1, fun b o hb j => h.2.2.2.2.2 b o hb⟩)
 ·rw [hgens] at hx; simp at hx
 ·rw [(Shared.forget_eq H.2.2.1).1]; exact H.2.2.2.2.2
 ·rw [(runN_life _ _ _ H.2.1).trans (layAllW_rest _ _ _ h.1).2.2.2]
 ·exact Shared.rest_eq ((Shared.forget_eq H.2.2.1).2.2.2.1.trans H.2.2.2.2.1)⟩
def WalkC (q : Program) (loose : List Str) (XP : (Str → Option Value) → Heap → Prop) (YP : World → Heap → Prop) (r : RowW) (d : DefRec) (kwd : List (Str × Expr)) : Prop :=
 ∀ (w : World) (s₀ s₁ : Shared) (mg mb : Str → Option Value), Ground q loose r.records XP w s₀ mg mb s₁.heap → YP w s₁.heap → ∀ (a : Addr) (o : Obj) (pm cd doc dV kV : Value), s₁.heap.get? a = some o →
  o.data = .func { docDef d.name d.params d.body d.scope pm cd doc with defaults := dV, kwdefaults := kV } → s₁.heap.CodeRec cd d.name → Dflts mg s₁.heap d.params kwd dV kV → mg d.name = some (.ref a) → s₁.gens = #[] →
  ∀ (args : List WData) (vals : List Value) (as : List Addr), r.claim.pre args = true → WData.layableAll args = true → ReadsAllW r.records (classAt s₀.heap) s₁.heap vals args as → WellAll w.params s₁.heap vals args → (∀ a ∈ as, (a == sysModules) = false) →
   wpC (model r.prog w) callerA (PySem.call (.ref a) vals) (fun v s' => GoodWG r.claim (classAt s₀.heap) (ExcName.means s₀.heap) args s₁ (.ok (.ret v)) s') (fun j j => False) s₁
theorem PySem.W.holds_open {r : OpenRow} {q : Program} {loose : List Str} {Xt : Shared → Bool} {XP : (Str → Option Value) → Heap → Prop} {α : Type} {Yf : Shared → α} {Ya : World → α} {YP : World → Heap → Prop} {d : DefRec} {kwd : List (Str × Expr)} {N : Nat}
  (left : LeftO r.prog q loose Xt Yf Ya N) (hY : ∀ w s, Yf s = Ya w → YP w s.heap) (hYk : ∀ w h h', YP w h → (∀ b o, h.get? b = some o → h'.get? b = some o) → YP w h')
  (hX : ∀ s, Xt s = true → XP (s.heap.nsMap mainGlobals) s.heap) (hXk : ∀ mg h h', XP mg h → (∀ b o, h.get? b = some o → h'.get? b = some o) → XP mg h')
  (hdef : defOf q r.name = some (d, kwd)) (hp : r.prog.theDef r.name = some (d.params, d.body, d.scope)) (hk : kwWritten? d.params.kwonlyargs d.params.kw_defaults = some kwd) (hRf : ∀ s, Xt s = true → RecFacts r.records s.heap) (hwr : (!r.writes || r.records.isEmpty) = true)
  (k1 : r.wellSaid = true) (ok : (chainsOk q && opensWell r.prog && (frees r.toRowW && r.within.isEmpty)) = true) (hb : r.prog.bare) (hw : r.toRowW.promised)
  (walk : WalkC q loose XP YP r.toRowW d kwd) : r.Holds := by
 simp only [Bool.and_eq_true] at ok
 obtain ⟨⟨ch, opens⟩, fr, wi⟩ := ok
 obtain ⟨hsame, hu, ha, hap, hm⟩ := frees_parts fr
 have wi0 : r.claim.within = [] := List.isEmpty_iff.mp wi
 refine ⟨k1, hw, ⟨hb, opens, by show r.makers.map _ = []; rw [hm]; rfl⟩, hw.witness, fun w => ⟨(left.behind hX ch w).1, fun s hs => ?_⟩⟩
 obtain ⟨s₀, f1, f2, s₁, H⟩ := (left.behind (XP := fun mg h => XP mg h ∧ RecFacts r.records h) (fun s e => ⟨hX s e, hRf s e⟩) ch w).2 s hs
 have G := H.2.2.2.2.1
 have RF := G.X.2
 have G0 : Ground q loose [] XP w s₁ (s₁.heap.nsMap mainGlobals) (s₁.heap.nsMap builtinsNs) s₁.heap := { G with X := G.X.1 }
 have g0 : s₁.gens = #[] := Array.eq_empty_of_size_eq_zero (beq_iff_eq.mp H.2.2.1)
 refine ⟨s₀, f1, f2, s₁, H.1, fun n hn => ?_, RF.1, RF.2.1, ?_⟩
 ·have : n = r.name := by split at hn <;> simp_all
  subst this
  exact pinned_of_view H.2.2.2.1 G0 hdef hp hk
 refine fromC H.2.1 g0 fun args hpre hlay ord hord => ?_
 have GR := RF.ground G0
 obtain ⟨⟨vs, s₂⟩, laid⟩ := Option.isSome_iff_exists.mp (layAllW_isSome (P := w.params) (ord := ord) GR.has args r.args s₁ (pre_splitW hpre).1)
 refine ⟨vs, s₂, laid, ?_⟩
 have up := layAllW_keeps _ _ _ laid
 have rest := layAllW_rest _ _ _ laid
 obtain ⟨as, R⟩ := reads_layAllW hord _ _ _ laid hlay s₂.heap fun j j e => e
 have L : Laid r.records w s₁ s₂ args vs as := ⟨⟨ord, hord, laid⟩, R.1, R.2.1, R.2.2, up, rest.1.trans g0, rest.2.2.1⟩
 have G2 := GR.keeps hXk up
 obtain ⟨a, o, pm, cd, doc, dV, kV, q⟩ := G2.fn hdef
 refine zw (zy (wpAny_nsGet G2.T.g ?_))
 rw [q.1]
 refine zw ((walk w s₁ s₂ _ _ G2 (hYk _ _ _ (hY w s₁ H.2.2.2.2.2) up) a o pm cd doc dV kV q.2.1 q.2.2.1 q.2.2.2.1 q.2.2.2.2 (defOf_name hdef ▸ q.1) L.gens args vs as hpre hlay L.reads L.well (L.low GR.low)).mono (fun v s' g => zy (zP ⟨_, rfl, ?_⟩)) fun j j z => z.elim)
 have z := g.laid (c := r.claim) hsame wi0 (ident_freeW hu ha hap) L
 exact ⟨⟨z.1, z.2.1, fun e => ⟨namesKept_of H.1 H.2.2.2.1 _ up g.2.1.old, noTable hwr e⟩⟩, leftWithCleanup_false_of_bare z.2.2⟩
theorem zif {r : OpenRow} {q : Program} {loose : List Str} {Xt : Shared → Bool} {XP : (Str → Option Value) → Heap → Prop} {α : Type} {Yf : Shared → α} {Ya : World → α} {YP : World → Heap → Prop} {d : DefRec} {kwd : List (Str × Expr)} {N : Nat}
  (hY : ∀ w s, Yf s = Ya w → YP w s.heap) (hYk : ∀ w h h', YP w h → (∀ b o, h.get? b = some o → h'.get? b = some o) → YP w h')
  (hX : ∀ s, Xt s = true → XP (s.heap.nsMap mainGlobals) s.heap) (hXk : ∀ mg h h', XP mg h → (∀ b o, h.get? b = some o → h'.get? b = some o) → XP mg h')
  (hdef : defOf q r.name = some (d, kwd)) (hp : r.prog.theDef r.name = some (d.params, d.body, d.scope)) (hk : kwWritten? d.params.kwonlyargs d.params.kw_defaults = some kwd) (hRf : ∀ s, Xt s = true → RecFacts r.records s.heap) (hwr : (!r.writes || r.records.isEmpty) = true)
  (k1 : r.wellSaid = true) (ok : (chainsOk q && opensWell r.prog && (frees r.toRowW && r.within.isEmpty)) = true) (hb : r.prog.bare) (hw : r.toRowW.promised)
  (both : LeftO r.prog q loose Xt Yf Ya N ∧ WalkC q loose XP YP r.toRowW d kwd) : r.Holds := PySem.W.holds_open both.1 hY hYk hX hXk hdef hp hk hRf hwr k1 ok hb hw both.2
noncomputable abbrev vw : Program := view PySem.Challenge.pw_ny0241_01 [23]
noncomputable abbrev ls : List Str := [ofString "_sre", ofString "_wall", ofString "__name__", ofString "twin_re_1_platform", ofString "_ver_stages", ofString "_comparable_version", ofString "_norm_version",
 ofString "system_alias", ofString "twin_re_1_header", ofString "NL", ofString "EMPTYSTRING", ofString "_ValueFormatter", ofString "_Accumulator", ofString "_law_parts",
 ofString "_law_words", ofString "_law_text", ofString "_law_rows", ofString "_law_fold", ofString "_law_ranks", ofString "_law_normed", ofString "_law_read"]
noncomputable abbrev xt (s : Shared) : Bool := xlAt vw [] s && recOk (RowW.records (OpenRow.toRowW (OpenLaw.row PySem.Challenge.rw_ny0241_01))) s
theorem said : (PySem.Challenge.rw_ny0241_01).wellSaid = true := by rw [Fast.te9446332074065402090]; kernel_rfl
local macro_rules | `(tactic| k_head) => `(tactic| x_head)
local macro_rules | `(tactic| o_law) => `(tactic| refine holds_law said fun said => ?_)
theorem hopen (H : Hook) {d : DefRec} {kwd : List (Str × Expr)} (hdef : defOf vw PySem.Challenge.rw_ny0241_01.row.name = some (d, kwd)) (hp : PySem.Challenge.rw_ny0241_01.row.prog.theDef PySem.Challenge.rw_ny0241_01.row.name = some (d.params, d.body, d.scope)) (hk : kwWritten? d.params.kwonlyargs d.params.kw_defaults = some kwd)
  (hw : PySem.Challenge.rw_ny0241_01.row.toRowW.promised) (hc : LeftO PySem.Challenge.rw_ny0241_01.row.prog vw ls xt H.obs H.val 3680 ∧ WalkC vw ls (XL vw []) H.says PySem.Challenge.rw_ny0241_01.row.toRowW d kwd) : PySem.Challenge.rw_ny0241_01.row.Holds :=
 zif H.of H.keeps (fun s e => xl_of s (Bool.and_eq_true_iff.mp e).1) XL.keeps hdef hp hk (fun s e => recFacts_of (Bool.and_eq_true_iff.mp e).2) (by rfl) (row_said said) (by decide +kernel) ⟨rfl, rfl, rfl, rfl, rfl, by decide +kernel⟩ hw hc
local macro_rules | `(tactic| o_head $H) => `(tactic| refine hopen $H (by rfl) (by rfl) (by rfl) ?hw ?hc)
set_option tactic.hygienic true in
open_top hd for PySem.Challenge.rw_ny0241_01
noncomputable abbrev asL : List Nat := [(0, 16), (32, 7), (42, 25), (70, 2), (79, 68), (149, 1), (152, 1), (157, 74), (233, 57)].flatMap fun p => List.range' p.1 p.2
noncomputable abbrev HBr (w : World) : Prop := (openEnds treeTable PySem.Challenge.rw_ny0241_01.row.prog w 3680).map (fun s => (openSeen vw ls (importedModules PySem.Challenge.rw_ny0241_01.row.prog.main.body) xt true s, asL.map s.heap.get?)) = some (openGood vw ls, (hd.heap_1 w.params).map fun p => some p.2)
noncomputable def grow : List Obj → Nat → BT → Option BT
 | [], _, t => some t
 | o :: r, n, t => match ((t.ins n o).get n).isSome with
  | true => grow r (n + 1) (t.ins n o)
  | false => none
theorem zma {life : Life} : ∀ {l : List Obj} {n : Nat} {t T : BT}, grow l n t = some T → absHeap T (n + l.length) life = l.foldl Heap.push (absHeap t n life)
 | [], n, t, T, e => by cases e; rfl
 | o :: r, n, t, T, e => by
  unfold grow at e
  cases g : ((t.ins n o).get n).isSome with
  | false => rw [g] at e; cases e
  | true =>
   rw [g] at e
   have k := zma (life := life) e
   rw [absHeap_ins g, Nat.add_assoc, Nat.add_comm 1] at k
   exact k
theorem pushes (life : Life) : ∀ (l : List Obj) (a : Array Obj), l.foldl Heap.push ⟨a, life⟩ = ⟨a ++ l.toArray, life⟩
 | [], a => by rw [List.foldl_nil, Array.append_empty]
 | o :: r, a => (pushes life r (a.push o)).trans (by simp)
noncomputable def runT (F : SharedT → Thread → Option (SharedT × Thread)) (K : Thread → Bool) : Nat → SharedT → Thread → Option SharedT
 | 0, _, _ => none
 | n + 1, s, t => match through t with
  | true => some s
  | false => match K t with
   | false => none
   | true => match F s t with
    | some (s', t') => runT F K n s' t'
    | none => none
theorem zk7 {p : Program} {w : World} {k : Nat} {ann : Option Value} : ∀ {n : Nat} {s r : SharedT} {t : Thread}, runT (stepT (denote treeTable) p w) (stepOk k ann) n s t = some r → topRun treeTable p w k ann n s.abs t = some r.abs
 | 0, _, _, _, e => nomatch e
 | n + 1, s, r, t, e => by
  unfold runT at e
  unfold topRun
  cases a : through t with
  | true => rw [a] at e; cases e; rfl
  | false =>
   rw [a] at e
   cases b : stepOk k ann t with
   | false => rw [b] at e; cases e
   | true =>
    rw [b] at e
    cases c : stepT (denote treeTable) p w s t with
    | none => rw [c] at e; cases e
    | some x => rw [c] at e; dsimp only; rw [stepT_spec c]; exact zk7 e
noncomputable def topT (F : SharedT → Thread → Option (SharedT × Thread)) (K : Nat → Option Value → Thread → Bool) (p : Program) (N : Nat) (s : Shared) : Option Shared :=
 match s.heap.isNs mainGlobals && s.gens.size == 0 with
 | true => (grow s.heap.objs.toList 0 .nil).bind fun t => (runT F (K s.heap.objs.size (s.heap.nsMap mainGlobals "__annotations__")) N ⟨t, s.heap.objs.size, s.heap.life, s.gens, s.drawn, s.toks, s.os⟩ (topStub p)).bind fun r =>
  match staticsOk (importedModules p.main.body) s.heap r.abs.heap && namesBound p r.abs.heap && gensDone r.abs && laidKept s.heap r.abs.heap with
  | true => some r.abs
  | false => none
 | false => none
theorem topT_of {p : Program} {w : World} {N : Nat} {s r : Shared} (e : topT (stepT (denote treeTable) p w) stepOk p N s = some r) : topFrom treeTable p w N s = some r := by
 unfold topT at e
 unfold topFrom
 cases a : s.heap.isNs mainGlobals && s.gens.size == 0 with
 | false => rw [a] at e; cases e
 | true =>
  rw [a] at e
  obtain ⟨t, g, e⟩ := Option.bind_eq_some_iff.mp e
  obtain ⟨T, u, e⟩ := Option.bind_eq_some_iff.mp e
  have v := zk7 u
  have k := (zma (life := s.heap.life) g).trans (pushes s.heap.life _ #[])
  have q : (⟨t, s.heap.objs.size, s.heap.life, s.gens, s.drawn, s.toks, s.os⟩ : SharedT).abs = s := by
   unfold SharedT.abs
   rw [Nat.zero_add, Array.length_toList, Array.empty_append, Array.toArray_toList] at k
   rw [k]
  rw [q] at v
  dsimp only
  rw [v]
  exact e
theorem endsT {p : Program} {w : World} {N : Nat} {α : Type} {f : Shared → α} {x : α} (e : ((fencedOpening treeTable p w N).bind (topT (stepT (denote treeTable) p w) stepOk p N)).map f = some x) : (openEnds treeTable p w N).map f = some x := by
 obtain ⟨r, a, e⟩ := Option.map_eq_some_iff.mp e
 obtain ⟨s, b, a⟩ := Option.bind_eq_some_iff.mp a
 unfold openEnds
 rw [b, Option.bind_some, topT_of a, Option.map_some, e]
theorem br0 (w : World) : HBr (w.withFollow "special-get-raises" false) := by
 refine endsT ?_
 delta fencedOpening
 rw [Fast.te10274390034422433532, Fast.te14289696077712309145, Fast.te1435165496053646825, Fast.te10156331382660048174, Fast.te11892475500146522536, Fast.te6613529449190102663, Fast.te4187177175401517315]
 kernel_rfl
theorem br1 (w : World) : HBr (w.withFollow "special-get-raises" true) := by
 refine endsT ?_
 delta fencedOpening
 rw [Fast.te10274390034422433532, Fast.te14289696077712309145, Fast.te1435165496053646825, Fast.te10156331382660048174, Fast.te11892475500146522536, Fast.te6613529449190102663, Fast.te4187177175401517315]
 kernel_rfl
theorem left : LeftO PySem.Challenge.rw_ny0241_01.row.prog vw ls xt (fun s => asL.map s.heap.get?) (fun w => (hd.heap_1 w.params).map fun p => some p.2) 3680 := byRow2 (P := HBr) "special-get-raises" br0 br1
section
variable {a b c d k m : Nat} {p q r t : Int}
theorem lt63 {a : Nat} (h : a < 9223372036854775808) : (↑a : Int) < 9223372036854775808 := by omega
theorem om1 : a < b → b - (a + 1) < b - a := fun h0 => Nat.sub_lt_sub_left h0 (Nat.lt_succ_self _)
theorem om2 : a ≤ b → ¬a < b → a = b := fun h0 h1 => Nat.le_antisymm h0 (Nat.le_of_not_lt h1)
theorem om3 : a + b ≤ 1000000 → a ≤ sizeLine := fun h => zT (Zb a b) (zT h (blT rfl))
theorem om4 : a + b ≤ 1000000 → a + b ≤ sizeLine + 1 := fun h0 => zT h0 (blT rfl)
theorem om5 : a + b ≤ 1000000 → a + b ≤ sizeLine := fun h0 => zT h0 (blT rfl)
theorem om6 : -(↑a : Int) ≤ 0 := by grind
theorem om7 : 0 < a → 0 < (↑a : Int) := fun h0 => Int.ofNat_le.mpr h0
theorem om8 : 0 < a → ¬a = 0 := fun h0 => Nat.ne_of_gt h0
theorem om9 : a ≤ 1000000 → b < a → c ≤ b → c ≤ sizeLine := fun h0 h1 h2 => zT h2 (zT (Nat.le_of_lt h1) (zT h0 (blT rfl)))
theorem om12 : a = b + 1 → b ≤ a := by lia
theorem om13 : a + (b + 1) ≤ 900 → a + 1 + b ≤ 900 := fun h => zT (zW (Nat.add_right_comm a 1 b)) h
theorem om14 : a + 20 * (b + 1) ≤ 9000 → a + 3 + 20 * b ≤ 9000 := fun h => zT (zW (Nat.add_right_comm a 3 (20 * b))) (zT (Zc ((blT rfl) : 3 ≤ 20) (a + 20 * b)) h)
theorem om15 : a + (b + 1) ≤ 900 → a + b ≤ 900 := fun h0 => Nat.le_of_lt h0
theorem om16 : a + 20 * (b + 1) ≤ 9000 → a + 1 + 20 * b ≤ 9000 := fun h => zT (zW (Nat.add_right_comm a 1 (20 * b))) (zT (Zc ((blT rfl) : 1 ≤ 20) (a + 20 * b)) h)
theorem om17 : a ≤ b → c + b ≤ 900 → c + a ≤ 900 := fun h h2 => zT (Zc h c) h2
theorem om18 : a ≤ b → c + 20 * b ≤ 9000 → c + 20 * a ≤ 9000 := fun h h2 => zT (Zc (Za 20 h) c) h2
theorem om19 : a + b ≤ 900 → a < 1000 := fun h => zU (zT (Zb a b) h) (blT rfl)
theorem om20 : a + 20 * b ≤ 9000 → a < 9900 := fun h => zU (zT (Zb a _) h) (blT rfl)
theorem om23 : 0 ≤ (↑a : Int) := Int.natCast_nonneg _
theorem om24 : a < b → b ≤ sizeLine → (↑a : Int) < 2 ^ 63 := fun h2 h1 => Int.lt_of_lt_of_le (Int.ofNat_lt.mpr h2) (Int.le_trans (Int.ofNat_le.mpr h1) (by decide))
theorem om25 : p + (↑a : Int) = (↑b : Int) → -(↑a : Int) ≤ p := fun h => Int.le_trans (Int.le_add_of_nonneg_left (Int.natCast_nonneg b)) (Int.le_of_eq ((congrArg (· + -(↑a : Int)) h).symm.trans (Int.add_neg_cancel_right p ↑a)))
theorem om26 : a ≤ sizeLine → p + (↑a : Int) = (↑b : Int) → -2 ^ 63 ≤ p := fun h e => Int.le_trans (Int.neg_le_neg (Int.le_trans (Int.ofNat_le.mpr h) (by decide : (↑(16777216 : Nat) : Int) ≤ 2 ^ 63))) (om25 e)
theorem om27 : p + (↑a : Int) = (↑b : Int) → Int.toNat (p + (↑a : Int)) = b := fun h => by rw [h]; rfl
theorem om28 : a ≤ sizeLine → b < a → (↑b : Int) < 2 ^ 63 := fun h1 h2 => lt63 (zV h2 (zT h1 (blT rfl)))
theorem om29 : a < b → a ≠ b + 1 := by grind
theorem om30 : p ≠ 0 → Int.natAbs p ≠ 0 := fun h e => h (Int.natAbs_eq_zero.mp e)
theorem om31 : 0 ≤ 300 := blT rfl
theorem om32 : a < 30 → a / 30 + 1 ≤ 300 := fun h => by rw [Nat.div_eq_of_lt h]; decide
theorem om33 : a ≤ 300 → ¬a > 300 := fun h0 => Nat.not_lt_of_le h0
theorem om34 : p = (↑a : Int) → -2 ^ 63 ≤ p := fun e => e.symm ▸ Int.le_trans (by decide) (Int.natCast_nonneg a)
theorem om35 : p = (↑a : Int) → b < 1000 → a < b → p < 2 ^ 63 := fun e hb ab => e.symm ▸ lt63 (Nat.lt_trans ab (zV hb (blT rfl)))
theorem om36 : Min.min 200 a - 0 ≤ 200 := Nat.min_le_left _ _
theorem om38 : a ≤ 640 → b ≤ 10 * a + 2 → b ≤ sizeLine := fun h h2 => zT h2 (zT (Zg (Za 10 h) 2) (blT rfl))
theorem om39 : a ≤ 9000 → a + 1 + Min.min 0 0 < cLine := fun h => zU (Zg (zK h) _) (blT rfl)
theorem om40 : a ≤ 9000 → a + Min.min (0 + 1) (0 + 1) < cLine := fun h => zU (Zg h 1) (blT rfl)
theorem om41 : a + 20 * b ≤ 9000 → a ≤ 9000 := fun h0 => zT (Zb _ _) h0
theorem om42 : a < b → 0 < (↑b : Int) - (↑a : Int) := fun h => Int.sub_pos_of_lt (Int.ofNat_lt.mpr h)
theorem om43 : p + (q + r) = p + q + r := by grind
theorem om44 : (↑a : Int) - (↑(b + 1) : Int) = (↑a : Int) - (↑b : Int) - 1 := (Int.sub_sub ↑a ↑b 1).symm
theorem om45 : (↑a : Int) - (↑a : Int) ≤ 0 := by grind
theorem om46 : (p - 0 - 1) / 1 + 1 = p := ((congrArg (· + 1) ((Int.ediv_one _).trans (congrArg (· - 1) (Int.sub_zero p)))).trans (Int.sub_add_cancel p 1))
theorem om47 : 0 ≤ p → ¬0 < p → 0 = p := fun h0 h => Int.le_antisymm h0 (Int.not_lt.mp h)
theorem om48 : 0 ≤ p → p ≤ 100000 → (-9223372036854775808 ≤ p ∧ p < 9223372036854775808) ∧ (p = 0 ∨ -9223372036854775808 ≤ p ∧ p < 9223372036854775808) := fun h0 h1 => ⟨⟨Int.le_trans (by decide) h0, Int.lt_of_le_of_lt h1 (by decide)⟩, .inr ⟨Int.le_trans (by decide) h0, Int.lt_of_le_of_lt h1 (by decide)⟩⟩
theorem om49 : 0 ≤ p → (↑(Int.toNat p) : Int) - (↑0 : Int) = p := fun h => by rw [Int.toNat_of_nonneg h]; exact Int.sub_zero _
theorem om50 : a ≤ b → a ≤ b := fun h0 => h0
theorem om51 : a ≤ b → c ≤ 1000 → b < c → a ≤ sizeLine := fun h0 h1 h2 => zT h0 (zT (Nat.le_of_lt h2) (zT h1 (blT rfl)))
theorem om52 : ((a = 43 ∨ a = 45) ∨ a = 46) ∨ a = 95 ↔ a = 46 ∨ a = 95 ∨ a = 43 ∨ a = 45 := ⟨fun h => by rcases h with ((rfl | rfl) | rfl) | rfl <;> decide, fun h => by rcases h with rfl | rfl | rfl | rfl <;> decide⟩
theorem om53 : ¬a = 46 ∧ ¬a = 95 ∧ ¬a = 43 ∧ ¬a = 45 → ¬a = 95 := fun h => h.2.1
theorem om54 : (48 ≤ a → 57 < a) → 48 ≤ a → 57 < a := id
theorem om55 : 97 ≤ a ∧ a ≤ 122 → ¬a - 87 < 10 := fun h => (by decide : ∀ x, x < 123 → 97 ≤ x → ¬x - 87 < 10) _ (Nat.lt_succ_of_le h.2) h.1
theorem om56 : 65 ≤ a ∧ a ≤ 90 → ¬a - 55 < 10 := fun h => (by decide : ∀ x, x < 91 → 65 ≤ x → ¬x - 55 < 10) _ (Nat.lt_succ_of_le h.2) h.1
theorem om57 : 48 ≤ a ∧ a ≤ 57 → (↑(b * 10 + (a - 48)) : Int) = (↑b : Int) * 10 + ((↑a : Int) - 48) := fun h => by rw [Int.natCast_add, Int.natCast_mul, Int.natCast_sub h.1]; rfl
theorem om58 : 48 ≤ a ∧ a ≤ 57 → ¬a = 46 ∧ ¬a = 95 ∧ ¬a = 43 ∧ ¬a = 45 := fun h => (by decide : ∀ x, x < 58 → 48 ≤ x → ¬x = 46 ∧ ¬x = 95 ∧ ¬x = 43 ∧ ¬x = 45) _ (Nat.lt_succ_of_le h.2) h.1
theorem om59 : a + (b + c) = a + b + c := (Nat.add_assoc _ _ _).symm
theorem om60 : a = b + c + d → c ≤ a - b := fun h => Nat.le_sub_of_add_le (by rw [h, Nat.add_comm]; exact Zb _ _)
theorem om61 : a + (b + c + 1) = a + (b + 1) + c := by grind
theorem om62 : a = b + (c + 1) + d → a - b = a - b - 1 + 1 := fun h => (Nat.sub_add_cancel (Nat.sub_pos_of_lt (h ▸ zV (Nat.lt_add_of_pos_right (Nat.succ_pos _)) (Zb _ _)))).symm
theorem om63 : a - b = c + 1 → c = a - (b + 1) := fun h => by rw [← Nat.sub_sub, h]; rfl
theorem om64 : a < b → b - a = b - a - 1 + 1 := fun h => (Nat.sub_add_cancel (Nat.sub_pos_of_lt h)).symm
theorem om65 : a ≤ 0 → a = 0 := fun h0 => Nat.eq_zero_of_le_zero h0
theorem om66 : a + (b + 1) ≤ c + 1 → b ≤ c := fun h => Nat.le_of_succ_le_succ (zT (Zd (b + 1) a) h)
theorem om67 : a + (b + (c + d)) = a + b + c + d := by grind
theorem om68 : a ≤ 640 → a = b + c + d → c ≤ 640 := fun h e => zT (Zd c b) (zT (Zb _ d) (zT (zW e.symm) h))
theorem om69 : a + (b + c) ≤ d + 1 → 1 ≤ b → c ≤ d := fun h h2 => Nat.le_of_succ_le_succ (zT (zT (zW (Nat.add_comm c 1)) (Zg h2 c)) (zT (Zd (b + c) a) h))
theorem om70 : a ≤ 640 → a ≤ 4300 := fun h0 => zT h0 (blT rfl)
theorem om71 : 43 ≤ a ∧ a < 121 → a ≠ 0 ∧ a < 128 := fun h => ⟨Nat.ne_of_gt (zV (blT rfl) h.1), Nat.lt_trans h.2 (blT rfl)⟩
theorem om72 : a ≤ 4 → b ≤ 4 → a + b ≤ 8 := fun h0 h1 => zT (zJ h0 h1) (blT rfl)
theorem om73 : a ≤ 9 * b → c ≤ 8 → 0 + 1 + (c + a) ≤ 9 * (b + 1) := fun ha hc => zT (Zc (zJ hc ha) 1) (zW ((Nat.add_assoc 1 8 (9 * b)).symm.trans (Nat.add_comm 9 (9 * b))))
theorem om74 : Int.natAbs p < 1000 → Int.natAbs p < 2000 := fun h0 => zT h0 (blT rfl)
theorem om75 : Int.natAbs p < 1000 → Int.natAbs (p - 3) < 2000 := fun h => zU (Int.natAbs_sub_le _ _) (Nat.lt_trans (Nat.add_lt_add_right h _) (blT rfl))
theorem om76 : a ≤ b → c = b → (↑a : Int) ≤ (↑c : Int) := fun h e => Int.ofNat_le.mpr (e.symm ▸ h)
theorem om78 : a + (b + 1) + 1 = 1 + (a + (1 + b)) := by grind
theorem om79 : a + (1 + (b + (1 + c))) ≤ a + (1 + (b + (1 + c))) + d := Zb _ _
theorem om80 : Int.natAbs p < 2000 → Int.natAbs p < 10 ^ 8 := fun h0 => zT h0 (blT rfl)
theorem om81 : a ≤ 8 → b ≤ 9 * c → a + b ≤ 8 + 9 * c := fun h0 h1 => zJ h0 h1
theorem om82 : a ≤ 12 → b ≤ 8 + 9 * a → b ≤ 640 := fun h h2 => zT h2 (zT (Zc (Za 9 h) 8) (blT rfl))
theorem om83 : a ≤ 640 → a = b + (c + d) → c ≤ 640 := fun h e => zT (zT (Zb c d) (zT (Zd _ b) (zW e.symm))) h
theorem om84 : a ≤ 12 → a + 1 ≤ 20 := fun h0 => zU h0 (blT rfl)
theorem om85 : -1000 ≤ p % 20 ∧ p % 20 ≤ 1000 := ⟨Int.le_trans (by decide) (Int.emod_nonneg p (by decide)), Int.le_trans (Int.le_of_lt (Int.emod_lt_of_pos p (by decide))) (by decide)⟩
theorem om86 : 1 ≤ a → b + c ≤ d + 1 → k + b + (c + 1) ≤ k + a + d + 1 := fun h1 h2 => zK (zT (zW (Nat.add_assoc k b c)) (zT (Zc (zT h2 (zT (zW (Nat.add_comm d 1)) (Zg h1 d))) k) (zW (Nat.add_assoc k a d).symm)))
theorem om87 : 1 ≤ p ∧ p ≤ 2 → 0 ≤ p ∧ p ≤ 2 := fun h => ⟨Int.le_trans (by decide) h.1, h.2⟩
theorem om88 : a = 53 ∨ a = 54 ∨ a = 55 ∨ a = 56 ∨ a = 57 ↔ 53 ≤ a ∧ a ≤ 57 := ⟨fun h => by rcases h with rfl | rfl | rfl | rfl | rfl <;> decide, fun h => (by decide : ∀ x, x < 58 → 53 ≤ x → x = 53 ∨ x = 54 ∨ x = 55 ∨ x = 56 ∨ x = 57) _ (Nat.lt_succ_of_le h.2) h.1⟩
theorem om89 : a = 53 ∨ a = 54 ∨ a = 55 ∨ a = 56 ∨ a = 57 ∨ a = 114 ∨ a = 120 ↔ 53 ≤ a ∧ a ≤ 57 ∨ a = 114 ∨ a = 120 := ⟨fun h => by rcases h with rfl | rfl | rfl | rfl | rfl | rfl | rfl <;> decide, fun h => (by decide : ∀ x, x < 121 → 53 ≤ x ∧ x ≤ 57 ∨ x = 114 ∨ x = 120 → x = 53 ∨ x = 54 ∨ x = 55 ∨ x = 56 ∨ x = 57 ∨ x = 114 ∨ x = 120) _ (by rcases h with h | rfl | rfl <;> first | decide | exact zU h.2 (blT rfl)) h⟩
theorem om90 : a < 53 → ¬53 ≤ a := fun h0 => Nat.not_le_of_lt h0
theorem om91 : a < 53 → ¬(a = 114 ∨ a = 120) := fun h z => z.elim (fun e => absurd (e ▸ h) (by decide)) (fun e => absurd (e ▸ h) (by decide))
theorem om92 : a ≤ b → c + d ≤ a + 1 → c + d ≤ b + 1 := fun h1 h2 => zT h2 (zK h1)
theorem om93 : a ≤ 9 → b = a → c + d ≤ 8 + 9 * b + 1 → c + d ≤ 1048576 := fun h1 e h3 => zT h3 (zT (zK (Zc (Za 9 (zT (zW e) h1)) 8)) (blT rfl))
theorem om94 : a ≤ 9 → b = a → b ≤ 12 := fun h0 h1 => zT (zW h1) (zT h0 (blT rfl))
theorem om95 : a ≤ 4 → a ≤ 10 := fun h0 => zT h0 (blT rfl)
theorem om96 : Int.natAbs p < 1000 → Int.natAbs p < 10 ^ 5 := fun h0 => zT h0 (blT rfl)
theorem om97 : (↑a : Int) = p → (↑(b + (a + c)) : Int) = (↑b : Int) + p + (↑c : Int) := fun e => e ▸ congrArg Int.ofNat (Nat.add_assoc b a c).symm
theorem om98 : (↑a : Int) = (↑b : Int) + p + (↑c : Int) → q + (↑a : Int) ≤ r → (↑b : Int) + p + (↑c : Int) ≤ r - q := fun e h => Int.le_sub_left_of_add_le (e ▸ h)
theorem om99 : (↑a : Int) = (↑b : Int) + p + (↑c : Int) → ¬q + (↑a : Int) ≤ r → ¬(↑b : Int) + p + (↑c : Int) ≤ r - q := fun e h z => h (e.symm ▸ Int.add_le_of_le_sub_left z)
theorem om100 : (↑(Str.length (ofString "")) : Int) + (↑a : Int) = (↑a : Int) := Int.zero_add _
theorem om101 : (↑a : Int) = (↑b : Int) → p + (↑a : Int) ≤ q → ¬(0 < p ∧ q - p < (↑b : Int)) := fun e h z => absurd z.2 (Int.not_lt.mpr (e ▸ Int.le_sub_left_of_add_le h))
theorem om102 : (↑a : Int) = (↑b : Int) → ¬p + (↑a : Int) ≤ q → q - p < (↑b : Int) := fun e h => Int.not_le.mp fun z => h (e.symm ▸ Int.add_le_of_le_sub_left z)
theorem om103 : ¬0 < p → ¬(0 < p ∧ q - p < (↑a : Int)) := fun h z => h z.1
theorem om104 : a + 1 ≤ b → b = b - 1 + 1 := fun h => (Nat.sub_add_cancel (zT (Zd 1 a) h)).symm
theorem om105 : 0 < a + 1 := blT rfl
theorem om107 : a + 1 + b = a + (b + 1) := Nat.add_right_comm _ _ _
theorem om110 : 0 ≤ p → p < 1 → p = 0 := fun h0 h1 => Int.le_antisymm (Int.le_of_lt_add_one h1) h0
theorem om111 : 1 ≤ p → 0 ≤ p := Int.le_trans (by decide)
theorem om112 : a = b + c + d → 1 ≤ c → a - b = a - b - 1 + 1 := fun h h1 => (Nat.sub_add_cancel (Nat.sub_pos_of_lt (h ▸ zV (Nat.lt_add_of_pos_right h1) (Zb _ _)))).symm
theorem om113 : (((((48 ≤ a ∧ a ≤ 57 ∨ a = 43) ∨ a = 45) ∨ a = 46) ∨ a = 120) ∨ a = 114) ∨ a = 99 → 43 ≤ a ∧ a < 121 := fun h => by rcases h with (((((h | rfl) | rfl) | rfl) | rfl) | rfl) | rfl <;> first | decide | exact ⟨zT (blT rfl) h.1, zU h.2 (blT rfl)⟩
theorem om114 : 43 ≤ a ∧ a < 121 → a < 128 := fun h0 => Nat.lt_trans h0.2 (blT rfl)
theorem om115 : a < 128 → a < 1114112 := fun h0 => zT h0 (blT rfl)
theorem om117 : 1 ≤ p ∧ p ≤ 2 → 0 ≤ p ∧ p ≤ 9 := fun h => ⟨Int.le_trans (by decide) h.1, Int.le_trans h.2 (by decide)⟩
theorem om118 : a ≤ 10 → Min.min b a ≤ 10 := fun h => zT (Nat.min_le_right _ _) h
theorem om119 : a = b → b ≤ c * (130 + 9) → c ≤ 10 → a ≤ 1390 := fun e h hc => zT (zW e) (zT h (Zf 139 hc))
theorem om120 : 1 ≤ p ∧ p ≤ 2 → 0 ≤ p := by lia
theorem om121 : 1 ≤ p ∧ p ≤ 2 → (↑a : Int) = p → a ≤ 2 := fun h e => Int.ofNat_le.mp (e ▸ h.2)
theorem om122 : (↑a : Int) = p → 0 ≤ p := by grind
theorem om123 : a ≤ 9 → a + 1 ≤ 20 := fun h0 => zU h0 (blT rfl)
theorem om124 : a ≤ 2 → b ≤ 130 → a + b ≤ 300 := fun h0 h1 => zT (zJ h0 h1) (blT rfl)
theorem om125 : a = b → b ≤ a := fun h0 => zW h0.symm
theorem om126 : a ≤ 1390 → a ≤ 20000 := fun h0 => zT h0 (blT rfl)
theorem om127 : 0 ≤ p % 3 ∧ p % 3 ≤ 2 := ⟨Int.emod_nonneg p (by decide), Int.le_of_lt_add_one (Int.emod_lt_of_pos p (by decide))⟩
theorem om128 : (↑a : Int) < 1000 → a < 1000 := Int.ofNat_lt.mp
theorem om129 : ∀ {x0 : Nat}, Int.toNat ((↑x0 : Int) % 4) = 0 ∨ Int.toNat ((↑x0 : Int) % 4) = 1 ∨ Int.toNat ((↑x0 : Int) % 4) = 2 ∨ Int.toNat ((↑x0 : Int) % 4) = 3 := fun {x0} => (by decide : ∀ y, y < 4 → y = 0 ∨ y = 1 ∨ y = 2 ∨ y = 3) (x0 % 4) (Nat.mod_lt _ (blT rfl))
theorem om130 : ∀ {x0 : Nat}, (0 ≤ -1 + ((↑x0 : Int) + 1) ∧ -1 + ((↑x0 : Int) + 1) < (↑x0 : Int) + 1) ∧ Int.toNat (-1 + ((↑x0 : Int) + 1)) = x0 := by intro x; rw [show -1 + ((x : Int) + 1) = x from by rw [Int.add_comm, Int.add_neg_cancel_right]]; exact ⟨⟨Int.natCast_nonneg _, Int.lt_succ _⟩, rfl⟩
theorem om131 : a ≤ 4 + 5 * b → a + 1 ≤ 5 + 5 * b := fun h => zT (zK h) (zW (Nat.add_right_comm 4 (5 * b) 1))
theorem om132 : a ≤ 4 → a ≤ 4 + 5 * (b + 1) := fun h0 => zT h0 (blT rfl)
theorem om133 : a ≤ 5 + 5 * b → a ≤ 5 + 5 * (b + 1) := fun h => zT h (Zc (Zb (5 * b) 5) 5)
theorem om134 : 0 ≤ p ∧ p ≤ 2 → 0 < p → 1 ≤ p ∧ p ≤ 2 := fun h h1 => ⟨h1, h.2⟩
theorem om135 : a ≤ 4 → b ≤ 5 + 5 * c → b + a ≤ 4 + 5 * (c + 1) := fun ha hb => zT (zJ hb ha) (zW ((Nat.add_comm _ 4).trans (congrArg (4 + ·) (Nat.add_comm 5 (5 * c)))))
theorem zlh : a ≤ b → a ≤ b + 1 := fun h0 => Nat.le_succ_of_le h0
theorem om137 : a + (b + 1) = a + 1 + b := by grind
theorem om138 : Min.min 8 a + 1 = b → b ≤ 9 := fun h => h ▸ zK (Nat.min_le_left _ _)
theorem om139 : a ≤ 4 → a ≤ 4 + 5 * 0 := fun h0 => h0
theorem om140 : a ≤ 9 → b ≤ 5 + 5 * a → b ≤ 130 := fun h h2 => zT h2 (zT (Zc (Za 5 h) 5) (blT rfl))
theorem om141 : a ≤ 9 → b + 1 ≤ a → b ≤ 8 := fun h1 h2 => Nat.le_of_succ_le_succ (zT h2 h1)
theorem om142 : a ≤ 10 → a ≤ 20 := fun h0 => zT h0 (blT rfl)
theorem om143 : a ≤ 130 → a ≤ 300 := fun h0 => zT h0 (blT rfl)
theorem om144 : p ≤ 2 → Int.toNat p ≤ 2 := fun h => Int.toNat_le.mpr h
theorem om145 : a ≤ 2 → a ≤ 4 := fun h0 => zT h0 (blT rfl)
theorem om146 : ∀ {x0 : Nat} {x1 : Int} {x2 : Nat} {x3 : Int} {x4 : Nat}, (↑x0 : Int) + x1 + (↑x2 : Int) ≤ x3 → x4 = x0 → (↑x4 : Int) + x1 + (↑x2 : Int) ≤ x3 := by intro _ _ _ _ _ h0 h1; rw [h1]; exact h0
theorem om147 : ∀ {x0 : Nat} {x1 : Int} {x2 x3 : Nat}, (↑x0 : Int) = x1 → x2 + x0 + x3 = x2 + Int.toNat x1 + x3 := by intro _ _ _ _ h0; subst h0; rfl
theorem om148 : ∀ {x0 : Nat} {x1 : Int} {x2 : Nat} {x3 : Int} {x4 : Nat}, ¬(↑x0 : Int) + x1 + (↑x2 : Int) ≤ x3 → x4 = x0 → ¬(↑x4 : Int) + x1 + (↑x2 : Int) ≤ x3 := by intro _ _ _ _ _ h0 h1; rw [h1]; exact h0
theorem om149 : ∀ {x0 : Nat} {x1 : Int} {x2 : Nat}, (↑x0 : Int) = x1 → x0 + x2 = Int.toNat x1 + x2 := by intro _ _ _ h0; subst h0; rfl
theorem om150 : 1 + a = a + 1 := Nat.add_comm _ _
theorem om151 : ¬(↑63 : Int) < (↑a : Int) → a ≤ 1000 := fun h => zT (Nat.le_of_not_lt fun z => h (Int.ofNat_lt.mpr z)) (blT rfl)
theorem om152 : a + 1 + b = a + b + 1 := Nat.add_right_comm _ _ _
theorem om153 : a ≤ b → a + 1 ≤ b + 1 := fun h0 => Nat.lt_succ_of_le h0
theorem om154 : 0 ≤ a + 1 := blT rfl
theorem om155 : a ≤ b → (↑1 : Int) > (↑a : Int) - (↑b : Int) := fun h => Int.lt_of_le_of_lt (Int.sub_nonpos_of_le (Int.ofNat_le.mpr h)) (by decide)
theorem om156 : a < b → ¬(↑1 : Int) > (↑b : Int) - (↑a : Int) := fun h => Int.not_lt.mpr (Int.le_sub_right_of_add_le (Int.ofNat_le.mpr (zT (zW (Nat.add_comm 1 a)) h)))
theorem om157 : a ≤ 100000 → Min.min 4294967295 (Int.toNat ((↑a : Int) - (↑b : Int))) = a - b := fun h => by rw [Int.toNat_sub]; exact Nat.min_eq_right (zT (Nat.sub_le _ _) (zT h (blT rfl)))
theorem om158 : 1 ≤ a → ¬a < 1 := fun h0 => Nat.not_lt_of_le h0
theorem om159 : ¬a < b → b ≤ a := fun h0 => Nat.le_of_not_lt h0
theorem om160 : a < b → ¬a ≥ b := fun h0 => Nat.not_le_of_lt h0
theorem om161 : a ≤ b → ¬b < a := fun h0 => Nat.not_lt_of_le h0
theorem om163 : a = 0 → a < 1 := fun e => e.symm ▸ Nat.zero_lt_one
theorem om164 : 8 ≤ 11 * (0 + 1) := blT rfl
theorem om165 : a - b = 0 → a ≤ b := Nat.le_of_sub_eq_zero
theorem om166 : a - b = c + 1 → b < a := fun h0 => Nat.lt_of_sub_eq_succ h0
theorem om167 : 10 ≤ 11 * (a + 1 + 1) := blT rfl
theorem om168 : 11 ≤ 11 * (a + 1 + 1) := blT rfl
theorem om169 : ¬1 ≤ a → a = 0 := fun h0 => Nat.eq_zero_of_not_pos h0
theorem om170 : a - b = c + 1 → a - (b + 1) = c := fun h => congrArg Nat.pred h
theorem om171 : a ≤ 11 * (b + 1) → 7 + a ≤ 11 * (b + 1 + 1) := fun h => zT (zJ ((blT rfl) : 7 ≤ 11) h) (zW (Nat.add_comm 11 (11 * (b + 1))))
theorem om172 : 4 ≤ 11 * (0 + 1) := blT rfl
theorem om173 : 7 ≤ 11 * (a + 1 + 1) := blT rfl
theorem om174 : a ≤ 11 * (b + 1) → 3 + a ≤ 11 * (b + 1 + 1) := fun h => zT (zJ ((blT rfl) : 3 ≤ 11) h) (zW (Nat.add_comm 11 (11 * (b + 1))))
theorem om175 : a < b → a ≤ b ∧ ¬b - a = 0 := fun h => ⟨Nat.le_of_lt h, Nat.sub_ne_zero_of_lt h⟩
theorem om176 : a ≤ b → a < b ∨ a - b = 0 := fun h => .inr (Nat.sub_eq_zero_of_le h)
theorem om177 : a ≤ 100000 → b ≤ 11 * (a - c + 1) → b ≤ 2 ^ 60 := fun h h1 => zT h1 (zT (Za 11 (zK (zT (Nat.sub_le _ _) h))) (blT rfl))
theorem om178 : ¬a < b → b - a = 0 := fun h => Nat.sub_eq_zero_of_le (Nat.le_of_not_lt h)
theorem om179 : 4 * (a + 1) = 4 + 4 * a := Nat.add_comm _ _
theorem om180 : 1 ≤ a + 1 := blT rfl
theorem om181 : a ≤ 2 ^ 60 → 4 * 2 ^ 64 = a + (4 * 2 ^ 64 - a) := fun h => (Nat.add_sub_of_le (zT h (blT rfl))).symm
theorem om182 : a + 1 ≤ b → a ≤ b := fun h0 => Nat.le_of_lt h0
theorem om183 : a ≤ 100000 → Min.min b a - c ≤ 16777216 := fun h => zT (Nat.sub_le _ _) (zT (Nat.min_le_right _ _) (zT h (blT rfl)))
theorem om184 : a < b → a ≤ b := fun h0 => Nat.le_of_lt h0
theorem om185 : a < b → ¬b = a := fun h0 => Nat.ne_of_gt h0
theorem om187 : a ≤ 2 * b → b ≤ c → c < d → a + 1 + 1 ≤ 2 * d := fun h bc cd => zT (Zg h 2) (Za 2 (zU bc cd))
theorem om188 : a - b < c + 1 → b ≤ d → d < k → k ≤ a → a - k < c := fun h h1 h2 h3 => zV (Nat.sub_lt_sub_left (zV (zU h1 h2) h3) (zU h1 h2)) (Nat.le_of_lt_succ h)
theorem om189 : a ≤ 100000 → Min.min a a - b ≤ 16777216 := fun h => zT (Nat.sub_le _ _) (zT (Nat.min_le_right _ _) (zT h (blT rfl)))
theorem om190 : a ≤ 100000 → b ≤ 2 * a → b + 1 ≤ sizeLine := fun h h2 => zT (zK (zT h2 (Za 2 h))) (blT rfl)
theorem om191 : a ≤ 2 * b → a ≤ 2 * b := fun h0 => h0
theorem om192 : a - 0 < 2 * a + 3 := zU (Nat.le_mul_of_pos_left a (by decide : 0 < 2)) (Nat.lt_add_of_pos_right (by decide : 0 < 3))
theorem om193 : a ≤ b - c → 1 ≤ a → c < c + a ∧ c + a ≤ b := fun h h1 => ⟨Nat.lt_add_of_pos_right h1, Nat.add_le_of_le_sub' (Nat.le_of_lt (Nat.lt_of_sub_pos (zV h1 h))) h⟩
theorem om194 : a < b → a < a + 1 ∧ a + 1 ≤ b := fun h => ⟨Nat.lt_succ_self _, h⟩
theorem om195 : a + 2 ≤ sizeLine → b ≤ a + 1 → b + 1 ≤ sizeLine := fun h0 h1 => zU h1 h0
theorem om196 : a + 2 ≤ sizeLine → a ≤ sizeLine := fun h0 => zT (Zb _ _) h0
theorem om197 : a ≠ a + 1 := by grind
theorem om198 : a - b = 0 → b ≤ a → b = a := fun h h1 => Nat.le_antisymm h1 (Nat.le_of_sub_eq_zero h)
theorem om199 : (↑a : Int) + (↑b : Int) = (↑(a + (b + 0)) : Int) := rfl
theorem om200 : a ≤ b → c ≤ d → k = a + c → m = d + b → k ≤ m := fun h0 h1 h2 h3 => by rw [h2, h3, Nat.add_comm]; exact zJ h1 h0
theorem om201 : a + b ≤ 10000 → (↑a : Int) < 9223372036854775808 := fun h => lt63 (zU (zT (Zb a b) h) (blT rfl))
theorem om202 : a + b ≤ 10000 → (↑b : Int) < 9223372036854775808 := fun h => lt63 (zU (zT (Zd b a) h) (blT rfl))
theorem om203 : ∀ {x0 x1 x2 : Nat}, x0 = x1 → x2 < x0 → x2 + 1 ≤ x1 := by intro _ _ _ h0 h1; rw [← h0]; exact h1
theorem om204 : a ≤ 100 → Min.min (b + 1) a ≤ 100 := fun h => zT (Nat.min_le_right _ _) h
theorem om205 : a = b → c < a → c < b := fun e h => e ▸ h
theorem om210 : 0 ≤ p ∧ p ≤ 1000 → -2 ^ 63 ≤ p ∧ p < 2 ^ 63 := fun h => ⟨Int.le_trans (by decide) h.1, Int.lt_of_le_of_lt h.2 (by decide)⟩
theorem om211 : a = b → a ≤ b := fun h0 => zW h0
theorem om212 : a ≤ b + (c + 0) + (0 + 1 + 1) * Str.length (ofString "") → a ≤ b + c := fun h0 => h0
theorem om213 : a ≤ b → c ≤ d → k = b + d → a + c ≤ k := fun h1 h2 e => zT (zJ h1 h2) (zW e.symm)
theorem om214 : a + b ≤ 10000 → a + b ≤ 1048574 := fun h0 => zT h0 (blT rfl)
theorem om215 : a = b → b ≤ 100 → a ≤ sizeLine := fun h0 h1 => zT (zW h0) (zT h1 (blT rfl))
theorem om216 : a = b → ¬c < b → a ≤ c := fun e h => zT (zW e) (Nat.le_of_not_lt h)
theorem om217 : a = b → ¬c < a → b ≤ c := fun e h => e ▸ Nat.le_of_not_lt h
theorem om218 : a ≤ b → b ≤ c * 10000 → c * 10000 ≤ 100 * 10000 → a + c * 0 ≤ 16777216 := fun h1 h2 h3 => zT h1 (zT h2 (zT h3 (blT rfl)))
theorem om219 : a ≤ 1000 → b = a → b ≤ sizeLine := fun h0 h1 => zT (zW h1) (zT h0 (blT rfl))
theorem om221 : a ≤ b → Min.min (Int.toNat (↑a : Int)) b = a := fun h => Nat.min_eq_left h
theorem om222 : a ≤ 1000 → a ≤ sizeLine := fun h0 => zT h0 (blT rfl)
theorem om223 : a ≤ 1000 → a ≤ 1000000 := fun h0 => zT h0 (blT rfl)
theorem om224 : a ≤ Max.max b a := Nat.le_max_right _ _
theorem om225 : ¬(↑a : Int) + 1 = 0 := fun h => Nat.succ_ne_zero a (Int.ofNat.inj h)
theorem om226 : a ≤ 1000 → a + 1 ≤ sizeLine := fun h0 => zU h0 (blT rfl)
theorem om227 : 0 ≤ p → ¬p < 0 := fun h => Int.not_lt.mpr h
theorem om228 : p < 2 ^ 63 → ¬p ≥ 2 ^ 63 := fun h => Int.not_le.mpr h
theorem om229 : 0 ≤ p ∧ p ≤ 1000 → a ≤ b * 10000 → b * 10000 ≤ 100 * 10000 → 0 ≤ p + (↑a : Int) ∧ p + (↑a : Int) < 2 ^ 63 := fun h h1 h2 => ⟨Int.add_nonneg h.1 (Int.natCast_nonneg _), Int.lt_of_le_of_lt (Int.add_le_add h.2 (Int.ofNat_le.mpr (zT h1 h2))) (by decide)⟩
theorem om230 : a ≤ 1000 → b ≤ 1000 → a + b ≤ 1000000 := fun h0 h1 => zT (zJ h0 h1) (blT rfl)
theorem om231 : 4 ≤ 5 := blT rfl
theorem om232 : a = b → b ≤ 999 → a ≤ 1000 := fun h0 h1 => zT (zW h0) (zT h1 (blT rfl))
theorem om233 : a ≤ 100 → a ≤ 1000 := fun h0 => zT h0 (blT rfl)
theorem om234 : 4 ≤ 7 := blT rfl
theorem om235 : 3 ≤ 7 := blT rfl
theorem om237 : 6 ≤ 7 := blT rfl
theorem om238 : 5 ≤ 7 := blT rfl
theorem om240 : (↑a : Int) - 0 - 1 + 1 = (↑a : Int) := by grind
theorem om241 : ¬(↑a : Int) > 0 → 0 = (↑a : Int) := fun h => Int.le_antisymm (Int.natCast_nonneg a) (Int.not_lt.mp h)
theorem om242 : a ≤ 100000 → (↑a : Int) < 9223372036854775808 := fun h0 => Int.ofNat_lt.mpr (zU h0 (blT rfl))
theorem om243 : Int.natAbs (-1) < 1073741824 := blT rfl
theorem om244 : a + b ≤ 10000 → a < sizeLine := fun h => zU (zT (Zb _ _) h) (blT rfl)
theorem om245 : a ≤ 99 → a ≤ 100 := fun h0 => zT h0 (blT rfl)
theorem om246 : a ≤ 99 → a ≤ 99 := fun h0 => h0
theorem zg6 : 3 ≤ 9 := blT rfl
theorem om248 : a ≤ 99 → a ≤ 1000 := fun h0 => zT h0 (blT rfl)
theorem om249 : 4 ≤ 9 := blT rfl
theorem om251 : 8 ≤ 9 := blT rfl
theorem om252 : a ≤ 900 → b = a → b ≤ 1000 := fun h0 h1 => zT (zW h1) (zT h0 (blT rfl))
theorem om255 : a < sizeLine → (↑a : Int) < 9223372036854775808 := fun h => lt63 (Nat.lt_trans h (blT rfl))
theorem om256 : a = b + 1 → (↑a : Int) - 1 = (↑b : Int) := fun e => e.symm ▸ Int.add_sub_cancel (↑b) 1
theorem om257 : a ≤ 99 → a ≤ 100000 := fun h0 => zT h0 (blT rfl)
theorem om258 : a = b + 1 → b - 1 < a := fun h => h ▸ Nat.lt_succ_of_le (Nat.sub_le _ _)
theorem om259 : 1 ≤ a → a - 1 < a := fun h0 => Nat.sub_lt_sub_left h0 (Nat.lt_succ_self _)
theorem om260 : 1 ≤ a → (↑a : Int) + -1 * (↑0 : Int) - 1 = (↑(a - 1) : Int) := fun h => (congrArg (· - 1) (Int.add_zero (↑a))).trans (Int.ofNat_sub h).symm
theorem om261 : a ≤ 99 → b = a + 1 → b ≤ sizeLine := fun h e => zT (zW e) (zT (zK h) (blT rfl))
theorem om262 : a + b ≤ 10000 → b ≤ 10000 := fun h0 => zT (Zd _ _) h0
theorem om263 : a ≤ 10000 → (↑a : Int) < 9223372036854775808 := fun h => lt63 (zU h (blT rfl))
theorem om264 : 0 < a → -(↑a : Int) ≤ -1 := fun h => Int.neg_le_neg (Int.ofNat_le.mpr h)
theorem om265 : -1 < (↑a : Int) := Int.natCast_nonneg _
theorem om266 : (↑a : Int) + -1 * (↑0 : Int) = (↑a : Int) := rfl
theorem om267 : a ≤ 99 → b = a + 1 → b ≤ 1000 := fun h e => zT (zW e) (zT (zK h) (blT rfl))
theorem om268 : 5 ≤ 9 := blT rfl
theorem om269 : a ≤ 900 → b = a → b ≤ sizeLine := fun h0 h1 => zT (zW h1) (zT h0 (blT rfl))
theorem om270 : a ≤ 99 → b = a → b ≤ 1000 := fun h0 h1 => zT (zW h1) (zT h0 (blT rfl))
theorem om272 : a = 2 * b → c < b → 2 * c < a := fun e h => e.symm ▸ zV (Nat.lt_add_of_pos_right (by decide : 0 < 2)) (Za 2 h)
theorem om273 : a = 2 * b → c < b → 2 * c + 1 < a := fun e h => e.symm ▸ Za 2 h
theorem om274 : 2 * (a + 1) = 2 * a + 1 + 1 := rfl
theorem om275 : a + b ≤ 1000000 → b + a ≤ sizeLine + 1 := fun h => zT (zW (Nat.add_comm _ _)) (zT h (blT rfl))
theorem om276 : a ≤ b + 0 → b ≤ c → a ≤ c := fun h0 h1 => zT h0 h1
theorem om277 : a ≤ b → c ≤ d → a + c ≤ d + b := fun h1 h2 => zT (zJ h1 h2) (zW (Nat.add_comm b d))
theorem om278 : a ≤ 300 → a ≤ 301 := fun h0 => zT h0 (blT rfl)
theorem om279 : a ≤ b → b < c → c ≤ 20 → d ≤ k → k ≤ a * 301 → d ≤ 6020 := fun ab bc hc hd hk => zT hd (zT hk (Zf 301 (zT ab (zT (Nat.le_of_lt bc) hc))))
theorem om280 : a + b ≤ 300 → 1 + b ≤ 301 := fun h => zT (zW (Nat.add_comm 1 b)) (zK (zT (Zd b a) h))
theorem om281 : a + b ≤ 300 → a + b ≤ 301 := fun h0 => zT h0 (blT rfl)
theorem om282 : a < b → b ≤ 20 → c ≤ a → c ≤ 900 := fun h0 h1 h2 => zT h2 (zT (Nat.le_of_lt h0) (zT h1 (blT rfl)))
theorem om283 : a < b → b ≤ 20 → c ≤ a → c ≤ 99 := fun h0 h1 h2 => zT h2 (zT (Nat.le_of_lt h0) (zT h1 (blT rfl)))
theorem om284 : ∀ {x0 x1 : Int}, 0 ≤ x0 ∧ x0 ≤ 1000 → x1 = x0 → 0 ≤ x1 ∧ x1 ≤ 1000 := by intro _ _ h0 h1; rw [h1]; exact h0
theorem om285 : p = 0 → 0 ≤ p ∧ p ≤ 1000 := fun e => e.symm ▸ (by decide : (0 : Int) ≤ 0 ∧ (0 : Int) ≤ 1000)
theorem om286 : a ≤ 301 → a ≤ 10000 := fun h0 => zT h0 (blT rfl)
theorem om287 : a ≤ 300 → a ≤ 10000 := fun h0 => zT h0 (blT rfl)
theorem om288 : a < b → a ≤ b - 1 := fun h => Nat.le_sub_one_of_lt h
theorem om289 : 2 * (a + 1) + 1 = 2 * a + 1 + 1 + 1 := rfl
theorem om290 : 2 * a + 1 + 1 = 2 * (a + 1) := rfl
theorem om291 : a ≤ 20000 → 0 + a ≤ sizeLine := fun h => zT (zW (Nat.zero_add a)) (zT h (blT rfl))
theorem om292 : a ≤ 20000 → a ≤ 100000 := fun h0 => zT h0 (blT rfl)
theorem om293 : a + b ≤ 300 → b ≤ 9000 := fun h => zT (Zd b a) (zT h (blT rfl))
theorem om294 : a ≤ 20000 → b ≤ 2 * a + 1 → b ≤ sizeLine := fun h h2 => zT h2 (zT (zK (Za 2 h)) (blT rfl))
theorem om295 : a ≤ 9000 → (↑a : Int) < 9223372036854775808 := fun h0 => Int.ofNat_lt.mpr (zU h0 (blT rfl))
theorem om296 : a ≤ 20000 → b ≤ 2 * a + 1 → b ≤ 999999 := fun h h2 => zT h2 (zT (zK (Za 2 h)) (blT rfl))
theorem om297 : 10 ≤ 11 := blT rfl
theorem om298 : a + 1 ≠ a := by grind
theorem om299 : 8 ≤ 13 := blT rfl
theorem om300 : 12 ≤ 13 := blT rfl
theorem om301 : a ≤ b → b ≤ 20 → a ≤ 100 := fun h0 h1 => zT h0 (zT h1 (blT rfl))
theorem om302 : 0 < a → 0 < b + (c + a) := fun h => zV h (zT (Zd a c) (Zd _ b))
theorem om303 : a ≤ 20 → b ≤ c → c ≤ d * 301 → d ≤ a → b ≤ 6020 := fun h h2 h3 h4 => zT h2 (zT h3 (Zf 301 (zT h4 h)))
theorem om304 : 10 ≤ 13 := blT rfl
theorem om305 : a ≤ b → b ≤ 20 → a ≤ 900 := fun h0 h1 => zT h0 (zT h1 (blT rfl))
theorem om306 : 0 < a → 0 ≤ p ∧ p ≤ 1000 → 0 < p + (↑a : Int) := fun h h1 => Int.add_pos_of_nonneg_of_pos h1.1 (Int.ofNat_lt.mpr h)
theorem om307 : a ≤ b → b ≤ 20 → c ≤ (a + 1) * 6020 → c + (a + 1) ≤ 1048576 := fun h1 h2 hc => zT (zJ (zT hc (Zf 6020 (zK (zT h1 h2)))) (zK (zT h1 h2))) (blT rfl)
theorem zg5 : 20 ≤ 39 := blT rfl
theorem om309 : Min.min 8 a ≤ 8 := Nat.min_le_left _ _
theorem om311 : a ≤ 10 → a ≤ 1000000 := fun h0 => zT h0 (blT rfl)
theorem om313 : a ≤ 10 → b ≤ a → b ≤ 10 := fun h0 h1 => zT h1 h0
theorem om314 : a ≤ 10 → a ≤ sizeLine := fun h0 => zT h0 (blT rfl)
theorem om315 : a ≤ 10 → 1 + (a - 1) ≤ sizeLine := fun h => zT (Zc (zT (Nat.sub_le _ _) h) 1) (blT rfl)
theorem om318 : Int.natAbs p < 10 ^ 5 → Int.natAbs (p - 3) < 10 ^ 9 := fun h => zU (Int.natAbs_sub_le _ _) (Nat.lt_trans (Nat.add_lt_add_right h _) (blT rfl))
theorem om320 : a = b → b ≤ 20 → a ≤ sizeLine := fun h0 h1 => zT (zW h0) (zT h1 (blT rfl))
theorem om321 : a ≤ 300 → a ≤ 1000000 := fun h0 => zT h0 (blT rfl)
theorem om322 : a < 3 → a = 0 ∨ a = 1 ∨ a = 2 := fun h => (by decide : ∀ x, x < 3 → x = 0 ∨ x = 1 ∨ x = 2) a h
theorem om323 : 14 ≤ 39 := blT rfl
theorem om324 : a + b ≤ 1048576 → c = b → c ≤ 1048576 := fun h e => zT (zW e) (zT (Zd b a) h)
theorem om325 : a ≤ 1048576 → a ≤ sizeLine := fun h0 => zT h0 (blT rfl)
theorem om326 : 30 ≤ 39 := blT rfl
theorem om327 : a + b ≤ sizeLine → a + b ≤ sizeLine := fun h0 => h0
theorem om328 : Int.toNat (Max.max (↑a : Int) (↑b : Int)) = Max.max a b := by grind
theorem om329 : a + b ≤ sizeLine → a ≤ sizeLine := fun h0 => zT (Zb _ _) h0
theorem om330 : a ≤ sizeLine → a + 1 ≤ sizeLine + 1 := fun h0 => zU h0 (blT rfl)
theorem om331 : ∀ {x0 : Nat}, x0 - 1 < x0 → (0 ≤ -1 + (↑x0 : Int) ∧ -1 + (↑x0 : Int) < (↑x0 : Int)) ∧ Int.toNat (-1 + (↑x0 : Int)) = x0 - 1 := fun {x0} h => match x0, h with | 0, h => absurd h (Nat.lt_irrefl 0) | n + 1, _ => om130
theorem om332 : a - 1 ≤ a := Nat.sub_le _ _
theorem om333 : a ≤ sizeLine → b ≤ a → b ≤ sizeLine + 1 := fun h0 h1 => zT h1 (zT h0 (blT rfl))
theorem om334 : a ≤ 1000 → a ≤ 16777216 + 1 := fun h0 => zT h0 (blT rfl)
theorem om335 : p = (↑a : Int) → 0 ≤ p := by grind
theorem om336 : p = (↑a : Int) → b ≤ sizeLine → a < b → p < 2 ^ 63 := fun h h1 h2 => h ▸ Int.lt_of_lt_of_le (Int.ofNat_lt.mpr h2) (Int.le_trans (Int.ofNat_le.mpr h1) (by decide))
theorem om337 : a + b ≤ 1000000 → Min.min c a + b + (a - Max.max c d) ≤ 2000000 := fun h => zT (zJ (Zg (Nat.min_le_right _ _) _) (Nat.sub_le _ _)) (zJ h (zT (Zb _ _) h))
theorem om338 : a ≤ 2000000 → a ≤ sizeLine + 1 := fun h0 => zT h0 (blT rfl)
theorem om339 : -1 + ((↑a : Int) + 1) = (↑a : Int) := (Int.add_comm (-1) (↑a + 1)).trans (Int.add_neg_cancel_right ↑a 1)
theorem om340 : 20 ≤ 29 := blT rfl
theorem om341 : a ≤ 640 → a ≤ 5000 := fun h0 => zT h0 (blT rfl)
theorem om342 : a ≤ 10 → b = a → b ≤ sizeLine := fun h0 h1 => zT (zW h1) (zT h0 (blT rfl))
theorem om343 : a ≤ 10 → b < a - 1 → b < 10 := fun h0 h1 => zV h1 (zT (Nat.sub_le _ _) h0)
theorem zlg : a < 10 → b ≤ a → b + 1 ≤ sizeLine := fun h0 h1 => zU h1 (zV h0 (blT rfl))
theorem om345 : a < 10 → b ≤ 10 + 11 * a → b + Str.length (ofString ".") ≤ sizeLine := fun h0 h1 => zT (Zg (zT h1 (Zc (Za 11 (Nat.le_of_lt h0)) 10)) _) (blT rfl)
theorem om346 : a < 10 → b ≤ a + 1 → b ≤ sizeLine := fun h0 h1 => zT h1 (zT h0 (blT rfl))
theorem om347 : a < 10 → b ≤ a → b + 1 + 1 ≤ sizeLine := fun h0 h1 => zT (zK (zK (zT h1 (Nat.le_of_lt h0)))) (blT rfl)
theorem om348 : a ≤ 10 → Str.length (ofString "") + a ≤ sizeLine := fun h => zT (Zc h _) (blT rfl)
theorem om349 : a ≤ 10 → Str.length (ofString "") + a ≤ 10 + 11 * (b + 1) := fun h => zT (zW (Nat.zero_add a)) (zT h (Zb 10 _))
theorem om350 : a ≤ b + 1 → a ≤ b + 1 := fun h0 => h0
theorem om351 : a ≤ 10 → b < 10 → c ≤ 10 + 11 * b → c + Str.length (ofString ".") + a ≤ sizeLine := fun h0 h1 h2 => zT (zJ (Zg (zT h2 (Zc (Za 11 (Nat.le_of_lt h1)) 10)) _) h0) (blT rfl)
theorem om352 : a ≤ 10 → b ≤ 10 + 11 * c → b + Str.length (ofString ".") + a ≤ 10 + 11 * (c + 1) := fun ha hb => zT (zJ (zK hb) ha) (zW (Nat.add_assoc 10 (11 * c) 11))
theorem om353 : a = b → b ≤ a - 1 + 1 := fun h => h ▸ Nat.sub_le_iff_le_add.mp (Ze _)
theorem om355 : ¬p < 1 → (↑(Int.toNat p) : Int) = p := fun h => Int.toNat_of_nonneg (Int.le_trans (by decide) (Int.not_lt.mp h))
theorem om356 : a = b → a ≠ 0 → a - 1 + 1 = b := fun h h1 => (Nat.sub_add_cancel (Nat.pos_of_ne_zero h1)).trans h
theorem om357 : a ≤ 20 → b = a → b ≤ sizeLine := fun h0 h1 => zT (zW h1) (zT h0 (blT rfl))
theorem om358 : a ≤ 300 → (↑a : Int) < 9223372036854775808 := fun h0 => Int.ofNat_lt.mpr (zU h0 (blT rfl))
theorem om359 : a = b → b ≤ 20 → c = a → c ≤ sizeLine := fun h0 h1 h2 => zT (zW h2) (zT (zW h0) (zT h1 (blT rfl)))
theorem om360 : a = b → b ≤ 20 → c = a → 1 + (c - 1) ≤ sizeLine := fun h0 h1 h2 => zT (Zc (zT (Nat.sub_le _ _) (h2 ▸ h0 ▸ h1)) 1) (blT rfl)
theorem om361 : a ≤ 20 → b = a → (↑b : Int) < 2 ^ 63 := fun h e => lt63 (zU (zT (zW e) h) (blT rfl))
theorem om362 : a = b → (↑c : Int) < (↑a : Int) → c < b := fun e h => e ▸ Int.ofNat_lt.mp h
theorem om363 : a = b → c = b → (↑d : Int) < (↑a : Int) → d < c := fun e1 e2 h => (e1.trans e2.symm) ▸ Int.ofNat_lt.mp h
theorem om364 : a ≤ 20 → b = a → c = b → c ≤ sizeLine := fun h0 h1 h2 => zT (zW h2) (zT (zW h1) (zT h0 (blT rfl)))
theorem om365 : 0 ≤ p ∧ p ≤ 9 → p ≤ (↑9 : Int) := fun h0 => h0.2
theorem om366 : (↑a : Int) = p → -2 ^ 63 ≤ p := fun e => e ▸ Int.le_trans (by decide) (Int.natCast_nonneg a)
theorem om367 : 0 ≤ p ∧ p ≤ 9 → a ≤ 300 → (↑b : Int) = p → b + a ≤ sizeLine := fun h h1 h3 => zT (zJ (Int.ofNat_le.mp (h3 ▸ h.2)) h1) (blT rfl)
theorem om368 : 0 ≤ p ∧ p ≤ 9 → a ≤ 300 → (↑b : Int) = p → b + a ≤ 309 * (c + 1) := fun h ha e => zT (zJ (Int.ofNat_le.mp (e ▸ h.2)) ha) (Zd 309 (309 * c))
theorem om369 : a ≤ 20 → b = a → c ≤ 309 * d → (↑d : Int) < (↑b : Int) → (↑c : Int) < 9223372036854775808 := fun h1 e h3 h4 => lt63 (zU h3 (zU (Za 309 (Nat.le_of_lt (zV (Int.ofNat_lt.mp h4) (zT (zW e) h1)))) (blT rfl)))
theorem om370 : ∀ {x0 x1 x2 x3 : Nat}, x0 = x1 → ¬(↑x2 : Int) < (↑x0 : Int) → Min.min x3 x1 ≤ x2 := fun h h1 => zT (Nat.min_le_right _ _) (h ▸ Nat.le_of_not_lt (fun q => h1 (Int.ofNat_lt.mpr q)))
theorem om371 : a ≤ 20 → b ≤ 309 * c → 0 ≤ p ∧ p ≤ 9 → (↑d : Int) = p → c < a → b + d ≤ sizeLine := fun h0 h1 h2 h3 h4 => zT (zJ (zT h1 (Za 309 (zT (Nat.le_of_lt h4) h0))) (Int.ofNat_le.mp (h3 ▸ h2.2))) (blT rfl)
theorem om372 : a ≤ 20 → b ≤ 309 * c → 0 ≤ p ∧ p ≤ 9 → d ≤ 300 → (↑k : Int) = p → c < a → b + k + d ≤ sizeLine := fun h0 h1 h2 h5 h3 h4 => zT (zJ (zJ (zT h1 (Za 309 (zT (Nat.le_of_lt h4) h0))) (Int.ofNat_le.mp (h3 ▸ h2.2))) h5) (blT rfl)
theorem om373 : a + 1 ≤ b → a + 1 ≤ b + 1 := Nat.le_succ_of_le
theorem om374 : a ≤ 309 * b → 0 ≤ p ∧ p ≤ 9 → c ≤ 300 → (↑d : Int) = p → a + d + c ≤ 309 * (b + 1) := fun h hp hc e => zT (zW (Nat.add_assoc a d c)) (zJ h (zJ (Int.ofNat_le.mp (e ▸ hp.2)) hc))
theorem om375 : a ≤ 20 → b = a → c ≤ d + 1 → (↑d : Int) < (↑b : Int) → c ≤ sizeLine := fun h h1 h2 h3 => zT h2 (zT (Int.ofNat_lt.mp h3) (zT (zW h1) (zT h (blT rfl))))
theorem om376 : a ≤ b → c + 1 ≤ a → b - a < b - c := fun h0 h1 => Nat.sub_lt_sub_left (zV h1 h0) h1
theorem om377 : a ≤ b + 1 → b + 1 ≤ c → a ≤ c := fun h0 h1 => zT h0 h1
theorem om378 : ¬8 ≤ a → a ≤ 8 := fun h => Nat.le_of_lt (Nat.lt_of_not_le h)
theorem om379 : a < Min.min 8 b → a < 8 := fun h => zV h (Nat.min_le_left _ _)
theorem om380 : 0 ≤ p → p < 1000 → Int.natAbs p < 10 ^ 9 := fun h0 h1 => zV (Int.ofNat_lt.mp ((Int.natAbs_of_nonneg h0).symm ▸ h1) : Int.natAbs p < 1000) (blT rfl)
theorem zlf : a ≤ b → b < 8 → a ≤ sizeLine := fun h0 h1 => zT h0 (Nat.le_of_lt (zV h1 (blT rfl)))
theorem om382 : 0 ≤ p → p < 1000 → Int.natAbs p < 1000 := fun h0 h1 => Int.ofNat_lt.mp ((Int.natAbs_of_nonneg h0).symm ▸ h1)
theorem om383 : a ≤ 4 → Str.length (ofString "0") + a ≤ sizeLine := fun h => zT (Zc h 1) (blT rfl)
theorem om384 : a ≤ 4 → Str.length (ofString "+") + a ≤ sizeLine := fun h => zT (Zc h 1) (blT rfl)
theorem om385 : a ≤ 4 → Str.length (ofString "-") + a ≤ sizeLine := fun h => zT (Zc h 1) (blT rfl)
theorem om386 : 0 ≤ p ∧ p < 4 → p = (↑(Int.toNat p) : Int) := fun h => (Int.toNat_of_nonneg h.1).symm
theorem om387 : 0 ≤ (↑a : Int) ∧ (↑a : Int) < 4 → a < 4 := fun h => Int.ofNat_lt.mp h.2
theorem om388 : 0 ≤ (↑a : Int) ∧ (↑a : Int) < 4 → a = 0 ∨ a = 1 ∨ a = 2 ∨ a = 3 := fun h => (by decide : ∀ x, x < 4 → x = 0 ∨ x = 1 ∨ x = 2 ∨ x = 3) _ (Int.ofNat_lt.mp h.2)
theorem om389 : ∀ {x0 x1 : Nat}, x0 = x1 → Min.min 8 x1 ≤ Min.min 8 x0 := by intro _ _ h0; subst h0; exact Ze _
theorem om390 : a ≤ Min.min 8 b → a ≤ 8 := fun h => zT h (Nat.min_le_left _ _)
theorem om391 : a ≤ 8 → a + 2 ≤ sizeLine := fun h => zT (Zg h 2) (blT rfl)
theorem om392 : ¬a = 0 → b = a → 0 < b := fun h e => e.symm ▸ Nat.pos_of_ne_zero h
theorem om393 : ¬a < b ↔ b ≤ a := Nat.not_lt
theorem om394 : 48 ≤ a → a ≤ 57 → a = 48 ∨ a = 49 ∨ a = 50 ∨ a = 51 ∨ a = 52 ∨ a = 53 ∨ a = 54 ∨ a = 55 ∨ a = 56 ∨ a = 57 := fun h1 h2 => (by decide : ∀ x, x < 58 → 48 ≤ x → x = 48 ∨ x = 49 ∨ x = 50 ∨ x = 51 ∨ x = 52 ∨ x = 53 ∨ x = 54 ∨ x = 55 ∨ x = 56 ∨ x = 57) _ (Nat.lt_succ_of_le h2) h1
theorem om395 : a ≤ 5000 → a + Str.length (ofString ".") ≤ sizeLine := fun h0 => zU h0 (blT rfl)
theorem om396 : a ≤ 5000 → b = a + 1 → c < b → c ≤ 5000 := by lia
theorem om397 : a ≤ b → b ≤ 5000 → (↑a : Int) < 9223372036854775808 := fun h1 h2 => lt63 (zU (zT h1 h2) (blT rfl))
theorem om398 : a ≤ b → b ≤ 5000 → a ≤ 1000000 := fun h0 h1 => zT h0 (zT h1 (blT rfl))
theorem om400 : 48 ≤ a ∧ a ≤ 57 → a < 128 := fun h0 => zU h0.2 (blT rfl)
theorem om401 : 48 ≤ a ∧ a ≤ 57 → 0 ≤ (↑a : Int) - 48 := fun h => Int.sub_nonneg_of_le (Int.ofNat_le.mpr h.1)
theorem om402 : a ≤ 2 * b → b ≤ 5000 → a ≤ 999998 := fun h1 h2 => zT h1 (zT (Za 2 h2) (blT rfl))
theorem om403 : a ≤ 2 * b → a ≤ 2 * b + 2 := fun h0 => zT h0 (Zb _ _)
theorem om405 : a ≤ 2 * b + 2 → a ≤ 2 * (b + 1) := fun h0 => h0
theorem om406 : a ≤ 5000 → b ≤ a → c = 1 → b + c ≤ sizeLine := fun h0 h1 h2 => zT (zJ (zT h1 h0) (zW h2)) (blT rfl)
theorem om407 : a ≤ b → c = 1 → a + c ≤ b + 1 := fun h e => e.symm ▸ zK h
theorem om408 : a ≤ b → c ≤ d → k = d + b → a + c ≤ k := by grind
theorem om409 : 0 ≤ p ∧ p ≤ 9 → a ≤ b → (↑c : Int) = p → c + a ≤ b + 9 := fun h ab e => zT (zJ (Int.ofNat_le.mp (e ▸ h.2)) ab) (zW (Nat.add_comm 9 b))
theorem om410 : a ≤ 20 → b = a → Min.min c b ≤ 1000000 := fun h h1 => zT (Nat.min_le_right _ _) (zT (zW h1) (zT h (blT rfl)))
theorem om411 : 0 ≤ p ∧ p ≤ 9 → -2 ^ 63 ≤ p := fun h => Int.le_trans (by decide) h.1
theorem om412 : a = b → c = d → Min.min b d ≤ Min.min a c := fun e1 e2 => zW (e1 ▸ e2 ▸ rfl)
theorem om413 : a ≤ 20 → Min.min b a ≤ 20 := zT (Nat.min_le_right _ _)
theorem om414 : a ≤ 20 → b ≤ a * (300 + 9) → b + a ≤ 1048576 := fun h1 h2 => zT (zJ (zT h2 (Zf 309 h1)) h1) (blT rfl)
theorem om415 : a ≤ 640 → a + 2 ≤ sizeLine := fun h => zT (Zg h 2) (blT rfl)
theorem om416 : a ≤ 640 → b = c → d + k + (c + 1) ≤ a + 1 → (↑b : Int) + 1 < 9223372036854775808 := fun h0 h1 h => Int.ofNat_lt.mpr (zU (zK (zT (zW h1) (zT (Zd _ _) (zT (Nat.le_of_succ_le_succ h) h0)))) (blT rfl))
theorem om417 : a ≤ 640 → b = c → d + k + (c + 1) ≤ a + 1 → b + 1 ≤ sizeLine := fun h0 h1 h => zT (zK (zT (zW h1) (zT (Zd _ _) (zT (Nat.le_of_succ_le_succ h) h0)))) (blT rfl)
theorem om418 : a ≤ 640 → b + c + (d + 1) ≤ a + 1 → b ≤ 640 := fun h0 h => zT (zT (Zb _ _) (Zb _ _)) (zT (Nat.le_of_succ_le_succ h) h0)
theorem om419 : Int.natAbs p < 10 ^ 8 → Int.natAbs (p - 3) < 10 ^ 9 := fun h => zU (Int.natAbs_sub_le p 3) (zV (Nat.add_lt_add_right h 3) (blT rfl))
theorem om420 : a ≤ 640 → b + c + (d + 1) ≤ a + 1 → k ≤ 10 → k + c + (d + 1) ≤ 1048576 := fun ha h hk => zT (zW (Nat.add_assoc k c (d + 1))) (zT (zJ hk (zT (zT (Zd (c + (d + 1)) b) (zW (Nat.add_assoc b c (d + 1)).symm)) (zT h (zK ha)))) (blT rfl))
theorem om421 : ¬3 ≤ a → a ≤ 3 := fun h => Nat.le_of_lt (Nat.lt_of_not_le h)
theorem om422 : a ≤ 10 → (↑a : Int) < 9223372036854775808 := fun h0 => Int.ofNat_lt.mpr (zU h0 (blT rfl))
theorem om423 : a ≤ 640 → b + c ≤ a + 1 → c ≤ sizeLine := fun h1 h2 => zT (Zd c b) (zT h2 (zT (zK h1) (blT rfl)))
theorem om424 : a ≤ 640 → b + c ≤ a + 1 → c ≤ 642 := fun h1 h2 => zT (Zd c b) (zT h2 (zT (zK h1) (blT rfl)))
theorem om425 : a ≤ 640 → b + c ≤ a + 1 → c ≤ 641 := fun h1 h2 => zT (Zd c b) (zT h2 (zK h1))
theorem om426 : a ≤ 10 → a ≤ 640 := fun h0 => zT h0 (blT rfl)
theorem om427 : a ≤ 642 → a ≤ 1000 := fun h0 => zT h0 (blT rfl)
theorem om428 : a = b → a = b := fun h0 => h0
theorem om429 : Int.natAbs p < 10 ^ 8 → Int.natAbs p < 10 ^ 9 := fun h0 => zT h0 (blT rfl)
theorem om430 : a ≤ 642 → b = a → c = b → c ≤ sizeLine := fun h0 h1 h2 => zT (zW h2) (zT (zW h1) (zT h0 (blT rfl)))
theorem om431 : Min.min 3 a ≤ 3 := Nat.min_le_left _ _
theorem om432 : a ≤ b * 640 → b ≤ 3 → a + b ≤ 1048576 := fun h hb => zT (zJ (zT h (Zf 640 hb)) hb) (blT rfl)
theorem om433 : a = b → b ≤ 642 → a ≤ sizeLine := fun h0 h1 => zT (zW h0) (zT h1 (blT rfl))
theorem om434 : a ≤ 640 → a ≤ 100000 := fun h0 => zT h0 (blT rfl)
theorem om435 : a ≤ 2 * b → a ≤ 2 * (b + 1) := fun h => zT h (Zb _ 2)
theorem om436 : a ≤ 640 → b ≤ 2 * a + 1 → c ≤ 2 * d → d < b → c ≤ 999998 := fun ha hb hc hd => zT hc (zT (Za 2 (Nat.le_of_lt (zV hd (zT hb (zK (Za 2 ha)))))) (blT rfl))
theorem om437 : a ≤ 2 * b → a + 2 ≤ 2 * (b + 1) := fun h0 => Zg h0 _
theorem om438 : -(↑a : Int) ≤ (↑b : Int) := Int.le_trans (Int.neg_nonpos_of_nonneg (Int.natCast_nonneg a)) (Int.natCast_nonneg b)
theorem om439 : a < b → (↑a : Int) < (↑b : Int) := fun h0 => Int.ofNat_le.mpr h0
theorem om440 : a < b → b ≤ 1000000 → (↑a : Int) < 9223372036854775808 := fun h1 h2 => lt63 (Nat.lt_trans h1 (zU h2 (blT rfl)))
theorem om442 : a ≤ 3 → b ≤ a * 20 → b + a ≤ 1048576 := fun h1 h2 => zT (zJ (zT h2 (Zf 20 h1)) h1) (blT rfl)
theorem om445 : a ≤ 640 → (↑a : Int) < 9223372036854775808 := fun h0 => Int.ofNat_lt.mpr (zU h0 (blT rfl))
theorem om446 : a ≤ 640 → (↑a : Int) ≤ 100000 := fun h => Int.ofNat_le.mpr (zT h (blT rfl))
theorem om447 : a ≤ 640 → Int.toNat (↑a : Int) ≤ 1000000 := fun h0 => zT h0 (blT rfl)
theorem om448 : a < Int.toNat (↑b : Int) → a < b := fun h0 => h0
theorem om449 : 0 + 1 * (↑a : Int) = (↑a : Int) := (Int.zero_add _).trans (Int.one_mul _)
theorem om450 : a ≤ 640 → a ≤ 1000000 := fun h0 => zT h0 (blT rfl)
theorem om451 : a ≤ 640 → b = c → c ≤ a → (↑b : Int) < 2 ^ 63 := fun h e h3 => lt63 (zU (zT (zW e) (zT h3 h)) (blT rfl))
theorem om452 : a = b → 2 < b → 2 < (↑a : Int) := fun e h => Int.ofNat_lt.mpr (e.symm ▸ h)
theorem om453 : a ≤ 640 → b = c → c ≤ a → b ≤ sizeLine := fun h0 h1 h2 => zT (zW h1) (zT h2 (zT h0 (blT rfl)))
theorem om454 : a ≤ 640 → a ≤ sizeLine := fun h0 => zT h0 (blT rfl)
theorem om455 : a = b → ¬2 < b → (↑a : Int) ≤ 2 := fun e h => Int.ofNat_le.mpr (e.symm ▸ Nat.le_of_not_lt h)
theorem om456 : a = b → ¬2 < b → (↑a : Int) < 2 ^ 63 := fun h h1 => Int.lt_of_le_of_lt (Int.ofNat_le.mpr (zT (zW h) (Nat.le_of_not_lt h1))) (by decide)
theorem om457 : a = b → b = 1 → (↑a : Int) = 1 := fun e1 e2 => congrArg Int.ofNat (e1.trans e2)
theorem om458 : a ≤ 640 → a + Str.length (ofString ".") ≤ sizeLine := fun h0 => zU h0 (blT rfl)
theorem om459 : a ≤ 640 → b ≤ 10 → a + Str.length (ofString ".") + b ≤ sizeLine := fun h0 h1 => zT (zJ (Zg h0 _) h1) (blT rfl)
theorem om460 : a = b → ¬b = 1 → ¬(↑a : Int) = 1 := fun e h z => h (e ▸ Int.ofNat.inj z)
end
theorem ltS {h : Heap} {a : Nat} {o : Obj} (e : h.get? a = some o) : a < h.objs.size := Heap.lt_size e
noncomputable abbrev Pg : Program := PySem.Challenge.rw_ny0241_01.row.prog
noncomputable abbrev Mo (w : World) : Model := model Pg w
noncomputable abbrev KK (w : World) : Frag := hd.heap_1 w.params
structure Gd (w : World) (uu : Heap) : Prop where
 k : (KK w).In uu
 g : ∃ mg, uu.Ns mainGlobals mg ∧ ∀ n v, nsIn (KK w) mainGlobals n = some v → mg n = v
 b : ∃ mb, uu.Ns builtinsNs mb ∧ ∀ x : Str, x ≠ "__name__" → mb x = bootBuiltins x
 nolimit : uu.NoLimit
 nodigits : ∃ mc, uu.Ns cStatics mc ∧ mc "sys.int_max_str_digits" = none
def za9 (a : Nat) : Prop := a = 190 ∨ a = 197
def TabInv (h : Heap) (c P : Nat) : Prop := ∃ ps, h.TableAt c P ps ∧ h.IsCode c P ps ∧ True
structure Inv (uu h : Heap) : Prop where
 old : ∀ (b : Nat) o, uu.get? b = some o → ¬ za9 b → h.get? b = some o
 b1 : ∃ o, uu.get? 190 = some o
 b2 : ∃ o, uu.get? 197 = some o
 b3 : ∃ o, uu.get? 194 = some o
 b4 : ∃ o, uu.get? 201 = some o
 t1 : TabInv h 194 190
 t2 : TabInv h 201 197
noncomputable def zab (vv : List Env) : List Nat := vv.filterMap (·.frame)
def FrOk (uu : Heap) (vv : List Env) (h : Heap) : Prop :=
 ∀ e ∈ vv, e.scope.kind ≠ .module ∧ ∃ L o es ep, e.frame = some L ∧ uu.get? L = none ∧ h.get? L = some o ∧ o.data = .dict es ep
structure Keep (F X : List Nat) (h h' : Heap) : Prop where
 obj : ∀ (b : Nat) o, h.get? b = some o → b ∉ F → b ∉ X → ¬ za9 b → h'.get? b = some o
 frm : ∀ (b : Nat) o, h.get? b = some o → b ∈ F → ∃ sl, h'.get? b = some { o with slots := sl }
 tup : ∀ (b : Nat) o, h.get? b = some o → o.cls = .type "tuple" → (∃ vs n, o.data = .seq vs n) → h'.get? b = some o
 there : ∀ (b : Nat) o, h.get? b = some o → ∃ o', h'.get? b = some o'
theorem Keep.refl (F X : List Nat) (h : Heap) : Keep F X h h := ⟨fun j j e j j j => e, fun j o e j => ⟨o.slots, e⟩, fun j j e j j => e, fun j o e => ⟨o, e⟩⟩
theorem Keep.of {F X : List Nat} {h h' : Heap} (k : ∀ (b : Nat) o, h.get? b = some o → h'.get? b = some o) : Keep F X h h' :=
 ⟨fun b o e j j j => k b o e, fun b o e j => ⟨o.slots, k b o e⟩, fun b o e j j => k b o e, fun b o e => ⟨o, k b o e⟩⟩
structure Wd (uu : Heap) (vv : List Env) (h : Heap) : Prop where
 inv : Inv uu h
 fr : FrOk uu vv h
theorem Inv.keeps {uu h h' : Heap} (I : Inv uu h) (hk : ∀ (b : Nat) o, h.get? b = some o → (∃ o', uu.get? b = some o') → h'.get? b = some o) : Inv uu h' := by
 have tab : ∀ c P : Nat, (∃ o', uu.get? c = some o') → (∃ o', uu.get? P = some o') → TabInv h c P → TabInv h' c P := by
  rintro c P hc hP ⟨ps, ⟨⟨o, vs, t1, t2, t3, t4⟩, t5⟩, ⟨o2, vs2, file, tf, flags, tg, inF, text, tt, op, ho, r1, r2, r3, r4, r5, r6, hop, r7⟩, z⟩
  exact ⟨ps, ⟨⟨o, vs, hk _ _ t1 hc, t2, t3, t4⟩, hk _ _ t5 hP⟩, ⟨o2, vs2, file, tf, flags, tg, inF, text, tt, op, hk _ _ ho hc, r1, r2, r3, r4, r5, r6, hk _ _ hop hP, r7⟩, z⟩
 exact ⟨fun b o e ht => hk b o (I.old b o e ht) ⟨o, e⟩, I.b1, I.b2, I.b3, I.b4, tab _ _ I.b3 I.b1 I.t1, tab _ _ I.b4 I.b2 I.t2⟩
theorem Inv.there {uu h : Heap} (I : Inv uu h) {b : Nat} {o : Obj} (e : uu.get? b = some o) : ∃ o', h.get? b = some o' := by
 by_cases ht : za9 b
 ·rcases ht with rfl | rfl
  ·obtain ⟨ps, ⟨_, t⟩, _⟩ := I.t1; exact ⟨_, t⟩
  ·obtain ⟨ps, ⟨_, t⟩, _⟩ := I.t2; exact ⟨_, t⟩
 ·exact ⟨o, I.old b o e ht⟩
theorem Inv.tabLow {uu h : Heap} (I : Inv uu h) {b : Nat} (t : za9 b) : ∃ o, uu.get? b = some o := by
 rcases t with rfl | rfl
 ·exact I.b1
 ·exact I.b2
inductive All2 {α β : Type} (R : α → β → Prop) : List α → List β → Prop where
 | nil : All2 R [] []
 | cons {a b l m} : R a b → All2 R l m → All2 R (a :: l) (b :: m)
inductive Scal where
 | none | int (i : Int) | str (s : Str)
abbrev LT := List (List Value × List (List Scal))
abbrev CT := Nat → LS → LO → LT → Prop
variable {w : World} {uu ww h : Heap} {X Y : List Nat} {vv : List Env} {L : Nat} {l : LS} {ro rw : LO} {tl : LT} {A : Around} {E : VP} {env : Env} {g : Array GenState} {d : Drawn} {tk : Nat} {os : OsState} {pos apos : Pos} {s : Shared} {Q : VP} {name : Str} {ox : Obj} {od : Option Obj} {vs : List Value} {ps : List (Str × Str)} {dx ax : Nat}
noncomputable def Sc : Value → Scal → Prop
 | .none, .none => True
 | .int i _, .int j => i = j
 | .str s _, .str t => s = t
 | _, _ => False
@[reducible] noncomputable def zac (vs : List Value) : Obj := { cls := .type "tuple", data := .seq vs.toArray }
@[reducible] noncomputable def zaa (vs : List Value) (n : Nat := 0) : Obj := { cls := .type "list", data := .seq vs.toArray n }
def Tp (h : Heap) (v : Value) (xs : List Scal) : Prop := ∃ a vs, v = .ref a ∧ h.get? a = some (zac vs) ∧ All2 Sc vs xs
def Tps (h : Heap) (vs : List Value) (xss : List (List Scal)) : Prop := All2 (Tp h) vs xss
theorem Tps.move {h h' : Heap} (tupK : ∀ (b : Nat) o, h.get? b = some o → o.cls = .type "tuple" → (∃ vs n, o.data = .seq vs n) → h'.get? b = some o) {vs : List Value} {xss : List (List Scal)} (t : Tps h vs xss) : Tps h' vs xss := by
 induction t with
 | nil => exact .nil
 | cons a _ ih =>
  refine .cons ?_ ih
  obtain ⟨b, vs, qz⟩ := a
  have e := qz.1
  have ho := qz.2.1
  have r := qz.2.2
  exact ⟨b, vs, e, tupK b _ ho rfl ⟨_, _, rfl⟩, r⟩
theorem Tps.keeps {F X : List Nat} {h h' : Heap} {vs : List Value} {xss : List (List Scal)} (k : Keep F X h h') (t : Tps h vs xss) : Tps h' vs xss := t.move k.tup
def Off (tl : LT) (a : Nat) : Prop := ∀ t ∈ tl, Value.ref a ∉ t.1
theorem Tps.moveIn {h h' : Heap} {vs : List Value} {xss : List (List Scal)} (t : Tps h vs xss) (tupK : ∀ (b : Nat) o, Value.ref b ∈ vs → h.get? b = some o → o.cls = .type "tuple" → (∃ vs n, o.data = .seq vs n) → h'.get? b = some o) : Tps h' vs xss := by
 induction t with
 | nil => exact .nil
 | cons a _ ih =>
  obtain ⟨b, vs, qz⟩ := a
  have e := qz.1
  have ho := qz.2.1
  have r := qz.2.2
  subst e
  refine .cons ⟨b, vs, rfl, tupK b _ (.head _) ho rfl ⟨_, _, rfl⟩, r⟩ (ih fun b o hb => tupK b o (.tail _ hb))
structure St (uu ww : Heap) (X : List Nat) (vv : List Env) (L : Nat) (l : LS) (ro rw : LO) (tl : LT) (h : Heap) : Prop where
 inv : Inv uu h
 fr : FrOk uu vv h
 keep : Keep (zab vv) X ww h
 above : ww.get? L = none
 low : ∀ b ∈ zab vv, ∃ o, ww.get? b = some o
 based : ∀ (b : Nat) o, uu.get? b = some o → ∃ o', ww.get? b = some o'
 ns : h.Ns L (fun x => l.lookup x)
 hro : ∀ p ∈ ro, h.get? p.1 = some p.2 ∧ p.1 ≠ L ∧ p.1 ∉ zab vv ∧ ¬ za9 p.1
 hrw : ∀ p ∈ rw, h.get? p.1 = some p.2 ∧ p.1 ≠ L ∧ p.1 ∉ zab vv ∧ uu.get? p.1 = none ∧ (p.1 ∈ X ∨ ww.get? p.1 = none) ∧ (p.2.cls ≠ .type "tuple" ∨ (Off tl p.1 ∧ ww.get? p.1 = none))
 nd : (rw.map (·.1)).Nodup
 sep : ∀ p ∈ ro, ∀ q ∈ rw, p.1 ≠ q.1
 htl : ∀ t ∈ tl, Tps h t.1 t.2
section
theorem zhk {vv : List Env} {b : Nat} (h : b ∈ zab vv) : ∃ e ∈ vv, e.frame = some b := by
 unfold zab at h
 obtain ⟨e, qz⟩ := List.mem_filterMap.mp h
 have he := qz.1
 have q := qz.2
 exact ⟨e, he, q⟩
theorem FrOk.mem {uu h : Heap} {vv : List Env} (f : FrOk uu vv h) {b : Nat} (hb : b ∈ zab vv) : ∃ o es ep, uu.get? b = none ∧ h.get? b = some o ∧ o.data = .dict es ep := by
 obtain ⟨e, qz⟩ := zhk hb
 have he := qz.1
 have q := qz.2
 obtain ⟨_, L, o, es, ep, qz⟩ := f e he
 have q' := qz.1
 have x := qz.2
 rw [q] at q'; cases q'
 exact ⟨o, es, ep, x⟩
theorem FrOk.keeps {uu h h' : Heap} {vv : List Env} (f : FrOk uu vv h) (hk : ∀ (b : Nat) o, b ∈ zab vv → h.get? b = some o → ∃ sl, h'.get? b = some { o with slots := sl }) : FrOk uu vv h' := by
 intro e he
 obtain ⟨k, L, o, es, ep, qz⟩ := f e he
 have q := qz.1
 have x := qz.2.1
 have y := qz.2.2.1
 have z := qz.2.2.2
 obtain ⟨sl, y'⟩ := hk L o (by unfold zab; exact List.mem_filterMap.mpr ⟨e, he, q⟩) y
 exact ⟨k, L, _, es, ep, q, x, y', z⟩
theorem St.neL (S : St uu ww X vv L l ro rw tl h) {b : Nat} (hb : b ∈ zab vv) : b ≠ L := by
 rintro rfl
 obtain ⟨o, e⟩ := S.low _ hb
 rw [S.above] at e; cases e
theorem St.baseL (S : St uu ww X vv L l ro rw tl h) : uu.get? L = none := by
 cases e : uu.get? L with
 | none => rfl
 | some o => obtain ⟨o', e'⟩ := S.based _ _ e; rw [S.above] at e'; cases e'
theorem St.move (S : St uu ww X vv L l ro rw tl h) {h' : Heap} {l' : LS} {C : List Nat} (hn : h'.Ns L (fun x => l'.lookup x))
  (hk : ∀ (b : Nat) o, h.get? b = some o → b ≠ L → b ∉ C → h'.get? b = some o) (hC : ∀ c ∈ C, ∃ o, (c, o) ∈ rw) (hT : ∀ c ∈ C, c ∈ X → ∃ o, h'.get? c = some o) {rw' : LO}
  (hrw : ∀ p ∈ rw', h'.get? p.1 = some p.2 ∧ p.1 ≠ L ∧ p.1 ∉ zab vv ∧ uu.get? p.1 = none ∧ (p.1 ∈ X ∨ ww.get? p.1 = none) ∧ (p.2.cls ≠ .type "tuple" ∨ (Off tl p.1 ∧ ww.get? p.1 = none)))
  (hnd : (rw'.map (·.1)).Nodup) (hsep : ∀ p ∈ ro, ∀ q ∈ rw', p.1 ≠ q.1) : St uu ww X vv L l' ro rw' tl h' := by
 have kC : ∀ c ∈ C, c ∉ zab vv ∧ uu.get? c = none ∧ (c ∈ X ∨ ww.get? c = none) ∧ ∃ o, h.get? c = some o ∧ (o.cls ≠ .type "tuple" ∨ (Off tl c ∧ ww.get? c = none)) := by
  intro c hc
  obtain ⟨o, ho⟩ := hC c hc
  have qz := S.hrw _ ho
  have a1 := qz.1
  have a2 := qz.2.1
  have a3 := qz.2.2.1
  have a4 := qz.2.2.2.1
  have a5 := qz.2.2.2.2.1
  have a6 := qz.2.2.2.2.2
  exact ⟨a3, a4, a5, o, a1, a6⟩
 have hL := S.baseL
 obtain ⟨oL, esL, epL, qz⟩ := S.ns
 have hgL := qz.1
 have hdL := qz.2.1
 have tupK : ∀ (b : Nat) o, h.get? b = some o → o.cls = .type "tuple" → (∃ vs n, o.data = .seq vs n) → (¬ Off tl b ∨ ww.get? b ≠ none) → h'.get? b = some o := by
  intro b o e hc ⟨vs, n, hd⟩ hz
  refine hk b o e (fun q => ?_) (fun q => ?_)
  ·subst q; rw [hgL] at e; cases e; rw [hdL] at hd; cases hd
  ·obtain ⟨_, _, _, o', e', hc'⟩ := kC b q
   rw [e] at e'; cases e'
   rcases hc' with hc' | ⟨z1, z2⟩
   ·exact hc' hc
   ·rcases hz with z | z
    ·exact z z1
    ·exact z z2
 refine ⟨S.inv.keeps fun b o e ⟨o', hb⟩ => hk b o e (fun q => by rw [q, hL] at hb; cases hb) (fun hc => by rw [(kC b hc).2.1] at hb; cases hb), ?_, ?_, S.above, S.low, S.based, hn, ?_, hrw, hnd, hsep, ?_⟩
 ·exact S.fr.keeps fun b o hb e => ⟨o.slots, hk b o e (S.neL hb) (fun hc => (kC b hc).1 hb)⟩
 ·refine ⟨fun b o e p q r => ?_, fun b o e p => ?_, fun b o e p q => tupK b o (S.keep.tup b o e p q) p q (.inr (by rw [e]; exact fun x => nomatch x)), fun b o e => ?_⟩
  ·refine hk b o (S.keep.obj b o e p q r) (fun z => by rw [z, S.above] at e; cases e) (fun hc => ?_)
   rcases (kC b hc).2.2.1 with x | x
   ·exact q x
   ·rw [x] at e; cases e
  ·obtain ⟨sl, e'⟩ := S.keep.frm b o e p
   exact ⟨sl, hk b _ e' (S.neL p) (fun hc => (kC b hc).1 p)⟩
  ·obtain ⟨o', e'⟩ := S.keep.there b o e
   by_cases hc : b ∈ C
   ·rcases (kC b hc).2.2.1 with x | x
    ·exact hT b hc x
    ·rw [x] at e; cases e
   ·exact ⟨o', hk b o' e' (fun z => by rw [z, S.above] at e; cases e) hc⟩
 ·intro p hp
  obtain ⟨a1, qz⟩ := S.hro p hp
  have a2 := qz.1
  have a3 := qz.2.1
  have a4 := qz.2.2
  refine ⟨hk _ _ a1 a2 (fun hc => ?_), a2, a3, a4⟩
  obtain ⟨o, ho⟩ := hC _ hc
  exact S.sep p hp _ ho rfl
 ·intro t ht
  exact (S.htl t ht).moveIn fun b o hb e p q => tupK b o e p q (.inl fun x => x t ht hb)
theorem St.set (S : St uu ww X vv L l ro rw tl h) {h' : Heap} {x : Str} {v : Value} (hn : h'.Ns L (fun y => if y = x then some v else l.lookup y)) (hs : Heap.SameBut L h h') :
  St uu ww X vv L ((x, v) :: l) ro rw tl h' := by
 have hn' : h'.Ns L (fun y => List.lookup y ((x, v) :: l)) := by
  have : (fun y => List.lookup y ((x, v) :: l)) = (fun y => if y = x then some v else l.lookup y) := by
   funext y
   rw [List.lookup_cons]
   by_cases e : y = x
   ·simp [e]
   ·have : (y == x) = false := by simp [e]
    simp [this, e]
  exact this ▸ hn
 exact S.move (C := []) hn' (fun b o e hb j => (hs.2 b hb).trans e) (fun j hc => nomatch hc) (fun j hc => nomatch hc)
  (fun p hp => by
   have qz := S.hrw p hp
   have a1 := qz.1
   have a2 := qz.2.1
   have a3 := qz.2.2
   exact ⟨(hs.2 _ a2).trans a1, a2, a3⟩) S.nd S.sep
theorem St.ext (S : St uu ww X vv L l ro rw tl h) {h' : Heap} (k : ∀ (b : Nat) o, h.get? b = some o → h'.get? b = some o) : St uu ww X vv L l ro rw tl h' :=
 S.move (C := []) (S.ns.keeps k) (fun b o' e j j => k b o' e) (fun j hc => nomatch hc) (fun j hc => nomatch hc)
  (fun p hp => by
   have qz := S.hrw p hp
   have a1 := qz.1
   have a2 := qz.2
   exact ⟨k _ _ a1, a2⟩) S.nd S.sep
theorem St.push (S : St uu ww X vv L l ro rw tl h) (o : Obj) : St uu ww X vv L l ro rw tl (h.push o) := S.ext fun j j e => zQ _ e
theorem St.extFresh (S : St uu ww X vv L l ro rw tl h) {h' : Heap} (k : Heap.ExtBut h.objs.size h h') : St uu ww X vv L l ro rw tl h' :=
 S.ext fun b o e => k b o (Nat.ne_of_lt (ltS e)) e
theorem St.fresh (S : St uu ww X vv L l ro rw tl h) {a : Nat} (ha : h.get? a = none) : a ≠ L ∧ a ∉ zab vv ∧ ¬ za9 a ∧ uu.get? a = none ∧ ww.get? a = none := by
 have hb : uu.get? a = none := by
  cases e : uu.get? a with
  | none => rfl
  | some o => obtain ⟨o', e'⟩ := S.inv.there e; rw [ha] at e'; cases e'
 refine ⟨?_, fun hb => ?_, fun ht => ?_, hb, ?_⟩
 ·rintro rfl
  obtain ⟨o, _, _, qz⟩ := S.ns
  have e := qz.1
  rw [ha] at e; cases e
 ·obtain ⟨o, _, _, _, e, _⟩ := S.fr.mem hb
  rw [ha] at e; cases e
 ·obtain ⟨o, e⟩ := S.inv.tabLow ht
  rw [hb] at e; cases e
 ·cases e : ww.get? a with
  | none => rfl
  | some o => obtain ⟨o', e'⟩ := S.keep.there _ _ e; rw [ha] at e'; cases e'
theorem St.addW (S : St uu ww X vv L l ro rw tl h) {h' : Heap} {a : Nat} {o : Obj} (k : ∀ (b : Nat) o, h.get? b = some o → h'.get? b = some o) (ha : h.get? a = none) (hn : h'.get? a = some o) (hc : o.cls ≠ .type "tuple" ∨ Off tl a) :
  St uu ww X vv L l ro ((a, o) :: rw) tl h' := by
 have qz := S.fresh ha
 have n1 := qz.1
 have n2 := qz.2.1
 have n3 := qz.2.2.1
 have n4 := qz.2.2.2.1
 have n5 := qz.2.2.2.2
 refine S.move (C := []) (S.ns.keeps k) (fun b o' e j j => k b o' e) (fun j hc => nomatch hc) (fun j hc => nomatch hc) ?_ ?_ ?_
 ·intro p hp
  rcases zC hp with rfl | hp
  ·exact ⟨hn, n1, n2, n4, .inr n5, hc.imp id fun z => ⟨z, n5⟩⟩
  ·obtain ⟨a1, a2⟩ := S.hrw p hp
   exact ⟨k _ _ a1, a2⟩
 ·rw [Zi, List.nodup_cons]
  refine ⟨fun hm => ?_, S.nd⟩
  obtain ⟨p, qz⟩ := List.mem_map.mp hm
  have hp := qz.1
  have q := qz.2
  have := (S.hrw p hp).1
  dsimp only at q
  rw [q, ha] at this; cases this
 ·intro p hp q hq
  rcases zC hq with rfl | hq
  ·intro e
   have := (S.hro p hp).1
   rw [e, ha] at this; cases this
  ·exact S.sep p hp q hq
theorem St.addR (S : St uu ww X vv L l ro rw tl h) {h' : Heap} {a : Nat} {o : Obj} (k : ∀ (b : Nat) o, h.get? b = some o → h'.get? b = some o) (ha : h.get? a = none) (hn : h'.get? a = some o) :
  St uu ww X vv L l ((a, o) :: ro) rw tl h' := by
 have qz := S.fresh ha
 have n1 := qz.1
 have n2 := qz.2.1
 have n3 := qz.2.2.1
 have n4 := qz.2.2.2.1
 have n5 := qz.2.2.2.2
 have S' := S.ext k
 refine ⟨S'.inv, S'.fr, S'.keep, S'.above, S'.low, S'.based, S'.ns, ?_, S'.hrw, S'.nd, ?_, S'.htl⟩
 ·intro p hp
  rcases zC hp with rfl | hp
  ·exact ⟨hn, n1, n2, n3⟩
  ·exact S'.hro p hp
 ·intro p hp q hq
  rcases zC hp with rfl | hp
  ·intro e
   have := (S.hrw q hq).1
   rw [← e, ha] at this; cases this
  ·exact S'.sep p hp q hq
theorem getN {h : Heap} : h.get? h.objs.size = none := by
 cases e : h.get? h.objs.size with
 | none => rfl
 | some o => exact absurd (ltS e) (Nat.lt_irrefl _)
theorem St.allocW (S : St uu ww X vv L l ro rw tl h) (o : Obj) (hf : o.isFreed = false) (hc : o.cls ≠ .type "tuple") : St uu ww X vv L l ro ((h.objs.size, o) :: rw) tl (h.push o) :=
 S.addW (fun j j e => zQ _ e) getN (zL _ hf) (.inl hc)
theorem St.allocR (S : St uu ww X vv L l ro rw tl h) (o : Obj) (hf : o.isFreed = false) : St uu ww X vv L l ((h.objs.size, o) :: ro) rw tl (h.push o) :=
 S.addR (fun j j e => zQ _ e) getN (zL _ hf)
inductive Led : LO → Nat → Obj → Obj → LO → Prop where
 | head {a o o' r} : Led ((a, o) :: r) a o o' ((a, o') :: r)
 | tail {p a o o' r r'} : Led r a o o' r' → Led (p :: r) a o o' (p :: r')
theorem Led.mem {r r' : LO} {a : Nat} {o o' : Obj} (x : Led r a o o' r') : (a, o) ∈ r := by
 induction x with
 | head => exact .head _
 | tail _ ih => exact .tail _ ih
theorem Led.fst {r r' : LO} {a : Nat} {o o' : Obj} (x : Led r a o o' r') : r'.map (·.1) = r.map (·.1) := by
 induction x with
 | head => rfl
 | tail _ ih => simp [ih]
set_option tactic.hygienic true in
theorem Led.other {r r' : LO} {a : Nat} {o o' : Obj} (x : Led r a o o' r') (nd : (r.map (·.1)).Nodup) : ∀ p ∈ r', p = (a, o') ∨ (p ∈ r ∧ p.1 ≠ a) := by
 induction x with
 | head =>
  intro p hp
  rename_i b o1 o2 r1
  rcases zC hp with rfl | hp
  ·exact .inl rfl
  ·rw [Zi, List.nodup_cons] at nd
   exact .inr ⟨.tail _ hp, fun e => nd.1 (List.mem_map.mpr ⟨p, hp, e⟩)⟩
 | tail hr ih =>
  intro p hp
  rename_i q b o1 o2 r1 r2
  rw [Zi, List.nodup_cons] at nd
  rcases zC hp with rfl | hp
  ·exact .inr ⟨.head _, fun e => nd.1 (List.mem_map.mpr ⟨_, hr.mem, e.symm⟩)⟩
  ·rcases ih nd.2 p hp with e | ⟨e1, e2⟩
   ·exact .inl e
   ·exact .inr ⟨.tail _ e1, e2⟩
theorem St.chg (S : St uu ww X vv L l ro rw tl h) {h' : Heap} {a : Nat} {o o' : Obj} {rw' : LO} (hl : Led rw a o o' rw') (hs : ∀ (b : Nat) o, b ≠ a → h.get? b = some o → h'.get? b = some o) (hn : h'.get? a = some o') (hc : o'.cls ≠ .type "tuple" ∨ (Off tl a ∧ ww.get? a = none)) :
  St uu ww X vv L l ro rw' tl h' := by
 have qz := S.hrw _ hl.mem
 have b1 := qz.1
 have b2 := qz.2.1
 have b3 := qz.2.2.1
 have b4 := qz.2.2.2.1
 have b5 := qz.2.2.2.2.1
 have b6 := qz.2.2.2.2.2
 dsimp only at b1 b2 b3 b4 b5 b6
 have ns : h'.Ns L (fun x => l.lookup x) := by
  obtain ⟨oL, es, ep, qz⟩ := S.ns
  have e := qz.1
  have r := qz.2
  exact ⟨oL, es, ep, hs _ _ (Ne.symm b2) e, r⟩
 refine S.move (C := [a]) ns (fun b o' e hb hcn => hs b o' (fun q => hcn (by rw [q]; exact .head _)) e) (fun c hcm => ⟨o, by rw [zS hcm]; exact hl.mem⟩) (fun c hcm j => by rw [zS hcm]; exact ⟨_, hn⟩) ?_ ?_ ?_
 ·intro p hp
  rcases hl.other S.nd p hp with rfl | ⟨e1, e2⟩
  ·exact ⟨hn, b2, b3, b4, b5, hc⟩
  ·obtain ⟨a1, a2⟩ := S.hrw p e1
   exact ⟨hs _ _ e2 a1, a2⟩
 ·rw [hl.fst]; exact S.nd
 ·intro p hp q hq
  rcases hl.other S.nd q hq with rfl | ⟨e1, e2⟩
  ·exact S.sep p hp (a, o) hl.mem
  ·exact S.sep p hp q e1
theorem St.chgS (S : St uu ww X vv L l ro rw tl h) {h' : Heap} {a : Nat} {o o' : Obj} {rw' : LO} (hl : Led rw a o o' rw') (hs : Heap.SameBut a h h') (hn : h'.get? a = some o') (hc : o'.cls ≠ .type "tuple") :
  St uu ww X vv L l ro rw' tl h' := S.chg hl (fun b o hb e => (hs.2 b hb).trans e) hn (.inl hc)
theorem St.lose (S : St uu ww X vv L l ro rw tl h) {h' : Heap} {a : Nat} {o : Obj} {rw₀ : LO} (hrw : rw = (a, o) :: rw₀) (hX : a ∉ X) (hs : Heap.ExtBut a h h') :
  St uu ww X vv L l ro rw₀ tl h' := by
 subst hrw
 have qz := S.hrw _ (.head _)
 have b1 := qz.1
 have b2 := qz.2.1
 have b3 := qz.2.2.1
 have b4 := qz.2.2.2.1
 have b5 := qz.2.2.2.2.1
 have b6 := qz.2.2.2.2.2
 dsimp only at b1 b2 b3 b4 b5 b6
 have ns : h'.Ns L (fun x => l.lookup x) := by
  obtain ⟨oL, es, ep, qz⟩ := S.ns
  have e := qz.1
  have r := qz.2
  exact ⟨oL, es, ep, hs _ _ (Ne.symm b2) e, r⟩
 have nd := S.nd
 rw [Zi, List.nodup_cons] at nd
 refine S.move (C := [a]) ns (fun b o' e hb hcn => hs b o' (fun q => hcn (by rw [q]; exact .head _)) e) (fun c hcm => ⟨o, by rw [zS hcm]; exact .head _⟩) (fun c hcm hx => absurd (by rw [← zS hcm]; exact hx) hX) ?_ nd.2 (fun p hp q hq => S.sep p hp q (.tail _ hq))
 intro p hp
 have qz := S.hrw p (.tail _ hp)
 have a1 := qz.1
 have a2 := qz.2
 exact ⟨hs _ _ (fun e => nd.1 (List.mem_map.mpr ⟨p, hp, e⟩)) a1, a2⟩
theorem St.call {env : Env} (S : St uu ww X vv L l ro rw tl h) {h' : Heap} (hL : env.frame = some L) (k : Keep (zab (env :: vv)) [] h h') (I : Inv uu h') : St uu ww X vv L l ro rw tl h' := by
 have eF : zab (env :: vv) = L :: zab vv := by unfold zab; rw [List.filterMap_cons, hL]
 rw [eF] at k
 have tupK := k.tup
 obtain ⟨oL, esL, epL, qz⟩ := S.ns
 have hgL := qz.1
 have hdL := qz.2.1
 have hz := qz.2.2
 obtain ⟨sl, hgL'⟩ := k.frm L oL hgL (.head _)
 refine ⟨I, S.fr.keeps fun b o hb e => k.frm b o e (.tail _ hb), ?_, S.above, S.low, S.based, ⟨_, esL, epL, hgL', hdL, hz⟩, ?_, ?_, S.nd, S.sep, ?_⟩
 ·refine ⟨fun b o e p q r => ?_, fun b o e p => ?_, fun b o e p q => tupK b o (S.keep.tup b o e p q) p q, fun b o e => let ⟨o', e'⟩ := S.keep.there b o e; k.there b o' e'⟩
  ·refine k.obj b o (S.keep.obj b o e p q r) (fun hm => ?_) (fun hm => nomatch hm) r
   rcases zC hm with x | x
   ·rw [x, S.above] at e; cases e
   ·exact p x
  ·obtain ⟨s1, e1⟩ := S.keep.frm b o e p
   obtain ⟨s2, e2⟩ := k.frm b _ e1 (.tail _ p)
   exact ⟨s2, e2⟩
 ·intro p hp
  have qz := S.hro p hp
  have a1 := qz.1
  have a2 := qz.2.1
  have a3 := qz.2.2.1
  have a4 := qz.2.2.2
  refine ⟨k.obj _ _ a1 (fun hm => ?_) (fun hm => nomatch hm) a4, a2, a3, a4⟩
  rcases zC hm with x | x
  ·exact a2 x
  ·exact a3 x
 ·intro p hp
  have qz := S.hrw p hp
  have a1 := qz.1
  have a2 := qz.2.1
  have a3 := qz.2.2.1
  have a4 := qz.2.2.2.1
  have a5 := qz.2.2.2.2
  refine ⟨k.obj _ _ a1 (fun hm => ?_) (fun hm => nomatch hm) (fun ht => ?_), a2, a3, a4, a5⟩
  ·rcases zC hm with x | x
   ·exact a2 x
   ·exact a3 x
  ·obtain ⟨o, e⟩ := S.inv.tabLow ht; rw [a4] at e; cases e
 ·intro t ht; exact (S.htl t ht).keeps k
theorem St.setTlG (S : St uu ww X vv L l ro rw tl h) {tl' : LT} (hr : ∀ p ∈ rw, p.2.cls ≠ .type "tuple" ∨ (Off tl' p.1 ∧ ww.get? p.1 = none)) (t : ∀ t ∈ tl', Tps h t.1 t.2) : St uu ww X vv L l ro rw tl' h :=
 ⟨S.inv, S.fr, S.keep, S.above, S.low, S.based, S.ns, S.hro, fun p hp => by
  have qz := S.hrw p hp
  have a1 := qz.1
  have a2 := qz.2.1
  have a3 := qz.2.2.1
  have a4 := qz.2.2.2.1
  have a5 := qz.2.2.2.2.1
  have a6 := qz.2.2.2.2.2
  exact ⟨a1, a2, a3, a4, a5, hr p hp⟩, S.nd, S.sep, t⟩
theorem St.setTl (S : St uu ww X vv L l ro rw tl h) {tl' : LT} (hr : ∀ p ∈ rw, p.2.cls ≠ .type "tuple") (t : ∀ t ∈ tl', Tps h t.1 t.2) : St uu ww X vv L l ro rw tl' h :=
 ⟨S.inv, S.fr, S.keep, S.above, S.low, S.based, S.ns, S.hro, fun p hp => by
  have qz := S.hrw p hp
  have a1 := qz.1
  have a2 := qz.2.1
  have a3 := qz.2.2.1
  have a4 := qz.2.2.2.1
  have a5 := qz.2.2.2.2.1
  have a6 := qz.2.2.2.2.2
  exact ⟨a1, a2, a3, a4, a5, .inl (hr p hp)⟩, S.nd, S.sep, t⟩
theorem St.addTl (S : St uu ww X vv L l ro rw tl h) {vs : List Value} {xss : List (List Scal)} (hr : ∀ p ∈ rw, p.2.cls ≠ .type "tuple") (t : Tps h vs xss) : St uu ww X vv L l ro rw ((vs, xss) :: tl) h :=
 S.setTl hr fun q hq => by
  rcases zC hq with rfl | hq
  ·exact t
  ·exact S.htl q hq
theorem St.drop (S : St uu ww X vv L l ro rw tl h) {ro' rw' : LO} (a : ro'.Sublist ro) (b : rw'.Sublist rw) : St uu ww X vv L l ro' rw' tl h :=
 ⟨S.inv, S.fr, S.keep, S.above, S.low, S.based, S.ns, fun p hp => S.hro p (a.subset hp), fun p hp => S.hrw p (b.subset hp), S.nd.sublist (b.map _), fun p hp q hq => S.sep p (a.subset hp) q (b.subset hq), S.htl⟩
theorem St.wd {env : Env} (S : St uu ww X vv L l ro rw tl h) (hL : env.frame = some L) (hk : env.scope.kind ≠ .module) : Wd uu (env :: vv) h := by
 refine ⟨S.inv, fun e he => ?_⟩
 rcases zC he with rfl | he
 ·obtain ⟨oL, esL, epL, hgL, hdL, hz⟩ := S.ns
  exact ⟨hk, L, oL, esL, epL, hL, S.baseL, hgL, hdL⟩
 ·exact S.fr e he
end
structure Rm (A : Around) (vv : List Env) (n : Nat) : Prop where
 frames : A.frames = some vv
 handled : A.handled = none
 depth : A.depth + n ≤ 900
 units : A.units + 20 * n ≤ 9000
theorem Rm.deeper {A : Around} {vv : List Env} {n : Nat} (r : Rm A vv (n + 1)) (env : Env) : Rm (A.deeper env) (env :: vv) n :=
 ⟨Around.frames_deeper r.frames, r.handled, by have := r.depth; show A.depth + 1 + n ≤ 900; exact om13 this, by have := r.units; show A.units + 3 + 20 * n ≤ 9000; exact om14 this⟩
theorem Rm.in1 {A : Around} {vv : List Env} {n : Nat} (r : Rm A vv (n + 1)) : Rm A.in1 vv n :=
 ⟨r.frames, r.handled, by have := r.depth; show A.depth + n ≤ 900; exact om15 this, by have := r.units; show A.units + 1 + 20 * n ≤ 9000; exact om16 this⟩
theorem Rm.less {A : Around} {vv : List Env} {n m : Nat} (r : Rm A vv n) (h : m ≤ n) : Rm A vv m :=
 ⟨r.frames, r.handled, by have := r.depth; exact om17 h this, by have := r.units; exact om18 h this⟩
theorem Rm.room {A : Around} {vv : List Env} {n : Nat} (r : Rm A vv n) : A.depth < recursionLimit := by
 have := r.depth; show A.depth < 1000; exact om19 this
theorem Rm.crm {A : Around} {vv : List Env} {n : Nat} (r : Rm A vv n) : A.units < cLine := by
 have := r.units; show A.units < 9900; exact om20 this
theorem zba {names : List (Str × NameKind)} {binds : LS} (h : (binds.all fun x => decide (names.lookup x.1 = some .local)) = true) : ∀ x ∈ binds, names.lookup x.1 = some .local := fun x hx => of_decide_eq_true (List.all_eq_true.mp h x hx)
@[reducible] noncomputable def fenv (fd : FuncData) (f L : Nat) : Env := { scope := fd.scope, locals := L, globals := fd.globals, cells := fd.closure, qual := fd.qualname ++ ".<locals>.", func := some f, code := fd.code, frame := some L, builtins := fd.builtins }
section
theorem Gd.nolim (G : Gd w uu) (I : Inv uu h) : h.NoLimit := by
 obtain ⟨mc, ⟨o, es, ep, ho, r⟩, z⟩ := G.nolimit
 exact ⟨mc, ⟨o, es, ep, I.old _ _ ho (by rintro (q | q) <;> exact absurd q (by decide)), r⟩, z⟩
theorem Gd.get (G : Gd w uu) (I : Inv uu h) {a : Nat} {o : Obj} (e : (KK w).lookup a = some o) (ht : decide (a = 190 ∨ a = 197) = false := by rfl) : h.get? a = some o :=
 I.old a o (G.k a o e) (by intro q; exact (of_decide_eq_false ht) q)
theorem St.entry {ww : Heap} {X : List Nat} {L : Nat} {l : LS} {ro rw : LO} {tl : LT} (S : St uu ww X vv L l ro rw tl h) {a : Nat} {o : Obj} (e : ww.get? a = some o) (hF : a ∉ zab vv) (hX : a ∉ X) (hT : ¬ za9 a) (hs : ∀ q ∈ rw, a ≠ q.1) :
  St uu ww X vv L l ((a, o) :: ro) rw tl h := by
 refine ⟨S.inv, S.fr, S.keep, S.above, S.low, S.based, S.ns, ?_, S.hrw, S.nd, ?_, S.htl⟩
 ·intro p hp
  rcases zC hp with rfl | hp
  ·exact ⟨S.keep.obj _ _ e hF hX hT, (fun q => by (have q' : a = L := q); rw [q', S.above] at e; cases e), hF, hT⟩
  ·exact S.hro p hp
 ·intro p hp q hq
  rcases zC hp with rfl | hp
  ·exact hs q hq
  ·exact S.sep p hp q hq
theorem callFn {f : Nat} {fd : FuncData} {o : Obj} {body : List Stmt} {args : List Value} {kw : LS} {binds : LS} {n : Nat} {R : Result → SP}
  (G : Gd w uu) (W : Wd uu vv h) (P : Rm A vv (n + 1))
  (ho : h.get? f = some o) (hdat : o.data = .func fd) (hco : fd.scope.isCoroutine = false) (hgen : fd.scope.isGenerator = false) (hbody : fd.body = .stmts body) (hcd : h.CodeRec fd.code fd.qualname)
  (hk : fd.scope.kind = .function) (hcell : ∀ x ∈ fd.scope.names, x.2 ≠ .cell) (hloc : ∀ x ∈ binds, fd.scope.names.lookup x.1 = some .local)
  (hbind : wpAny (Mo w) A.in1 (bindArgs fd ⟨args, kw⟩) (fun b s => b = binds ∧ s = ⟨h, g, d, tk, os⟩) (fun j j => False) ⟨h, g, d, tk, os⟩)
  (hb : ∀ L h₁ tk₁, St uu h [] vv L binds.reverse [] [] [] h₁ → Rm (A.deeper (fenv fd f L)) (fenv fd f L :: vv) n →
   wpAny (Mo w) (A.deeper (fenv fd f L)) (execs body (fenv fd f L)) (fun fl s' => R (.ok (.ret (match fl with | .ret v => v | _ => .none))) s')
    (fun e s' => wpAny (Mo w) (A.deeper (fenv fd f L)) (leaving (fenv fd f L) e) (fun j s'' => R (.error e) s'') (fun e' s'' => R (.error e') s'') s') ⟨h₁, g, d, tk₁, os⟩) :
  codeAny (Mo w) A (.call (.ref f) ⟨args, kw⟩) R ⟨h, g, d, tk, os⟩ := by
 refine codeAny_call_function P.room ho hdat hco hgen hbody hcd (zM hbind (fun b s q => ?_) fun j j x => x.elim)
 obtain ⟨rfl, rfl⟩ := q
 refine wpAny_newFunctionEnv hcell hloc (fun h' hns hsb => ⟨(G.nolim W.inv).fresh _ hsb, ?_⟩) hk
 refine codeAny_func (hb h.objs.size h' _ ?_ (P.deeper _))
 have kp : ∀ (b : Nat) o, h.get? b = some o → h'.get? b = some o := fun b o e => (hsb.2 b (Nat.ne_of_lt (Heap.lt_size e))).trans (zQ _ e)
 refine ⟨W.inv.keeps fun b o e j => kp b o e, W.fr.keeps fun b o j e => ⟨o.slots, kp b o e⟩, .of kp, getN, ?_, fun b o e => W.inv.there e, hns, ?_, ?_, List.nodup_nil, ?_, ?_⟩
 ·intro b hb
  obtain ⟨o, es, ep, _, e, _⟩ := W.fr.mem hb
  exact ⟨o, e⟩
 all_goals (intro _ hp; exact nomatch hp)
theorem zm4 {f : Nat} {fd : FuncData} {o : Obj} {body : List Stmt} {args : List Value} {kw : LS} {binds : LS} {n : Nat} {Q : VP}
  (G : Gd w uu) (W : Wd uu vv h) (P : Rm A vv (n + 1))
  (ho : h.get? f = some o) (hdat : o.data = .func fd) (hco : fd.scope.isCoroutine = false) (hgen : fd.scope.isGenerator = false) (hbody : fd.body = .stmts body) (hcd : h.CodeRec fd.code fd.qualname)
  (hk : fd.scope.kind = .function) (hcell : ∀ x ∈ fd.scope.names, x.2 ≠ .cell) (hloc : ∀ x ∈ binds, fd.scope.names.lookup x.1 = some .local)
  (hbind : wpAny (Mo w) A.in1 (bindArgs fd ⟨args, kw⟩) (fun b s => b = binds ∧ s = ⟨h, g, d, tk, os⟩) (fun j j => False) ⟨h, g, d, tk, os⟩)
  (hb : ∀ L h₁ tk₁, St uu h [] vv L binds.reverse [] [] [] h₁ → Rm (A.deeper (fenv fd f L)) (fenv fd f L :: vv) n →
   wpAny (Mo w) (A.deeper (fenv fd f L)) (execs body (fenv fd f L)) (fun fl s' => Q (match fl with | .ret v => v | _ => .none) s') (fun j j => False) ⟨h₁, g, d, tk₁, os⟩) :
  wpAny (Mo w) A (call (.ref f) args kw) Q E ⟨h, g, d, tk, os⟩ :=
 wpAny_call (callFn G W P ho hdat hco hgen hbody hcd hk hcell hloc hbind fun L h₁ tk₁ S R => zM (hb L h₁ tk₁ S R) (fun fl s' q => q) fun j j x => x.elim)
end
section
theorem zd8 (I : Inv uu h) {a : Nat} {m : Str → Option Value} (hn : uu.Ns a m) (ht : ¬ za9 a) : h.Ns a m := by
 obtain ⟨o, es, ep, e, r⟩ := hn
 exact ⟨o, es, ep, I.old _ _ e ht, r⟩
theorem not3 : ¬ za9 mainGlobals := by rintro (q | q) <;> exact absurd q (by decide)
theorem not0 : ¬ za9 builtinsNs := by rintro (q | q) <;> exact absurd q (by decide)
theorem not2 : ¬ za9 cStatics := by rintro (q | q) <;> exact absurd q (by decide)
theorem zij {x : Str} {pos : Pos} {v : Value} {Q : VP} (S : St uu ww X vv L l ro rw tl h) (hv : l.lookup x = some v) (hq : Q v ⟨h, g, d, tk, os⟩)
  (hk : env.scope.kind = .function := by rfl) (hl : env.kindOf x = some .local := by rfl) (hL : env.locals = L := by rfl) (hd : (x == ("__debug__" : Str)) = false := by rfl) :
  wpAny (Mo w) A (eval (.Name x pos) env) Q E ⟨h, g, d, tk, os⟩ := by
 subst hL
 exact wpAny_Name (wpAny_loadName_local hk hl S.ns hv hq) hd
theorem e_glob {x : Str} {pos : Pos} {v : Value} {Q : VP} (G : Gd w uu) (I : Inv uu h) (hv : nsIn (KK w) mainGlobals x = some (some v)) (hq : Q v ⟨h, g, d, tk, os⟩)
  (hk : env.scope.kind = .function := by rfl) (hl : env.kindOf x = some .globalImplicit := by rfl) (hG : env.globals = 3 := by rfl) (hd : (x == ("__debug__" : Str)) = false := by rfl) :
  wpAny (Mo w) A (eval (.Name x pos) env) Q E ⟨h, g, d, tk, os⟩ := by
 obtain ⟨mg, hn, hm⟩ := G.g
 exact Calls.Name_function_global hk hl (Calls.loadGlobal_global (mg := mg) (by rw [hG]; exact zd8 I hn not3) (hm _ _ hv) hq) hd
theorem e_blt {x : Str} {pos : Pos} {v : Value} {Q : VP} (G : Gd w uu) (I : Inv uu h) (hv : nsIn (KK w) mainGlobals x = some none) (hb : bootBuiltins x = some v) (hq : Q v ⟨h, g, d, tk, os⟩)
  (hk : env.scope.kind = .function := by rfl) (hl : env.kindOf x = some .globalImplicit := by rfl) (hG : env.globals = 3 := by rfl) (hB : env.builtins = 0 := by rfl) (hd : (x == ("__debug__" : Str)) = false := by rfl) (hn : (x == ("__name__" : Str)) = false := by rfl) :
  wpAny (Mo w) A (eval (.Name x pos) env) Q E ⟨h, g, d, tk, os⟩ := by
 obtain ⟨mg, hg, hm⟩ := G.g
 obtain ⟨mb, hb', hm'⟩ := G.b
 exact Calls.Name_function_global hk hl (Calls.loadGlobal_builtin (mg := mg) (mb := mb) (by rw [hG]; exact zd8 I hg not3) (hm _ _ hv) (by rw [hB]; exact zd8 I hb' not0) ((hm' x (by simpa using hn)).trans hb) hq) hd
theorem zcm {x : Str} {v : Value} {Q : Unit → SP} (S : St uu ww X vv L l ro rw tl h)
  (hq : ∀ h', St uu ww X vv L ((x, v) :: l) ro rw tl h' → Q () ⟨h', g, d, tk + 1, os⟩)
  (hk : env.scope.kind = .function := by rfl) (hl : env.kindOf x = some .local := by rfl) (hL : env.locals = L := by rfl) :
  wpAny (Mo w) A (storeName env x v) Q E ⟨h, g, d, tk, os⟩ := by
 subst hL
 exact wpAny_storeName_local hl S.ns (fun h' hn hs => hq h' (S.set hn hs)) (by rw [hk]; rfl)
variable {rest body orelse : List Stmt} {pos' : Pos} {Q : Flow → SP}
theorem x_nil {M : Model} (h : Q .next s) : wpAny M A (execs [] env) Q E s := wpAny_execs_nil h
theorem zby {M : Model} {x : Str} {value : Expr} (h : wpAny M A (eval value env) (fun v s₁ => wpAny M A (storeName env x v) (fun j s₂ => wpAny M A (execs rest env) Q E s₂) E s₁) E s)
  (hs : swapsWith value (some (.Name x pos')) pos.line env = pure false := by rfl) : wpAny M A (execs (.Assign [.Name x pos'] value pos :: rest) env) Q E s :=
 wpAny_execs_cons (wpAny_Assign_Name (zM h (fun v s₁ q => zM q (fun j j z => z) fun j j z => z) fun j j z => z) hs)
theorem zfh {M : Model} {elts : List Expr} {k : Nat} {value : Expr} (h : wpAny M A (eval value env) (fun v s₁ => wpAny M A (assign (.Tuple elts k pos') env v) (fun j s₂ => wpAny M A (execs rest env) Q E s₂) E s₁) E s)
  (h1 : swapsWithSole [.Tuple elts k pos'] value pos.line env = pure false := by rfl) (h2 : swappedStores [.Tuple elts k pos'] value env = pure none := by rfl) :
  wpAny M A (execs (.Assign [.Tuple elts k pos'] value pos :: rest) env) Q E s :=
 wpAny_execs_cons (PyProof.Rows.Assign_Tuple (zM h (fun v s₁ q => zM q (fun j j z => z) fun j j z => z) fun j j z => z) h1 h2)
theorem x_swap {elts : List Expr} {k : Nat} {value : Expr} {names : List Str} (hh : A.handled = none)
  (h : wpAny (Mo w) A (eval value env) (fun v s₁ => ∃ t items, v = .ref t ∧ s₁.heap.IsTuple t items ∧ items.size = names.length ∧
   ∀ h', Heap.ExtBut s₁.heap.objs.size s₁.heap h' → wpAny (Mo w) A (assignInOrder (names.reverse.map fun n => bindName env n) items.toList.reverse) (fun j s₂ => wpAny (Mo w) A (execs rest env) Q E s₂) E { s₁ with heap := h' }) E s)
  (h1 : swapsWithSole [.Tuple elts k pos'] value pos.line env = pure false := by rfl) (h2 : swappedStores [.Tuple elts k pos'] value env = pure (some names) := by rfl) :
  wpAny (Mo w) A (execs (.Assign [.Tuple elts k pos'] value pos :: rest) env) Q E s := by
 refine wpAny_execs_cons ?_
 refine zB (wpAny_standAt (zB (wpAny_of_eq h1 ?_)))
 refine zB (zM h (fun v s₁ q => ?_) fun j j z => z)
 obtain ⟨t, items, rfl, ht, hn, q⟩ := q
 refine zB (wpAny_of_eq h2 ?_)
 refine zB (wpAny_rule (zB ?_))
 rw [← hn]
 refine wpAny_unpackItems_tuple hh ht fun h' hx => ?_
 refine zB (zM (Q := fun j s₂ => wpAny (Mo w) A (execs rest env) Q E s₂) (E := E) ?_ (fun j s₂ z => zP z) fun j j z => z)
 exact q h' hx
theorem zjx {M : Model} {e : Expr} (h : wpAny M A (eval e env) (fun v s => Q (.ret v) s) E s) : wpAny M A (execs (.Return (some e) pos :: rest) env) Q E s :=
 wpAny_execs_cons (wpAny_Return_some (zM h (fun j j z => z) fun j j z => z))
theorem ziz {M : Model} {e : Expr} (h : wpAny M A (eval e env) (fun v s' => (∀ a, v ≠ .ref a) ∧ wpAny M A (execs rest env) Q E s') E s)
  (h1 : interactive env = false := by rfl) (h2 : swapsWith e none pos.line env = pure false := by rfl) : wpAny M A (execs (.Expr e pos :: rest) env) Q E s :=
 wpAny_execs_cons (wpAny_Expr (zM h (fun v s' z => by
  cases v <;> first | exact z.2 | exact absurd rfl (z.1 _)) fun j j z => z) h1 h2)
def FlA (M : Model) (A : Around) (E : VP) (env : Env) (rest : List Stmt) (Q : Flow → SP) (f : Flow) (s : Shared) : Prop := match f with
 | .next => wpAny M A (execs rest env) Q E s
 | f => Q f s
theorem x_fla {M : Model} (h : wpAny M A (execs rest env) Q E s) : FlA M A E env rest Q .next s := h
theorem x_if {M : Model} {test : Expr} (h : wpAny M A (PySem.isTrue test env (eval test env)) (fun b s₂ => if b = true then wpAny M A (execs body env) (FlA M A E env rest Q) E s₂
   else wpAny M A (execs orelse env) (FlA M A E env rest Q) E s₂) E s) :
  wpAny M A (execs (.If test body orelse pos :: rest) env) Q E s := wpAny_execs_cons (wpAny_If h)
theorem x_pass {M : Model} (h : wpAny M A (execs rest env) Q E s) : wpAny M A (execs (.Pass pos :: rest) env) Q E s := wpAny_execs_cons (wpAny_Pass h)
theorem zkn {M : Model} {o i value : Expr} (h : wpAny M A (eval value env) (fun v s₁ => wpAny M A (eval o env) (fun ov s₂ => wpAny M A (eval i env) (fun iv s₃ => wpAny M A (setItem ov iv v) (fun j s₄ => wpAny M A (execs rest env) Q E s₄) E s₃) E s₂) E s₁) E s)
  (h1 : swapsWith value (some (.Subscript o i pos')) pos.line env = pure false := by rfl) : wpAny M A (execs (.Assign [.Subscript o i pos'] value pos :: rest) env) Q E s :=
 wpAny_execs_cons (wpAny_Assign_Subscript (zM h (fun v s₁ q => zM q (fun ov s₂ q => zM q (fun iv s₃ q => zM q (fun j j z => z) fun j j z => z) fun j j z => z) fun j j z => z) fun j j z => z) h1)
end
theorem clsNe {a b : String} (h : a ≠ b) : Value.type a ≠ Value.type b := fun e => h (by injection e)
noncomputable def KS (w : World) : Frag := (KK w).filter fun p => !(Nat.beq p.1 190 || Nat.beq p.1 197)
theorem zfz {K : Frag} {f : Nat → Bool} {a : Nat} {o : Obj} (e : List.lookup a (K.filter fun p => f p.1) = some o) : f a = true ∧ List.lookup a K = some o := by
 induction K with
 | nil => cases e
 | cons p r ih =>
  rw [List.filter_cons] at e
  by_cases hp : f p.1 = true
  ·rw [zH hp, List.lookup_cons] at e
   rw [List.lookup_cons]
   by_cases hq : (a == p.1) = true
   ·have q := eq_of_beq hq
    subst q
    simp only [hq] at e ⊢
    exact ⟨hp, e⟩
   ·have hq' : (a == p.1) = false := by simpa using hq
    simp only [hq'] at e ⊢
    exact ih e
  ·rw [zG hp] at e
   obtain ⟨x, y⟩ := ih e
   rw [List.lookup_cons]
   by_cases hq : (a == p.1) = true
   ·have q := eq_of_beq hq
    subst q
    exact absurd x hp
   ·have hq' : (a == p.1) = false := by simpa using hq
    simp only [hq']
    exact ⟨x, y⟩
section
theorem Gd.ks (G : Gd w uu) (I : Inv uu h) : (KS w).In h := by
 intro a o e
 obtain ⟨x, y⟩ := zfz (f := fun a => !(Nat.beq a 190 || Nat.beq a 197)) e
 refine I.old a o (G.k a o y) ?_
 rintro (rfl | rfl) <;> exact absurd x (by decide)
theorem n_list {vs : List Value} (S : St uu ww X vv L l ro rw tl h) (hq : ∀ (a : Nat) h', St uu ww X vv L l ro ((a, zaa vs) :: rw) tl h' → Q (.ref a) ⟨h', g, d, tk, os⟩) (hsz : vs.length ≤ sizeLine := by size_fits) :
  wpAny (Mo w) A (newList vs) Q E ⟨h, g, d, tk, os⟩ := wpAny_newList (hq _ _ (S.allocW _ rfl (clsNe (by decide)))) hsz
theorem n_tup {vs : List Value} (S : St uu ww X vv L l ro rw tl h) (hq : ∀ (a : Nat) h', St uu ww X vv L l ((a, zac vs) :: ro) rw tl h' → Q (.ref a) ⟨h', g, d, tk, os⟩) (hsz : vs.length ≤ sizeLine := by size_fits) :
  wpAny (Mo w) A (newTuple vs) Q E ⟨h, g, d, tk, os⟩ := wpAny_newTuple (hq _ _ (S.allocR _ rfl)) hsz
theorem e_list {M : Model} {s : Shared} {elts : List Expr} (h : wpAny M A (spliced (backTo pos (starEach elts env))) (fun vs s₁ => wpAny M A (newList vs) Q E s₁) E s) : wpAny M A (eval (.List elts pos) env) Q E s := List_ h
theorem zdl {M : Model} {s : Shared} {elts : List Expr} {k : Nat} (h : wpAny M A (spliced (backTo pos (starEach elts env))) (fun vs s₁ => wpAny M A (newTuple vs) Q E s₁) E s) : wpAny M A (eval (.Tuple elts k pos) env) Q E s := Tuple_ h
theorem zbg {M : Model} {s : Shared} {f : Value} {args : List (Bool × Sem Value)} {Q : Args → SP} (hp : args.any (·.1) = false) (h : wpAny M A (spliced args) (fun vs s' => Q ⟨vs, []⟩ s') E s) : wpAny M A (evalArgs f true args []) Q E s := by
 cases args with
 | nil =>
  refine zB (zM h (fun vs s' h' => ?_) fun j j x => x)
  exact zB (zP (wpAny_holding (zB (zP (zB (zP (zP h')))))))
 | cons a r =>
  obtain ⟨b, x⟩ := a
  cases b with
  | true => simp at hp
  | false => exact Calls.evalArgs_plain h
theorem za3 {M : Model} {s : Shared} {id : String} {first : List Value} {args : List (Bool × Sem Value)}
  (h : wpAny M A (spliced args) (fun vs s₁ => wpAny M A (call (.builtin id) (first ++ vs)) Q E s₁) E s) (hp : args.any (·.1) = false := by rfl) :
  wpAny M A (callWith pos (.builtin id) first args []) Q E s := Calls.callWith_builtin hp (zbg hp h)
theorem cw_type {M : Model} {s : Shared} {T : String} {first : List Value} {args : List (Bool × Sem Value)}
  (h : wpAny M A (spliced args) (fun vs s₁ => wpAny M A (call (.type T) (first ++ vs)) Q E s₁) E s) (hp : args.any (·.1) = false := by rfl) :
  wpAny M A (callWith pos (.type T) first args []) Q E s := PySem.callWith_type hp (zbg hp h)
theorem zeh {s : Shared} {f : Nat} {first : List Value} {args : List (Bool × Sem Value)} (hk : keepIn (KS w) (.ref f) = true)
  (h : wpAny (Mo w) A (spliced args) (fun vs s₁ => (KS w).In s₁.heap ∧ wpAny (Mo w) A (call (.ref f) (first ++ vs)) Q E s₁) E s) (hp : args.any (·.1) = false := by rfl) :
  wpAny (Mo w) A (callWith pos (.ref f) first args []) Q E s :=
 callWith_of (by rw [hp]; rfl) (keeps_K hk) (zbg hp h)
def ExtS (s : Shared) (P : SP) : Prop := ∀ h', (∀ (b : Nat) o, s.heap.get? b = some o → h'.get? b = some o) → P { s with heap := h' }
theorem ExtS.go {P : SP} (S : St uu ww X vv L l ro rw tl h) (hq : ∀ h', St uu ww X vv L l ro rw tl h' → P ⟨h', g, d, tk, os⟩) : ExtS ⟨h, g, d, tk, os⟩ P := fun h' k => hq h' (S.ext k)
theorem St.addTup (S : St uu ww X vv L l ro rw tl h) {t : Nat} {vs : List Value} (hr : ∀ p ∈ rw, p.2.cls ≠ .type "tuple") (ht : h.get? t = some (zac vs)) : St uu ww X vv L l ((t, zac vs) :: ro) rw tl h := by
 refine ⟨S.inv, S.fr, S.keep, S.above, S.low, S.based, S.ns, ?_, S.hrw, S.nd, ?_, S.htl⟩
 ·intro p hp
  rcases zC hp with rfl | hp
  ·refine ⟨ht, ?_, ?_, ?_⟩
   ·rintro rfl
    obtain ⟨o, es, ep, e, hd, _⟩ := S.ns
    rw [ht] at e; cases e; cases hd
   ·intro hb
    obtain ⟨o, es, ep, _, e, hd⟩ := S.fr.mem hb
    rw [ht] at e; cases e; cases hd
   ·rintro (q | q)
    ·obtain ⟨ps, ⟨_, e⟩, _⟩ := S.inv.t1
     dsimp only at q; rw [q] at ht; rw [ht] at e; cases e
    ·obtain ⟨ps, ⟨_, e⟩, _⟩ := S.inv.t2
     dsimp only at q; rw [q] at ht; rw [ht] at e; cases e
  ·exact S.hro p hp
 ·intro p hp q hq
  rcases zC hp with rfl | hp
  ·intro e
   have a1 := (S.hrw q hq).1
   have a6 := hr q hq
   rw [← e, ht] at a1
   exact a6 (by rw [← Option.some.inj a1])
  ·exact S.sep p hp q hq
structure Ret (uu : Heap) (vv : List Env) (h h' : Heap) : Prop where
 keep : Keep (zab vv) [] h h'
 inv : Inv uu h'
theorem St.ret (S : St uu ww [] vv L l ro rw tl h) : Ret uu vv ww h := ⟨S.keep, S.inv⟩
theorem St.newW (S : St uu ww [] vv L l ro rw tl h) {a : Nat} {o : Obj} (hm : (a, o) ∈ rw) : ww.get? a = none ∧ h.get? a = some o := by
 obtain ⟨a1, _, _, _, a5, _⟩ := S.hrw _ hm
 exact ⟨a5.resolve_left (fun x => nomatch x), a1⟩
theorem St.back {env : Env} (S : St uu ww X vv L l ro rw tl h) {h' : Heap} (r : Ret uu (env :: vv) h h') (hL : env.frame = some L) : St uu ww X vv L l ro rw tl h' := S.call hL r.keep r.inv
theorem St.gotR {env : Env} (S : St uu ww X vv L l ro rw tl h) {h' : Heap} (r : Ret uu (env :: vv) h h') (hL : env.frame = some L) {ro' rw' : LO} (S' : St uu ww X vv L l (ro' ++ ro) rw tl h') {a : Nat} {o : Obj} (hn : h.get? a = none) (ho : h'.get? a = some o) :
  St uu ww X vv L l ((a, o) :: (ro' ++ ro)) rw tl h' := by
 obtain ⟨n1, n2, n3, n4, n5⟩ := S.fresh hn
 refine ⟨S'.inv, S'.fr, S'.keep, S'.above, S'.low, S'.based, S'.ns, ?_, S'.hrw, S'.nd, ?_, S'.htl⟩
 ·intro p hp
  rcases zC hp with rfl | hp
  ·exact ⟨ho, n1, n2, n3⟩
  ·exact S'.hro p hp
 ·intro p hp q hq
  rcases zC hp with rfl | hp
  ·intro e
   have := (S.hrw q hq).1
   rw [← e, hn] at this; cases this
  ·exact S'.sep p hp q hq
end
section
theorem St.isList (S : St uu ww X vv L l ro rw tl h) {a n : Nat} {vs : List Value} (hm : (a, zaa vs n) ∈ ro ∨ (a, zaa vs n) ∈ rw) : h.IsList a vs.toArray := by
 rcases hm with hm | hm
 ·exact ⟨_, (S.hro _ hm).1, rfl, n, rfl⟩
 ·exact ⟨_, (S.hrw _ hm).1, rfl, n, rfl⟩
theorem St.getR (S : St uu ww X vv L l ro rw tl h) {a : Nat} {o : Obj} (hm : (a, o) ∈ ro ∨ (a, o) ∈ rw) : h.get? a = some o := by
 rcases hm with hm | hm
 ·exact (S.hro _ hm).1
 ·exact (S.hrw _ hm).1
def IsIt (a i : Nat) (o : Obj) : Prop := o.cls = .type "list_iterator" ∧ o.data = .fields #[.ref a, .int i 0]
theorem IsIt.ne {a i : Nat} {o : Obj} (h : IsIt a i o) : o.cls ≠ .type "tuple" := by rw [h.1]; exact clsNe (by decide)
theorem zgl {target iter : Expr} {body orelse rest : List Stmt} {pos : Pos} {Q : Flow → SP} {s : Shared}
  (h : wpAny (Mo w) A (eval iter env) (fun x s₁ => wpAny (Mo w) A (pyIter x) (fun it s₂ => codeAny (Mo w) A (.forLoop target it body orelse env)
   (fun r s' => match r with | .ok .next => wpAny (Mo w) A (execs rest env) Q E s' | .ok f => Q f s' | .error _ => False) s₂) E s₁) E s)
  (hs : ∀ x, foldedSetIterable iter env x = pure x := by intro _; rfl) : wpAny (Mo w) A (execs (.For target iter body orelse pos :: rest) env) Q E s := by
 refine wpAny_execs_cons (wpAny_For (zM h (fun x s₁ q => zM q (fun it s₂ q => codeAny_mono q fun r s' z => ?_) fun j j z => z) fun j j z => z) hs)
 cases r with
 | ok f => cases f <;> exact z
 | error e => exact z.elim
theorem zea {a n : Nat} {vs : List Value} {Q : VP} (S : St uu ww X vv L l ro rw tl h) (hm : (a, zaa vs n) ∈ ro ∨ (a, zaa vs n) ∈ rw)
  (hq : ∀ it h' io, IsIt a 0 io → it ≠ a → h.get? it = none → St uu ww X vv L l ro ((it, io) :: rw) tl h' → Q (.ref it) ⟨h', g, d, tk, os⟩) : wpAny (Mo w) A (pyIter (.ref a)) Q E ⟨h, g, d, tk, os⟩ := by
 refine wpAny_pyIter_list (S.isList hm) (hq _ _ { cls := .type "list_iterator", data := .fields #[.ref a, .int 0 0] } ⟨rfl, rfl⟩ ?_ getN (S.allocW _ rfl (clsNe (by decide))))
 exact fun e => by have := ltS (S.getR hm); dsimp only at e; omega
end
section
variable {k : Nat}
theorem k_str {x : Str} (hq : Q (.str x tk) ⟨h, g, d, tk + 1, os⟩) : wpAny (Mo w) A (eval (.Constant (.str x) k pos) env) Q E ⟨h, g, d, tk, os⟩ := wpAny_Constant_str hq
theorem k_int {i : Int} (hq : Q (.int i tk) ⟨h, g, d, tk + 1, os⟩) : wpAny (Mo w) A (eval (.Constant (.int i) k pos) env) Q E ⟨h, g, d, tk, os⟩ := wpAny_Constant_int hq
theorem k_none {M : Model} {s : Shared} (hq : Q .none s) : wpAny M A (eval (.Constant .none k pos) env) Q E s := wpAny_Constant_none hq
theorem k_bool {M : Model} {s : Shared} {b : Bool} (hq : Q (.bool b) s) : wpAny M A (eval (.Constant (.bool b) k pos) env) Q E s := wpAny_Constant_bool hq
theorem zdz {M : Model} {s : Shared} {Q : List Value → SP} (hq : Q [] s) : wpAny M A (spliced (backTo pos (starEach [] env))) Q E s := wpAny_items_nil hq
theorem zb0 {M : Model} {s : Shared} {e : Expr} {rest : List Expr} {Q : List Value → SP}
  (hq : wpAny M A (eval e env) (fun v s₁ => wpAny M A (spliced (backTo pos (starEach rest env))) (fun vs s₂ => Q (v :: vs) s₂) E s₁) E s) (he : starEach (e :: rest) env = (false, eval e env) :: starEach rest env := by rfl) :
  wpAny M A (spliced (backTo pos (starEach (e :: rest) env))) Q E s := wpAny_items_cons hq he
theorem zc3 {x y : Str} {t u : Nat} (hq : ∀ t' tk', Q (.str (x ++ y) t') ⟨h, g, d, tk', os⟩) (hs : x.length + y.length ≤ sizeLine) : wpAny (Mo w) A (binaryOp .Add (.str x t) (.str y u)) Q E ⟨h, g, d, tk, os⟩ := add_str hq hs
theorem zg9 {a b : Int} {t u : Nat} (hq : Q (.int (a + b) tk) ⟨h, g, d, tk + 1, os⟩) : wpAny (Mo w) A (binaryOp .Add (.int a t) (.int b u)) Q E ⟨h, g, d, tk, os⟩ := PyProof.Rows.add_int hq
theorem zli {a b : Int} {t u : Nat} (hq : Q (.int (a - b) tk) ⟨h, g, d, tk + 1, os⟩) : wpAny (Mo w) A (binaryOp .Sub (.int a t) (.int b u)) Q E ⟨h, g, d, tk, os⟩ := PyProof.Rows.sub_int hq
theorem zlo {a b : Int} {t u : Nat} (hb : b ≠ 0) (hq : Q (.int (a.fmod b) tk) ⟨h, g, d, tk + 1, os⟩) : wpAny (Mo w) A (binaryOp .Mod (.int a t) (.int b u)) Q E ⟨h, g, d, tk, os⟩ := PyProof.Rows.mod_int' hb hq
theorem o_neg {a : Int} {t : Nat} (hq : Q (.int (-a) tk) ⟨h, g, d, tk + 1, os⟩) : wpAny (Mo w) A (unaryOp .USub (.int a t)) Q E ⟨h, g, d, tk, os⟩ := PyProof.Rows.neg_int hq
theorem zbr {x : Str} {t : Nat} {Q : Bool → SP} (hs : (x.length : Int) < 9223372036854775808) (hq : Q ((x.length : Int) != 0) ⟨h, g, d, tk + 1 + 1, os⟩) : wpAny (Mo w) A (truthy (.str x t)) Q E ⟨h, g, d, tk, os⟩ := SBL.truthy hs hq
theorem zb9 {x : Str} {t : Nat} (hs : (x.length : Int) < 9223372036854775808) (hq : Q (.int x.length (tk + 1)) ⟨h, g, d, tk + 1 + 1, os⟩) : wpAny (Mo w) A (call (.builtin "len") [.str x t]) Q E ⟨h, g, d, tk, os⟩ := SBL.len hs hq
theorem zdf {a n : Nat} {vs : List Value} (S : St uu ww X vv L l ro rw tl h) (hm : (a, zaa vs n) ∈ ro ∨ (a, zaa vs n) ∈ rw) (hs : (vs.length : Int) < 2 ^ 63) (hq : Q (.int vs.length (tk + 1)) ⟨h, g, d, tk + 1 + 1, os⟩) :
  wpAny (Mo w) A (call (.builtin "len") [.ref a]) Q E ⟨h, g, d, tk, os⟩ := PySem.Calls.call_len_list (S.isList hm) (by simpa using hs) (by simpa using hq)
theorem zje {a n : Nat} {vs : List Value} {v : Value} (S : St uu ww X vv L l ro rw tl h) {rw' : LO} (hl : Led rw a (zaa vs n) (zaa (vs ++ [v]) (n + 1)) rw') (hq : ∀ h', St uu ww X vv L l ro rw' tl h' → Q .none ⟨h', g, d, tk, os⟩) (hs : vs.length ≤ sizeLine) :
  wpAny (Mo w) A (call (.builtin "list.append") [.ref a, v]) Q E ⟨h, g, d, tk, os⟩ :=
 append_at (S.getR (.inr hl.mem)) (fun h' hs' hn => hq h' (S.chgS hl hs' (by rw [hn]; simp) (clsNe (by decide)))) (by simpa using hs)
theorem o_set {a n : Nat} {vs : List Value} {v : Value} {i : Int} {t j : Nat} (S : St uu ww X vv L l ro rw tl h) {rw' : LO} (hl : Led rw a (zaa vs n) (zaa (vs.set j v) n) rw') (hj : (i = j) ∨ (i < 0 ∧ i + vs.length = j)) (hlt : j < vs.length) (hs : vs.length ≤ sizeLine) {Q : Unit → SP} (hq : ∀ h', St uu ww X vv L l ro rw' tl h' → Q () ⟨h', g, d, tk, os⟩) :
  wpAny (Mo w) A (setItem (.ref a) (.int i t) v) Q E ⟨h, g, d, tk, os⟩ := by
 have hg := S.getR (.inr hl.mem)
 have key : ∀ j' : Nat, j' = j → St uu ww X vv L l ro rw' tl (h.update a (Obj.mapSeq fun x => x.setIfInBounds j' v)) := by
  intro j' ej; subst ej
  refine S.chgS hl (.update ..) ?_ (clsNe (by decide))
  have : (Obj.mapSeq (fun x => x.setIfInBounds j' v) (zaa vs n)) = zaa (vs.set j' v) n := by
   simp [Obj.mapSeq, zaa]
  rw [← this]
  exact Heap.get?_update_self _ hg rfl
 rcases hj with rfl | ⟨h1, h2⟩
 ·refine ki_setAt (n := n) (items := vs.toArray) hg (by exact om23) (by exact om24 hlt hs) (by simpa using hlt) (hq _ (key _ (by simp)))
 ·refine ki_setBack (n := n) (items := vs.toArray) hg h1 (by simp; exact om25 h2) (by exact om26 hs h2) (hq _ (key _ (by simp; exact om27 h2)))
theorem zjd {value slice : Expr} {a n : Nat} {vs : List Value} {i : Int} {t j : Nat} {v : Value} (S : St uu ww X vv L l ro rw tl h) (hm : (a, zaa vs n) ∈ ro ∨ (a, zaa vs n) ∈ rw) (hj : (i = j) ∨ (i < 0 ∧ i + vs.length = j)) (hv : vs[j]? = some v) (hs : vs.length ≤ sizeLine) (hq : Q v ⟨h, g, d, tk, os⟩)
  (hsub : subscripted slice false (.ref a) (.int i t) = operate [.ref a, .int i t] (getItem (.ref a) (.int i t)) := by rfl) :
  wpAny (Mo w) A (subscriptTail value slice (.ref a) (.int i t)) Q E ⟨h, g, d, tk, os⟩ := by
 have hlt : j < vs.length := (List.getElem?_eq_some_iff.mp hv).1
 have hL := S.isList hm
 refine tail_any hL.typeIs slot_list_getitem.lookup ?_ hsub
 rcases hj with rfl | ⟨h1, h2⟩
 ·exact wpAny_getItem_list hL (by exact om23) (by exact om28 hs hlt) (by simpa using hv) hq
 ·exact wpAny_getItem_list_neg hL h1 (by simp; exact om25 h2) (by exact om26 hs h2) (by
   have : (i + (vs.toArray.size : Int)).toNat = j := by simp; exact om27 h2
   rw [this]; simpa using hv) hq
theorem zll {value slice : Expr} {a sl n : Nat} {vs us : List Value} {vl vu : Value} {lo hi : Option Int} (S : St uu ww X vv L l ro rw tl h) (hm : (a, zaa vs n) ∈ ro ∨ (a, zaa vs n) ∈ rw)
  (hsl : h.IsSliceOf sl vl vu .none) (pl : IsPart vl lo) (pu : IsPart vu hi) (hs : vs.length ≤ sizeLine) (he : (slicePick vs.toArray lo hi none).toList = us)
  (hq : ∀ (b : Nat) h', St uu ww X vv L l ro ((b, zaa us) :: rw) tl h' → Q (.ref b) ⟨h', g, d, tk, os⟩)
  (hsub : ∃ ops, subscripted slice false (.ref a) (.ref sl) = operate ops (getItem (.ref a) (.ref sl)) := by exact ⟨_, rfl⟩) :
  wpAny (Mo w) A (subscriptTail value slice (.ref a) (.ref sl)) Q E ⟨h, g, d, tk, os⟩ := by
 have hL := S.isList hm
 obtain ⟨ops, hsub⟩ := hsub
 refine tail_any hL.typeIs slot_list_getitem.lookup (wpAny_getItem_list_slice hL hsl pl pu .none (by simp) ?_ (by simpa using hs)) hsub
 have : zaa us = { cls := .type "list", data := .seq (slicePick vs.toArray lo hi none) } := by rw [← he]
 exact hq _ _ (by rw [← this]; exact S.allocW _ rfl (clsNe (by decide)))
theorem zja {value slice : Expr} {a sl n : Nat} {vs us : List Value} {vl vu : Value} {lo hi : Option Int} (S : St uu ww X vv L l ro rw tl h) (hm : (a, zaa vs n) ∈ ro ∨ (a, zaa vs n) ∈ rw)
  (hsl : h.IsSliceOf sl vl vu .none) (pl : IsPart vl lo) (pu : IsPart vu hi) (hs : vs.length ≤ sizeLine) (he : (slicePick vs.toArray lo hi none).toList = us)
  (hq : ∀ (b : Nat) h', St uu ww X vv L l ((b, zaa us) :: ro) rw tl h' → Q (.ref b) ⟨h', g, d, tk, os⟩)
  (hsub : ∃ ops, subscripted slice false (.ref a) (.ref sl) = operate ops (getItem (.ref a) (.ref sl)) := by exact ⟨_, rfl⟩) :
  wpAny (Mo w) A (subscriptTail value slice (.ref a) (.ref sl)) Q E ⟨h, g, d, tk, os⟩ := by
 have hL := S.isList hm
 obtain ⟨ops, hsub⟩ := hsub
 refine tail_any hL.typeIs slot_list_getitem.lookup (wpAny_getItem_list_slice hL hsl pl pu .none (by simp) ?_ (by simpa using hs)) hsub
 have : zaa us = { cls := .type "list", data := .seq (slicePick vs.toArray lo hi none) } := by rw [← he]
 exact hq _ _ (by rw [← this]; exact S.allocR _ rfl)
def SlNew (lv uv : Value) (Q : VP) (s : Shared) : Prop := Q (.ref s.heap.objs.size) { s with heap := s.heap.push { cls := .type "slice", data := .fields #[lv, uv, .none] } }
theorem zlp {M : Model} {s : Shared} {lower upper : Option Expr} (hq : wpAny M A (evalPart lower env) (fun lv s₁ => wpAny M A (evalPart upper env) (fun uv s₂ => SlNew lv uv Q s₂) E s₁) E s) :
  wpAny M A (eval (.Slice lower upper none pos) env) Q E s :=
 wpAny_Slice (zM hq (fun lv s₁ q => zM q (fun uv s₂ q => wpAny_evalPart_none q) fun j j z => z) fun j j z => z)
theorem SlNew.go {lv uv : Value} (S : St uu ww X vv L l ro rw tl h) (hq : ∀ (sl : Nat) h', h'.IsSliceOf sl lv uv .none → St uu ww X vv L l ro rw tl h' → Q (.ref sl) ⟨h', g, d, tk, os⟩) : SlNew lv uv Q ⟨h, g, d, tk, os⟩ :=
 hq _ _ (.new ..) (S.push _)
end
section
theorem zhz {x y : Str} {px py pos' pos'' : Pos} {k k' : Nat} {e1 e2 : Expr} {rest : List Stmt} {Q : Flow → SP} {s : Shared} (hh : A.handled = none)
  (h : wpAny (Mo w) A (eval e1 env) (fun v1 s₁ => wpAny (Mo w) A (eval e2 env) (fun v2 s₂ => ExtS s₂ fun s₂ =>
   wpAny (Mo w) A (storeName env y v2) (fun j s₃ => wpAny (Mo w) A (storeName env x v1) (fun j s₄ => wpAny (Mo w) A (execs rest env) Q E s₄) E s₃) E s₂) E s₁) E s)
  (h1 : swapsWithSole [.Tuple [.Name x px, .Name y py] k pos'] (.Tuple [e1, e2] k' pos'') pos.line env = pure false := by rfl)
  (h2 : swappedStores [.Tuple [.Name x px, .Name y py] k pos'] (.Tuple [e1, e2] k' pos'') env = pure (some [x, y]) := by rfl)
  (h3 : starEach [e1, e2] env = [(false, eval e1 env), (false, eval e2 env)] := by rfl) :
  wpAny (Mo w) A (execs (.Assign [.Tuple [.Name x px, .Name y py] k pos'] (.Tuple [e1, e2] k' pos'') pos :: rest) env) Q E s := by
 refine x_swap hh (zdl ?_) h1 h2
 rw [h3]
 refine Calls.spliced_cons (zM h (fun v1 s₁ q => Calls.spliced_cons (zM q (fun v2 s₂ q => Calls.spliced_nil ?_) fun j j z => z)) fun j j z => z)
 refine wpAny_newTuple ⟨_, #[v1, v2], rfl, ⟨_, zL _ rfl, rfl, _, rfl⟩, rfl, fun h' hx => ?_⟩
 refine wpAny_assignInOrder_more (wpAny_bindName (zM (q h' fun b o e => ?_) (fun j s₃ q => wpAny_assignInOrder_more (wpAny_bindName (zM q (fun j s₄ q => wpAny_assignInOrder_none q) fun j j z => z))) fun j j z => z))
 refine hx b o ?_ (zQ _ e)
 have := ltS e
 rw [Heap.size_push]; exact om29 this
theorem zkm {x y z : Str} {px py pz pos' pos'' : Pos} {k k' : Nat} {e1 e2 e3 : Expr} {rest : List Stmt} {Q : Flow → SP} {s : Shared} (hh : A.handled = none)
  (h : wpAny (Mo w) A (eval e1 env) (fun v1 s₁ => wpAny (Mo w) A (eval e2 env) (fun v2 s₂ => wpAny (Mo w) A (eval e3 env) (fun v3 s₃ => ExtS s₃ fun s₃ =>
   wpAny (Mo w) A (storeName env z v3) (fun j s₄ => wpAny (Mo w) A (storeName env y v2) (fun j s₄ => wpAny (Mo w) A (storeName env x v1) (fun j s₄ => wpAny (Mo w) A (execs rest env) Q E s₄) E s₄) E s₄) E s₃) E s₂) E s₁) E s)
  (h1 : swapsWithSole [.Tuple [.Name x px, .Name y py, .Name z pz] k pos'] (.Tuple [e1, e2, e3] k' pos'') pos.line env = pure false := by rfl)
  (h2 : swappedStores [.Tuple [.Name x px, .Name y py, .Name z pz] k pos'] (.Tuple [e1, e2, e3] k' pos'') env = pure (some [x, y, z]) := by rfl)
  (h3 : starEach [e1, e2, e3] env = [(false, eval e1 env), (false, eval e2 env), (false, eval e3 env)] := by rfl) :
  wpAny (Mo w) A (execs (.Assign [.Tuple [.Name x px, .Name y py, .Name z pz] k pos'] (.Tuple [e1, e2, e3] k' pos'') pos :: rest) env) Q E s := by
 refine x_swap hh (zdl ?_) h1 h2
 rw [h3]
 refine Calls.spliced_cons (zM h (fun v1 s₁ q => Calls.spliced_cons (zM q (fun v2 s₂ q => Calls.spliced_cons (zM q (fun v3 s₃ q => Calls.spliced_nil ?_) fun j j z => z)) fun j j z => z)) fun j j z => z)
 refine wpAny_newTuple ⟨_, #[v1, v2, v3], rfl, ⟨_, zL _ rfl, rfl, _, rfl⟩, rfl, fun h' hx => ?_⟩
 refine wpAny_assignInOrder_more (wpAny_bindName (zM (q h' fun b o e => ?_) (fun j s₃ q => wpAny_assignInOrder_more (wpAny_bindName (zM q (fun j s₄ q => wpAny_assignInOrder_more (wpAny_bindName (zM q (fun j s₄ q => wpAny_assignInOrder_none q) fun j j z => z))) fun j j z => z))) fun j j z => z))
 refine hx b o ?_ (zQ _ e)
 have := ltS e
 rw [Heap.size_push]; exact om29 this
theorem zeb {x : Str} {t : Nat} {o : Expr} {name : Str} {args : List Expr} {id : String} {s : Shared} (h : wpAny (Mo w) A (eval o env) (fun ov s₁ => ∃ x t, ov = .str x t ∧ wpAny (Mo w) A (callWith pos (.builtin id) [ov] (backTo pos (starEach args env)) []) Q E s₁) E s)
  (hs : Slot "str" name id) (ht : typeOf (.builtin id) = pure (.type "method_descriptor")) (h1 : attributeBase o name env (eval o env) = eval o env := by rfl)
  (h2 : ((backTo pos (starEach args env)).all (fun x => !x.1) && (backToKw pos (keywordEach [] env)).all (fun x => x.1.isSome) && decide (args.length + ([] : List Keyword).length + (if ([] : List Keyword).isEmpty then 0 else 1) < 30)) = true := by rfl)
  (h3 : (apos.endLine == pos.line) = true := by rfl) : wpAny (Mo w) A (eval (.Call (.Attribute o name apos) args [] pos) env) Q E s :=
 wpAny_Call_method h1 h2 h3 F.plainAttrs_str hs ht (zM h (fun ov s₁ q => by
  obtain ⟨x, t, rfl, q⟩ := q
  exact ⟨typeIs_str _ _ _, (fun j e => nomatch e), q⟩) fun j j z => z)
theorem m_list {o : Expr} {name : Str} {args : List Expr} {id : String} {s : Shared} (h : wpAny (Mo w) A (eval o env) (fun ov s₁ => ∃ (a : Nat) (vs : List Value) (n : Nat), ov = .ref a ∧ s₁.heap.get? a = some (zaa vs n) ∧ wpAny (Mo w) A (callWith pos (.builtin id) [ov] (backTo pos (starEach args env)) []) Q E s₁) E s)
  (hs : Slot "list" name id) (ht : typeOf (.builtin id) = pure (.type "method_descriptor")) (h1 : attributeBase o name env (eval o env) = eval o env := by rfl)
  (h2 : ((backTo pos (starEach args env)).all (fun x => !x.1) && (backToKw pos (keywordEach [] env)).all (fun x => x.1.isSome) && decide (args.length + ([] : List Keyword).length + (if ([] : List Keyword).isEmpty then 0 else 1) < 30)) = true := by rfl)
  (h3 : (apos.endLine == pos.line) = true := by rfl) : wpAny (Mo w) A (eval (.Call (.Attribute o name apos) args [] pos) env) Q E s :=
 wpAny_Call_method h1 h2 h3 F.plainAttrs_list hs ht (zM h (fun ov s₁ q => by
  obtain ⟨a, vs, n, rfl, ho, q⟩ := q
  exact ⟨⟨_, ho, rfl⟩, (fun b e => by cases e; exact ⟨_, ho, rfl⟩), q⟩) fun j j z => z)
theorem znj {elts : List Expr} {k : Nat} {t : Nat} {vs : List Value} {Q : Unit → SP} (hh : A.handled = none) (S : St uu ww X vv L l ro rw tl h) (ht : h.get? t = some (zac vs))
  (hn : (assignEach elts env).length = vs.length) (hf : (assignEach elts env).findIdx? (·.1) = none)
  (hq : ∀ h', St uu ww X vv L l ro rw tl h' → wpAny (Mo w) A (assignInOrder ((assignEach elts env).map (·.2)) vs) Q E ⟨h', g, d, tk, os⟩) :
  wpAny (Mo w) A (assign (.Tuple elts k pos) env (.ref t)) Q E ⟨h, g, d, tk, os⟩ :=
 wpAny_assign_Tuple (items := vs.toArray) hh ⟨_, ht, rfl, _, rfl⟩ (by simpa using hn) hf fun h' hx => by simpa using hq h' (S.extFresh hx)
theorem zjv {x y z : Str} {px py pz : Pos} {k : Nat} {t : Nat} {v1 v2 v3 : Value} {Q : Unit → SP} (hh : A.handled = none) (S : St uu ww X vv L l ro rw tl h) (ht : h.get? t = some (zac [v1, v2, v3]))
  (hq : ∀ h', St uu ww X vv L l ro rw tl h' → wpAny (Mo w) A (storeName env x v1) (fun j s₁ => wpAny (Mo w) A (storeName env y v2) (fun j s₁ => wpAny (Mo w) A (storeName env z v3) Q E s₁) E s₁) E ⟨h', g, d, tk, os⟩) :
  wpAny (Mo w) A (assign (.Tuple [.Name x px, .Name y py, .Name z pz] k pos) env (.ref t)) Q E ⟨h, g, d, tk, os⟩ :=
 znj hh S ht rfl rfl fun h' S' => wpAny_assignInOrder_more (wpAny_assign_Name (zM (hq h' S') (fun j j q => wpAny_assignInOrder_more (wpAny_assign_Name (zM q (fun j j q => wpAny_assignInOrder_more (wpAny_assign_Name (zM q (fun j j q => wpAny_assignInOrder_none q) fun j j z => z))) fun j j z => z))) fun j j z => z))
theorem zjw {x y : Str} {px py : Pos} {k : Nat} {t : Nat} {v1 v2 : Value} {Q : Unit → SP} (hh : A.handled = none) (S : St uu ww X vv L l ro rw tl h) (ht : h.get? t = some (zac [v1, v2]))
  (hq : ∀ h', St uu ww X vv L l ro rw tl h' → wpAny (Mo w) A (storeName env x v1) (fun j s₁ => wpAny (Mo w) A (storeName env y v2) Q E s₁) E ⟨h', g, d, tk, os⟩) :
  wpAny (Mo w) A (assign (.Tuple [.Name x px, .Name y py] k pos) env (.ref t)) Q E ⟨h, g, d, tk, os⟩ :=
 znj hh S ht rfl rfl fun h' S' => wpAny_assignInOrder_more (wpAny_assign_Name (zM (hq h' S') (fun j j q => wpAny_assignInOrder_more (wpAny_assign_Name (zM q (fun j j q => wpAny_assignInOrder_none q) fun j j z => z))) fun j j z => z))
theorem a_cons {x : Str} {px : Pos} {ts : List (Value → Sem Unit)} {v : Value} {vs : List Value} {Q : Unit → SP} {s : Shared} {M : Model} (hq : wpAny M A (storeName env x v) (fun j s₁ => wpAny M A (assignInOrder ts vs) Q E s₁) E s) :
  wpAny M A (assignInOrder (assign (.Name x px) env :: ts) (v :: vs)) Q E s := wpAny_assignInOrder_more (wpAny_assign_Name hq)
theorem a_nil {Q : Unit → SP} {s : Shared} {M : Model} (hq : Q () s) : wpAny M A (assignInOrder [] []) Q E s := wpAny_assignInOrder_none hq
def AppS (w : World) (A : Around) (E : VP) (a : Nat) (v : Value) (K : SP) (s : Shared) : Prop := wpAny (Mo w) A (call (.builtin "list.append") [.ref a, v]) (fun r s₃ => r = .none ∧ K s₃) E s
def OnList (s : Shared) (ov : Value) (K : Nat → Prop) : Prop := ∃ (a : Nat) (vs : List Value) (n : Nat), ov = .ref a ∧ s.heap.get? a = some (zaa vs n) ∧ K a
theorem OnList.go {a n : Nat} {vs : List Value} {K : Nat → Prop} (S : St uu ww X vv L l ro rw tl h) (hm : (a, zaa vs n) ∈ ro ∨ (a, zaa vs n) ∈ rw) (hq : K a) : OnList ⟨h, g, d, tk, os⟩ (.ref a) K := ⟨a, vs, n, rfl, S.getR hm, hq⟩
theorem x_append {o e : Expr} {rest : List Stmt} {pos' : Pos} {Q : Flow → SP} {s : Shared}
  (h : wpAny (Mo w) A (eval o env) (fun ov s₁ => OnList s₁ ov fun a => wpAny (Mo w) A (eval e env) (fun v s₂ => AppS w A E a v (fun s₃ => wpAny (Mo w) A (execs rest env) Q E s₃) s₂) E s₁) E s)
  (h1 : attributeBase o (ofString "append") env (eval o env) = eval o env) (h3 : (apos.endLine == pos.line) = true)
  (h4 : starEach [e] env = [(false, eval e env)]) (h5 : interactive env = false) (h6 : swapsWith (.Call (.Attribute o (ofString "append") apos) [e] [] pos) none pos'.line env = pure false) :
  wpAny (Mo w) A (execs (.Expr (.Call (.Attribute o (ofString "append") apos) [e] [] pos) pos' :: rest) env) Q E s := by
 refine ziz (m_list (zM h (fun ov s₁ q => ?_) fun j j z => z) F.slot_list_append F.type_list_append h1 (by rw [h4]; rfl) h3) h5 h6
 obtain ⟨a, vs, n, rfl, ho, q⟩ := q
 refine ⟨a, vs, n, rfl, ho, ?_⟩
 rw [h4]
 refine za3 (Calls.spliced_cons (zM q (fun v s₂ q => Calls.spliced_nil ?_) fun j j z => z)) rfl
 refine zM q (fun r s₃ q => ?_) fun j j z => z
 exact ⟨(fun a e => by rw [q.1] at e; cases e), q.2⟩
theorem AppS.go {a n : Nat} {vs : List Value} {v : Value} {K : SP} (S : St uu ww X vv L l ro rw tl h) {rw' : LO} (hl : Led rw a (zaa vs n) (zaa (vs ++ [v]) (n + 1)) rw') (hs : vs.length ≤ sizeLine) (hq : ∀ h', St uu ww X vv L l ro rw' tl h' → K ⟨h', g, d, tk, os⟩) :
  AppS w A E a v K ⟨h, g, d, tk, os⟩ := zje S hl (fun h' S' => ⟨rfl, hq h' S'⟩) hs
end
theorem bb_len : bootBuiltins (ofString "len") = some (.builtin "len") := by kernel_rfl
theorem bb_sum : bootBuiltins (ofString "sum") = some (.builtin "sum") := by kernel_rfl
theorem bb_iter : bootBuiltins (ofString "iter") = some (.builtin "iter") := by kernel_rfl
theorem bb_str : bootBuiltins (ofString "str") = some (.type "str") := by kernel_rfl
theorem bb_int : bootBuiltins (ofString "int") = some (.type "int") := by kernel_rfl
theorem bb_zip : bootBuiltins (ofString "zip") = some (.type "zip") := by kernel_rfl
theorem bb_range : bootBuiltins (ofString "range") = some (.type "range") := by kernel_rfl
theorem bb_list : bootBuiltins (ofString "list") = some (.type "list") := by kernel_rfl
theorem bb_map : bootBuiltins (ofString "map") = some (.type "map") := by kernel_rfl
theorem bb_super : bootBuiltins (ofString "super") = some (.type "super") := by kernel_rfl
theorem zgf : bootBuiltins (ofString "ValueError") = some (.type "ValueError") := by kernel_rfl
theorem ab_Name {x : Str} {p : Pos} {attr : Str} {env : Env} {t : Sem Value} : attributeBase (.Name x p) attr env t = t := rfl
theorem ab_Attr {o : Expr} {a : Str} {p : Pos} {attr : Str} {env : Env} {t : Sem Value} : attributeBase (.Attribute o a p) attr env t = t := rfl
theorem ab_Const {c : Const} {k : Nat} {p : Pos} {attr : Str} {env : Env} {t : Sem Value} : attributeBase (.Constant c k p) attr env t = t := rfl
theorem ab_Sub {c d : Expr} {p : Pos} {attr : Str} {env : Env} {t : Sem Value} : attributeBase (.Subscript c d p) attr env t = t := rfl
theorem sw_Call {f : Expr} {as : List Expr} {ks : List Keyword} {p : Pos} {t : Option Expr} {n : Nat} {env : Env} : swapsWith (.Call f as ks p) t n env = pure false := rfl
theorem lk_hit {x : Str} {v : Value} {l : LS} : List.lookup x ((x, v) :: l) = some v := by simp [List.lookup]
theorem lk_skip {x y : Str} {u v : Value} {l : LS} (h : (x == y) = false) (t : l.lookup x = some v) : List.lookup x ((y, u) :: l) = some v := by rw [List.lookup_cons, h]; exact t
section
inductive EndWh (uu ww : Heap) (X : List Nat) (vv : List Env) (L : Nat) (ro : LO) (g : Array GenState) (d : Drawn) (os : OsState) (P : CT) (m : Nat) : SP where
 | mk {h' tk' l' rw' tl' m'} : m' < m → P m' l' rw' tl' → St uu ww X vv L l' ro rw' tl' h' → EndWh uu ww X vv L ro g d os P m ⟨h', g, d, tk', os⟩
inductive WhI (uu ww : Heap) (X : List Nat) (vv : List Env) (L : Nat) (ro : LO) (g : Array GenState) (d : Drawn) (os : OsState) (P : CT) (m : Nat) : SP where
 | mk {h' tk' l' rw' tl'} : P m l' rw' tl' → St uu ww X vv L l' ro rw' tl' h' → WhI uu ww X vv L ro g d os P m ⟨h', g, d, tk', os⟩
def FlWh (W : SP) (B : SP) (Q : Flow → SP) (f : Flow) (s : Shared) : Prop := match f with
 | .next | .cont => W s
 | .brk => B s
 | .ret v => Q (.ret v) s
theorem x_while {test : Expr} {body rest : List Stmt} {Q : Flow → SP} (P : CT) (m : Nat)
  (S : St uu ww X vv L l ro rw tl h) (h0 : P m l rw tl)
  (turn : ∀ m l rw tl h tk, P m l rw tl → St uu ww X vv L l ro rw tl h → wpAny (Mo w) A (PySem.isTrue test env (eval test env)) (fun b s₂ => if b = true then
    wpAny (Mo w) A (execs body env) (FlWh (EndWh uu ww X vv L ro g d os P m) (wpAny (Mo w) A (execs rest env) Q E) Q) (fun j j => False) s₂
    else wpAny (Mo w) A (execs rest env) Q E s₂) (fun j j => False) ⟨h, g, d, tk, os⟩) :
  wpAny (Mo w) A (execs (.While test body [] pos :: rest) env) Q E ⟨h, g, d, tk, os⟩ := by
 refine wpAny_execs_cons (wpAny_While ?_)
 refine codeAny_whileLoop (WhI uu ww X vv L ro g d os P) ?_ m (.mk h0 S)
 intro m s hI
 cases hI with
 | mk hP S =>
 refine zM (turn m _ _ _ _ _ hP S) (fun b s₂ q => ?_) fun j j z => z.elim
 cases b with
 | true =>
  refine zM q (fun f s₃ q => ?_) fun j j z => z.elim
  cases f with
  | next | cont =>
   cases (show EndWh _ _ _ _ _ _ _ _ _ _ _ _ from q) with
   | mk a1 a2 a3 => exact ⟨_, a1, .mk a2 a3⟩
  | brk => exact q
  | ret v => exact q
 | false =>
  exact wpAny_execs_nil q
theorem zg7 {x : Str} {n : Int} {t u : Nat} (hm : MulOk x n) (hq : ∀ t' tk', Q (.str (Txt.mul x n) t') ⟨h, g, d, tk', os⟩) : wpAny (Mo w) A (binaryOp .Mult (.str x t) (.int n u)) Q E ⟨h, g, d, tk, os⟩ := SB.mul hm hq
theorem concatR {a b n m : Nat} {us vs : List Value} (S : St uu ww X vv L l ro rw tl h) (ha : (a, zaa us n) ∈ ro ∨ (a, zaa us n) ∈ rw) (hb : (b, zaa vs m) ∈ ro ∨ (b, zaa vs m) ∈ rw) (hs : us.length + vs.length ≤ sizeLine)
  (hq : ∀ (c : Nat) h', St uu ww X vv L l ((c, zaa (us ++ vs)) :: ro) rw tl h' → Q (.ref c) ⟨h', g, d, tk, os⟩) : wpAny (Mo w) A (binaryOp .Add (.ref a) (.ref b)) Q E ⟨h, g, d, tk, os⟩ := by
 have e : us.toArray ++ vs.toArray = (us ++ vs).toArray := by simp
 have ho := S.getR ha
 have ho2 := S.getR hb
 refine concat_meets ⟨_, ho, rfl⟩ ⟨_, ho2, rfl⟩ noFill_list_add seq_list_add PySem.F.slot_list_add PySem.F.entry_list_add (PySem.F.args_list_add_2 _ _) (list_addW a b us.toArray vs.toArray n m none none #[] #[] (by simpa using hs)) ⟨ho, ho2, ?_⟩
 rw [e]
 exact hq _ _ (S.allocR _ rfl)
theorem zmx {a b n m : Nat} {us vs : List Value} (S : St uu ww X vv L l ro rw tl h) (ha : (a, zaa us n) ∈ ro ∨ (a, zaa us n) ∈ rw) (hb : (b, zaa vs m) ∈ ro ∨ (b, zaa vs m) ∈ rw) (hs : us.length + vs.length ≤ sizeLine)
  (hq : ∀ (c : Nat) h', St uu ww X vv L l ro ((c, zaa (us ++ vs)) :: rw) tl h' → Q (.ref c) ⟨h', g, d, tk, os⟩) : wpAny (Mo w) A (binaryOp .Add (.ref a) (.ref b)) Q E ⟨h, g, d, tk, os⟩ := by
 have e : us.toArray ++ vs.toArray = (us ++ vs).toArray := by simp
 have ho := S.getR ha
 have ho2 := S.getR hb
 refine concat_meets ⟨_, ho, rfl⟩ ⟨_, ho2, rfl⟩ noFill_list_add seq_list_add PySem.F.slot_list_add PySem.F.entry_list_add (PySem.F.args_list_add_2 _ _) (list_addW a b us.toArray vs.toArray n m none none #[] #[] (by simpa using hs)) ⟨ho, ho2, ?_⟩
 rw [e]
 exact hq _ _ (S.allocW _ rfl (clsNe (by decide)))
theorem x_ifJ {M : Model} {test : Expr} {body orelse rest : List Stmt} {Q : Flow → SP} {s : Shared} (J : SP)
  (h : wpAny M A (PySem.isTrue test env (eval test env)) (fun b s₂ => if b = true then wpAny M A (execs body env) (fun f s' => f = .next ∧ J s') E s₂ else wpAny M A (execs orelse env) (fun f s' => f = .next ∧ J s') E s₂) E s)
  (hr : ∀ s, J s → wpAny M A (execs rest env) Q E s) : wpAny M A (execs (.If test body orelse pos :: rest) env) Q E s := by
 refine x_if (zM h (fun b s₂ q => ?_) fun j j z => z)
 cases b with
 | true => rw [zH rfl] at q ⊢; exact zM q (fun f s' q => by obtain ⟨rfl, q⟩ := q; exact hr _ q) fun j j z => z
 | false => rw [zG zF] at q ⊢; exact zM q (fun f s' q => by obtain ⟨rfl, q⟩ := q; exact hr _ q) fun j j z => z
theorem x_four {x y z u : Str} {px py pz pu pos' pos'' : Pos} {k k' : Nat} {e1 e2 e3 e4 : Expr} {rest : List Stmt} {Q : Flow → SP} {s : Shared} (hh : A.handled = none)
  (h : wpAny (Mo w) A (eval e1 env) (fun v1 s₁ => wpAny (Mo w) A (eval e2 env) (fun v2 s₂ => wpAny (Mo w) A (eval e3 env) (fun v3 s₃ => wpAny (Mo w) A (eval e4 env) (fun v4 s₃ => ExtS s₃ fun s₃ =>
   wpAny (Mo w) A (storeName env x v1) (fun j s₄ => wpAny (Mo w) A (storeName env y v2) (fun j s₄ => wpAny (Mo w) A (storeName env z v3) (fun j s₄ => wpAny (Mo w) A (storeName env u v4) (fun j s₄ => wpAny (Mo w) A (execs rest env) Q E s₄) E s₄) E s₄) E s₄) E s₃) E s₃) E s₂) E s₁) E s)
  (h1 : swapsWithSole [.Tuple [.Name x px, .Name y py, .Name z pz, .Name u pu] k pos'] (.Tuple [e1, e2, e3, e4] k' pos'') pos.line env = pure false := by rfl)
  (h2 : swappedStores [.Tuple [.Name x px, .Name y py, .Name z pz, .Name u pu] k pos'] (.Tuple [e1, e2, e3, e4] k' pos'') env = pure none := by rfl)
  (h3 : starEach [e1, e2, e3, e4] env = [(false, eval e1 env), (false, eval e2 env), (false, eval e3 env), (false, eval e4 env)] := by rfl) :
  wpAny (Mo w) A (execs (.Assign [.Tuple [.Name x px, .Name y py, .Name z pz, .Name u pu] k pos'] (.Tuple [e1, e2, e3, e4] k' pos'') pos :: rest) env) Q E s := by
 refine zfh (zdl ?_) h1 h2
 rw [h3]
 refine Calls.spliced_cons (zM h (fun v1 s₁ q => Calls.spliced_cons (zM q (fun v2 s₂ q => Calls.spliced_cons (zM q (fun v3 s₃ q => Calls.spliced_cons (zM q (fun v4 s₃ q => Calls.spliced_nil ?_) fun j j z => z)) fun j j z => z)) fun j j z => z)) fun j j z => z)
 refine wpAny_newTuple ?_
 refine wpAny_assign_Tuple (items := #[v1, v2, v3, v4]) hh ⟨_, zL _ rfl, rfl, _, rfl⟩ rfl rfl fun h' hx => ?_
 refine wpAny_assignInOrder_more (wpAny_assign_Name (zM (q h' fun b o e => ?_) (fun j s₃ q => wpAny_assignInOrder_more (wpAny_assign_Name (zM q (fun j s₄ q => wpAny_assignInOrder_more (wpAny_assign_Name (zM q (fun j s₄ q => wpAny_assignInOrder_more (wpAny_assign_Name (zM q (fun j s₄ q => wpAny_assignInOrder_none q) fun j j z => z))) fun j j z => z))) fun j j z => z))) fun j j z => z))
 refine hx b o ?_ (zQ _ e)
 have h1 : b < s₃.heap.objs.size := ltS e
 have h2 : b ≠ (s₃.heap.push { cls := .type "tuple", data := .seq [v1, v2, v3, v4].toArray }).objs.size := by rw [Heap.size_push]; exact om29 h1
 exact h2
end
theorem iteT {a b : Prop} (h : a) : if true = true then a else b := by rw [zH rfl]; exact h
theorem iteF {a b : Prop} (h : b) : if false = true then a else b := by rw [zG zF]; exact h
section
theorem All2.snoc {α β : Type} {R : α → β → Prop} {l : List α} {m : List β} {a : α} {b : β} (x : All2 R l m) (h : R a b) : All2 R (l ++ [a]) (m ++ [b]) := by
 induction x with
 | nil => exact .cons h .nil
 | cons y _ ih => exact .cons y ih
theorem All2.app {α β : Type} {R : α → β → Prop} {l l' : List α} {m m' : List β} (x : All2 R l m) (y : All2 R l' m') : All2 R (l ++ l') (m ++ m') := by
 induction x with
 | nil => exact y
 | cons z _ ih => exact .cons z ih
theorem St.growTl {vs : List Value} {xss : List (List Scal)} (S : St uu ww X vv L l ro rw ((vs, xss) :: tl) h) {t : Nat} {us : List Value} {xs : List Scal} (hm : (t, zac us) ∈ ro) (hx : All2 Sc us xs) :
  St uu ww X vv L l ro rw ((vs ++ [.ref t], xss ++ [xs]) :: tl) h :=
 S.setTlG (fun p hp => (S.hrw p hp).2.2.2.2.2.imp id fun z => ⟨fun q hq hin => by
   rcases zC hq with rfl | hq
   ·rcases zD hin with hin | hin
    ·exact z.1 _ (.head _) hin
    ·have := zS hin
     injection this with e
     exact S.sep _ hm _ hp e.symm
   ·exact z.1 q (.tail _ hq) hin, z.2⟩) fun q hq => by
  rcases zC hq with rfl | hq
  ·exact (S.htl _ (.head _)).snoc ⟨t, us, rfl, (S.hro _ hm).1, hx⟩
  ·exact S.htl q (.tail _ hq)
theorem zj7 {a b : Int} {t u : Nat} (hb : b ≠ 0) (hs : b.natAbs < 2 ^ 30) (hq : Q (.int (a.fdiv b) tk) ⟨h, g, d, tk + 1, os⟩) : wpAny (Mo w) A (binaryOp .FloorDiv (.int a t) (.int b u)) Q E ⟨h, g, d, tk, os⟩ := by
 refine PyProof.Rows.floordiv_int hb hq (.inl ?_)
 unfold Builtin.divisionGoesByPylong
 have : b.natAbs.log2 < 30 := by
  rw [Nat.log2_lt (by exact om30 hb)]; exact hs
 have e : (if b == 0 then 0 else b.natAbs.log2 / 30 + 1) ≤ 300 := by
  split <;> (first | exact om31 | exact om32 this)
 simp only [Bool.and_eq_false_iff, decide_eq_false_iff_not]
 exact .inl (by exact om33 e)
theorem Gd.noDigits (G : Gd w uu) (I : Inv uu h) : h.NoDigits := by
 obtain ⟨mc, hn, e⟩ := G.nodigits
 exact ⟨mc, zd8 I hn not2, e⟩
theorem zdr {a : Int} {t : Nat} (hh : A.handled = none) (G : Gd w uu) (I : Inv uu h) (hs : a.natAbs < 10 ^ 9) (hq : Q (.str (ofString (toString a)) tk) ⟨h, g, d, tk + 1, os⟩) : wpAny (Mo w) A (call (.type "str") [.int a t]) Q E ⟨h, g, d, tk, os⟩ := by
 refine str_of_int_or hh (G.noDigits I) (fun j => hq) fun hc => ?_
 exfalso
 omega
theorem o_itemT {value slice : Expr} {t : Nat} {us : List Value} {i : Int} {u j : Nat} {v : Value} (S : St uu ww X vv L l ro rw tl h) (hm : (t, zac us) ∈ ro) (hi : i = j) (hv : us[j]? = some v) (hs : us.length < 1000) (hq : Q v ⟨h, g, d, tk, os⟩)
  (hsub : subscripted slice false (.ref t) (.int i u) = operate [.ref t, .int i u] (getItem (.ref t) (.int i u)) := by rfl) :
  wpAny (Mo w) A (subscriptTail value slice (.ref t) (.int i u)) Q E ⟨h, g, d, tk, os⟩ := by
 have hlt : j < us.length := (List.getElem?_eq_some_iff.mp hv).1
 refine item_tupleT ⟨_, (S.hro _ hm).1, rfl, _, rfl⟩ (by exact om34 hi) (by exact om35 hi hs hlt) (j := j) ?_ hv hq hsub
 subst hi
 unfold seqIndex?
 simp
 omega
end
noncomputable def ze5 : List String := ["enumerate", "zip", "dict_itemiterator", "dict_reverseitemiterator", "odict_iterator", "itertools.zip_longest", "itertools.pairwise"]
structure Src (w : World) (it n : Nat) (IsAt : Nat → Obj → Prop) (V : Nat → Value → Prop) (ctx : Heap → Prop) : Prop where
 item : ∀ (A : Around) (E : VP) (Q : Option Value → SP) (h : Heap) g d tk os i o, ctx h → h.get? it = some o → IsAt i o → i < n →
  (∀ v h' o' tk', V i v → h'.get? it = some o' → IsAt (i + 1) o' → Heap.SameBut it h h' → Q (some v) ⟨h', g, d, tk', os⟩) → wpAny (Mo w) A (pyNext (.ref it)) Q E ⟨h, g, d, tk, os⟩
 stop : ∀ (A : Around) (E : VP) (Q : Option Value → SP) (h : Heap) g d tk os o, A.handled = none → ctx h → h.get? it = some o → IsAt n o →
  (∀ h', Heap.ExtBut it h h' → Q none ⟨h', g, d, tk, os⟩) → wpAny (Mo w) A (pyNext (.ref it)) Q E ⟨h, g, d, tk, os⟩
 kind : ∀ i o, IsAt i o → ∃ T vs, o.cls = .type T ∧ o.data = .fields vs ∧ ze5.contains T = false ∧ T ≠ "tuple"
section
theorem zec {target : Expr} {v : Value} {it : Nat} {io : Obj} {T : String} {vs : Array Value} {Q : Unit → SP} {s : Shared} (ho : s.heap.get? it = some io) (hc : io.cls = .type T) (hd : io.data = .fields vs) (hn : ze5.contains T = false) (hq : Q () s) : wpAny (Mo w) A (letOwnedTupleGo target (.ref it) v) Q E s := by
 have key : ∀ vr : Nat, wpAny (Mo w) A (do
   let o ← load it
   match o.cls, o.data with
   | .type n, .fields vs =>
    if ["enumerate", "zip", "dict_itemiterator", "dict_reverseitemiterator", "odict_iterator", "itertools.zip_longest", "itertools.pairwise"].contains n && vs[0]? == some (rawInt vr) then
     rule "for.unpacks-the-owned-tuple"
     updateField it 0 .none
   | _, _ => pure ()) Q E s := by
  intro vr
  refine zB (wpAny_load ho ?_)
  rw [hc, hd]
  dsimp only
  have hn' : (["enumerate", "zip", "dict_itemiterator", "dict_reverseitemiterator", "odict_iterator", "itertools.zip_longest", "itertools.pairwise"].contains T) = false := hn
  rw [zG (by rw [hn']; simp)]
  exact zP hq
 cases target with
 | Tuple | List => cases v with
  | ref => exact key _
  | _ => exact zP hq
 | _ => exact zP hq
def IsSI (x : Str) (t i : Nat) (o : Obj) : Prop := o.cls = .type "str_ascii_iterator" ∧ o.data = .fields #[.str x t, .int i 0]
theorem zky {it : Nat} {x : Str} {t : Nat} : Src w it x.cps.size (IsSI x t) (fun i v => ∃ c t', x.cps[i]? = some c ∧ v = .str ⟨#[c]⟩ t') (fun j => True) := by
 refine ⟨fun A E Q h g d tk os i o j ho hi hlt hq => ?_, fun A E Q h g d tk os o hh j ho hi hq => ?_, fun i o hi => ⟨_, _, hi.1, hi.2, by decide, by decide⟩⟩
 ·obtain ⟨c, hc⟩ : ∃ c, x.cps[i]? = some c := ⟨x.cps[i], Array.getElem?_eq_getElem hlt⟩
  refine wpAny_pyNext_ascii_item (it := it) (x := x) (t := t) (i := i) ⟨o, ho, hi.1, hi.2⟩ hc fun h' hi' hs => ?_
  obtain ⟨o', ho', c1, c2⟩ := hi'
  exact hq _ h' o' _ ⟨c, _, hc, rfl⟩ ho' ⟨c1, c2⟩ hs
 ·refine wpAny_pyNext_ascii_end (it := it) (x := x) (t := t) (i := x.cps.size) hh ⟨o, ho, hi.1, hi.2⟩ (by simp) hq
theorem zlx {x : Str} {t : Nat} (S : St uu ww X vv L l ro rw tl h) (ha : (x.cps.all fun c => decide (c < 128)) = true)
  (hq : ∀ it h' io, IsSI x t 0 io → h.get? it = none → St uu ww X vv L l ro ((it, io) :: rw) tl h' → Q (.ref it) ⟨h', g, d, tk, os⟩) : wpAny (Mo w) A (pyIter (.str x t)) Q E ⟨h, g, d, tk, os⟩ :=
 wpAny_pyIter_ascii ha (hq _ _ { cls := .type "str_ascii_iterator", data := .fields #[.str x t, .int 0 0] } ⟨rfl, rfl⟩ getN (S.allocW _ rfl (clsNe (by decide))))
def IsTI (a i : Nat) (o : Obj) : Prop := o.cls = .type "tuple_iterator" ∧ o.data = .fields #[.ref a, .int i 0]
theorem zkx {it a : Nat} {vs : List Value} : Src w it vs.length (IsTI a) (fun i v => vs[i]? = some v) (fun h => h.get? a = some (zac vs)) := by
 refine ⟨fun A E Q h g d tk os i o hx ho hi hlt hq => ?_, fun A E Q h g d tk os o hh hx ho hi hq => ?_, fun i o hi => ⟨_, _, hi.1, hi.2, by decide, by decide⟩⟩
 ·have hv : vs[i]? = some vs[i] := zI hlt
  refine wpAny_pyNext_tuple_item (it := it) (t := a) (i := i) (items := vs.toArray) ⟨o, ho, hi.1, hi.2⟩ ⟨_, hx, rfl, _, rfl⟩ (x := vs[i]) (by simpa using hv) fun h' hi' hs => ?_
  obtain ⟨o', ho', c1, c2⟩ := hi'
  exact hq _ h' o' _ hv ho' ⟨c1, c2⟩ hs
 ·exact wpAny_pyNext_tuple_end (it := it) (t := a) (i := vs.length) (items := vs.toArray) hh ⟨o, ho, hi.1, hi.2⟩ ⟨_, hx, rfl, _, rfl⟩ (by simp) hq
theorem zh4 {it a n : Nat} {vs : List Value} : Src w it vs.length (IsIt a) (fun i v => vs[i]? = some v) (fun h => h.get? a = some (zaa vs n)) := by
 refine ⟨fun A E Q h g d tk os i o hx ho hi hlt hq => ?_, fun A E Q h g d tk os o hh hx ho hi hq => ?_, fun i o hi => ⟨_, _, hi.1, hi.2, by decide, by decide⟩⟩
 ·have hv : vs[i]? = some vs[i] := zI hlt
  refine wpAny_pyNext_list_item (it := it) (l := a) (i := i) (items := vs.toArray) ⟨o, ho, hi.1, hi.2⟩ ⟨_, hx, rfl, _, rfl⟩ (x := vs[i]) (by simpa using hv) fun h' hi' hs => ?_
  obtain ⟨o', ho', c1, c2⟩ := hi'
  exact hq _ h' o' _ hv ho' ⟨c1, c2⟩ hs
 ·exact wpAny_pyNext_list_end (it := it) (l := a) (i := vs.length) (items := vs.toArray) hh ⟨o, ho, hi.1, hi.2⟩ ⟨_, hx, rfl, _, rfl⟩ (by simp) hq
theorem zlw {a : Nat} {vs : List Value} (S : St uu ww X vv L l ro rw tl h) (hm : (a, zac vs) ∈ ro)
  (hq : ∀ it h' io, IsTI a 0 io → St uu ww X vv L l ro ((it, io) :: rw) tl h' → Q (.ref it) ⟨h', g, d, tk, os⟩) : wpAny (Mo w) A (pyIter (.ref a)) Q E ⟨h, g, d, tk, os⟩ :=
 wpAny_pyIter_tuple (items := vs.toArray) ⟨_, (S.hro _ hm).1, rfl, _, rfl⟩ (hq _ _ { cls := .type "tuple_iterator", data := .fields #[.ref a, .int 0 0] } ⟨rfl, rfl⟩ (S.allocW _ rfl (clsNe (by decide))))
end
section
theorem e_chain {M : Model} {s : Shared} {e1 e2 e3 : Expr} {o1 o2 : CmpOp} (hq : wpAny M A (eval e1 env) (fun v1 s₁ => wpAny M A (eval e2 env) (fun v2 s₂ => wpAny M A (compareOp o1 v1 v2) (fun c s₃ => wpAny M A (truthy c) (fun b s₄ => if b = true then
   wpAny M A (eval e3 env) (fun v3 s₅ => wpAny M A (compareOp o2 v2 v3) Q E s₅) E s₄ else Q c s₄) E s₃) E s₂) E s₁) E s) (hb : lastMarks [o1, o2] [e2, e3] = false) :
  wpAny M A (eval (.Compare e1 [o1, o2] [e2, e3] pos) env) Q E s := by
 show wpAny M A (do compareChain pos (← eval e1 env) [o1, o2] (markedEach [o1, o2] [e2, e3] (evalEach [e2, e3] env))) Q E s
 have hm : markedEach [o1, o2] [e2, e3] (evalEach [e2, e3] env) = [eval e2 env, eval e3 env] := by
  show [eval e2 env, markedBehindIn o2 e3 (eval e3 env)] = _
  have : behindInMarks o2 e3 = false := hb
  unfold markedBehindIn
  rw [this]
 refine hm ▸ ?_
 refine zB (zM hq (fun v1 s₁ q => ?_) fun j j z => z)
 refine zB (wpAny_holding (zM q (fun v2 s₂ q => ?_) fun j j z => z))
 refine zB (wpAny_standAt (zB (wpAny_holding (zM q (fun c s₃ q => ?_) fun j j z => z))))
 refine zB (wpAny_release ?_)
 refine zB (wpAny_holding (zM q (fun b s₄ q => ?_) fun j j z => z))
 cases b with
 | true =>
  refine zB (wpAny_holding (zM q (fun v3 s₅ q => ?_) fun j j z => z))
  exact zB (wpAny_standAt (wpAny_operate' q))
 | false =>
  exact zP q
theorem o_extend {a b n m : Nat} {us vs : List Value} (S : St uu ww X vv L l ro rw tl h) {rw' : LO} (hl : Led rw a (zaa us n) (zaa (us ++ vs) (n + 1)) rw') (hb : (b, zaa vs m) ∈ ro ∨ (b, zaa vs m) ∈ rw) (hne : vs ≠ []) (hs : us.length + vs.length ≤ 1000000)
  (hq : ∀ h', St uu ww X vv L l ro rw' tl h' → Q .none ⟨h', g, d, tk, os⟩) : wpAny (Mo w) A (call (.builtin "list.extend") [.ref a, .ref b]) Q E ⟨h, g, d, tk, os⟩ := by
 have ho := S.getR (.inr hl.mem)
 have ho2 := S.getR hb
 refine call_meets PySem.F.slot_list_extend ⟨_, ho, rfl⟩ PySem.F.entry_list_extend (PySem.F.args_list_extend_2 _ _) (PySem.AutoSeq1.list_extend_list_list_0 a us.toArray n b vs.toArray m ?_ (by simp; exact om3 hs) (by simp; exact om4 hs)) ⟨ho, ho2, ?_⟩
 ·unfold Builtin.List.listTooLong
  simp
  intro _
  exact om5 hs
 ·refine hq _ (S.chgS hl (.update ..) ?_ (clsNe (by decide)))
  have : (Obj.mapSeq (fun x => x ++ vs.toArray) (zaa us n)) = zaa (us ++ vs) (n + 1) := by
   have hv : vs.length ≠ 0 := by simpa using hne
   simp only [Obj.mapSeq, zaa]
   congr 2
   ·simp
   ·simp [hv]
  refine this ▸ ?_
  exact Heap.get?_update_self _ ho rfl
theorem x_extend {o e : Expr} {rest : List Stmt} {pos' : Pos} {Q : Flow → SP} {s : Shared}
  (h : wpAny (Mo w) A (eval o env) (fun ov s₁ => OnList s₁ ov fun a => wpAny (Mo w) A (eval e env) (fun v s₂ => wpAny (Mo w) A (call (.builtin "list.extend") [.ref a, v]) (fun r s₃ => r = .none ∧ wpAny (Mo w) A (execs rest env) Q E s₃) E s₂) E s₁) E s)
  (h1 : attributeBase o (ofString "extend") env (eval o env) = eval o env) (h3 : (apos.endLine == pos.line) = true)
  (h4 : starEach [e] env = [(false, eval e env)]) (h5 : interactive env = false) (h6 : swapsWith (.Call (.Attribute o (ofString "extend") apos) [e] [] pos) none pos'.line env = pure false) :
  wpAny (Mo w) A (execs (.Expr (.Call (.Attribute o (ofString "extend") apos) [e] [] pos) pos' :: rest) env) Q E s := by
 refine ziz (m_list (zM h (fun ov s₁ q => ?_) fun j j z => z) F.slot_list_extend F.type_list_extend h1 (by rw [h4]; rfl) h3) h5 h6
 obtain ⟨a, vs, n, qz⟩ := q
 obtain rfl := qz.1
 have ho := qz.2.1
 have q := qz.2.2
 refine ⟨a, vs, n, rfl, ho, ?_⟩
 rw [h4]
 refine za3 (Calls.spliced_cons (zM q (fun v s₂ q => Calls.spliced_nil ?_) fun j j z => z)) rfl
 refine zM q (fun r s₃ q => ?_) fun j j z => z
 exact ⟨(fun a e => by rw [q.1] at e; cases e), q.2⟩
theorem o_itemS {value slice : Expr} {x : Str} {t u : Nat} {c : Nat} (hc : x.cps[0]? = some c) (hs : x.length ≤ 1000000) (hq : Q (.str ⟨#[c]⟩ tk) ⟨h, g, d, tk + 1, os⟩)
  (h1 : subscripted slice false (.str x t) (.int 0 u) = operate [.str x t, .int 0 u] (getItem (.str x t) (.int 0 u)) := by rfl) (h2 : ∀ r, letTemporaryGo value (.str x t) r = pure () := by intro _; rfl) :
  wpAny (Mo w) A (subscriptTail value slice (.str x t) (.int 0 u)) Q E ⟨h, g, d, tk, os⟩ := by
 have hlt : 0 < x.length := (Array.getElem?_eq_some_iff.mp hc).1
 refine item_str (by decide) (by exact om6) (by exact om7 hlt) (fun j => ?_) h1 h2
 have : Txt.item x 0 = ⟨#[c]⟩ := by
  have hi : seqIndex? 0 x.length = some 0 := by
   unfold seqIndex?
   simp
   exact om8 hlt
  unfold Txt.item Txt.charAt
  refine hi ▸ ?_
  show (⟨#[(x.cps[0]?).getD 0]⟩ : Str) = _
  rw [hc]; rfl
 exact this ▸ hq
theorem o_index {x y : Str} {t u : Nat} {k : Int} (hh : A.handled = none) (hk : Txt.find x y = k) (h0 : 0 ≤ k) (hq : Q (.int k tk) ⟨h, g, d, tk + 1, os⟩) : wpAny (Mo w) A (call (.builtin "str.index") [.str x t, .str y u]) Q E ⟨h, g, d, tk, os⟩ := by
 refine index_or hh (fun e j => by omega) fun j j => ?_
 exact hk ▸ hq
end
section
theorem St.enter (S : St uu ww X vv L l ro rw tl h) {h' : Heap} {C : Nat} {oL : Obj} (hL : h.get? L = some oL) (k : ∀ (b : Nat) o, h.get? b = some o → h'.get? b = some o) (hC : h.get? C = none) (hn : h'.Ns C (fun x => List.lookup x ([] : LS))) :
  St uu ww X vv C [] ((L, oL) :: ro) rw tl h' := by
 obtain ⟨n1, qz⟩ := S.fresh hC
 have n2 := qz.1
 have n3 := qz.2.1
 have n4 := qz.2.2.1
 have n5 := qz.2.2.2
 have S' := S.ext k
 have ht : ¬ za9 L := fun ht => by obtain ⟨o, e⟩ := S.inv.tabLow ht; rw [S.baseL] at e; cases e
 have old : ∀ b : Nat, (∃ o, h.get? b = some o) → b ≠ C := by rintro b ⟨o, e⟩ rfl; rw [hC] at e; cases e
 refine ⟨S'.inv, S'.fr, S'.keep, n5, S.low, S.based, hn, ?_, ?_, S.nd, ?_, S'.htl⟩
 ·intro p hp
  rcases zC hp with rfl | hp
  ·exact ⟨k _ _ hL, old _ ⟨_, hL⟩, fun hb => S.neL hb rfl, ht⟩
  ·obtain ⟨a1, a2, a3⟩ := S'.hro p hp
   exact ⟨a1, old _ ⟨_, (S.hro p hp).1⟩, a3⟩
 ·intro p hp
  have qz := S'.hrw p hp
  have a1 := qz.1
  have a2 := qz.2.1
  have a3 := qz.2.2
  exact ⟨a1, old _ ⟨_, (S.hrw p hp).1⟩, a3⟩
 ·intro p hp q hq
  rcases zC hp with rfl | hp
  ·exact Ne.symm (S.hrw q hq).2.1
  ·exact S.sep p hp q hq
theorem St.leave {h₁ h' : Heap} {rw' : LO} {tl' : LT} {l' : LS} {C : Nat} {oL : Obj} (S : St uu ww X vv L l ro rw tl h) (hL : h.get? L = some oL)
  (S' : St uu ww X vv C l' ((L, oL) :: ro) rw' tl' h₁) (hs : Heap.SameBut C h₁ h') : St uu ww X vv L l ro rw' tl' h' := by
 have cB := S'.baseL
 obtain ⟨oC, esC, epC, hgC, hdC, _⟩ := S'.ns
 have mv : ∀ (b : Nat) o, h₁.get? b = some o → b ≠ C → h'.get? b = some o := fun b o e hb => (hs.2 b hb).trans e
 have tupK : ∀ (b : Nat) o, h₁.get? b = some o → o.cls = .type "tuple" → (∃ vs n, o.data = .seq vs n) → h'.get? b = some o := by
  intro b o e hc ⟨vs, n, hd⟩
  refine mv b o e fun q => ?_
  subst q; rw [hgC] at e; cases e; rw [hdC] at hd; cases hd
 obtain ⟨l1, l2, qz⟩ := S'.hro _ (.head _)
 have l3 := qz.1
 have l4 := qz.2
 obtain ⟨oL', esL, epL, hgL, hdL, hz⟩ := S.ns
 rw [hL] at hgL; cases hgL
 refine ⟨S'.inv.keeps fun b o e ⟨o', hb⟩ => mv b o e (fun q => by rw [q, cB] at hb; cases hb), ?_, ?_, S.above, S.low, S.based, ⟨oL, esL, epL, mv _ _ l1 l2, hdL, hz⟩, ?_, ?_, S'.nd, ?_, ?_⟩
 ·exact S'.fr.keeps fun b o hb e => ⟨o.slots, mv b o e (S'.neL hb)⟩
 ·have nC : ∀ (b : Nat) o, ww.get? b = some o → b ≠ C := by rintro b o e rfl; rw [S'.above] at e; cases e
  refine ⟨fun b o e p q r => mv b o (S'.keep.obj b o e p q r) (nC b o e), fun b o e p => ?_, fun b o e p q => tupK b o (S'.keep.tup b o e p q) p q, fun b o e => ?_⟩
  ·obtain ⟨sl, e'⟩ := S'.keep.frm b o e p
   exact ⟨sl, mv _ _ e' (nC b o e)⟩
  ·obtain ⟨o', e'⟩ := S'.keep.there b o e
   exact ⟨o', mv _ _ e' (nC b o e)⟩
 ·intro p hp
  obtain ⟨a1, qz⟩ := S'.hro p (.tail _ hp)
  have a2 := qz.1
  have a3 := qz.2.1
  have a4 := qz.2.2
  exact ⟨mv _ _ a1 a2, (S.hro p hp).2.1, a3, a4⟩
 ·intro p hp
  obtain ⟨a1, qz⟩ := S'.hrw p hp
  have a2 := qz.1
  have a3 := qz.2
  exact ⟨mv _ _ a1 a2, Ne.symm (S'.sep _ (.head _) p hp), a3⟩
 ·intro p hp q hq
  exact S'.sep p (.tail _ hp) q hq
 ·intro t ht
  exact (S'.htl t ht).move tupK
structure ItN (w : World) (uu ww : Heap) (X : List Nat) (vv : List Env) (ro : LO) (target : Expr) (it : Value) (n : Nat) (Its : Nat → LO → Prop) (V : Nat → Value → LO → Prop) : Prop where
 item : ∀ (A : Around) (E : VP) (Q : VP) L l rw tl h g d tk os i its, St uu ww X vv L l ro (its ++ rw) tl h → Its i its → i < n →
  (∀ v new its' h' tk', V i v new → Its (i + 1) its' → St uu ww X vv L l (new ++ ro) (its' ++ rw) tl h' → Q v ⟨h', g, d, tk', os⟩) →
  wpAny (Mo w) A (pyNext it) (fun r s₁ => ∃ v, r = some v ∧ wpAny (Mo w) A (letOwnedTupleGo target it v) (fun _ s₂ => Q v s₂) E s₁) E ⟨h, g, d, tk, os⟩
 stop : ∀ (A : Around) (E : VP) (Q : Option Value → SP) L l rw tl h g d tk os its, A.handled = none → St uu ww X vv L l ro (its ++ rw) tl h → Its n its →
  (∀ h', St uu ww X vv L l ro rw tl h' → Q none ⟨h', g, d, tk, os⟩) → wpAny (Mo w) A (pyNext it) Q E ⟨h, g, d, tk, os⟩
structure Itr (w : World) (uu ww : Heap) (X : List Nat) (vv : List Env) (ro : LO) (target : Expr) (it : Value) (n : Nat) (Its : Nat → LO → Prop) (V : Nat → Value → LO → Prop) : Prop extends ItN w uu ww X vv ro target it n Its V where
 self : ∀ (A : Around) (E : VP) (Q : VP) L l rw tl h g d tk os i its, St uu ww X vv L l ro (its ++ rw) tl h → Its i its → Q it ⟨h, g, d, tk, os⟩ → wpAny (Mo w) A (pyIter it) Q E ⟨h, g, d, tk, os⟩
theorem zb4 {cenv : Env} {Q : Bool → SP} {s : Shared} (h : Q true s) :
  wpAny (Mo w) A (forIn ([] : List Expr) true fun c r => if r = true then do let ok ← PySem.isTrue c cenv (eval c cenv); pure (ForInStep.yield ok) else pure (ForInStep.yield r)) Q E s := wpAny_tests_nil h
inductive CpE (uu ww : Heap) (X : List Nat) (vv : List Env) (C : Nat) (ro rw : LO) (tl : LT) (g : Array GenState) (d : Drawn) (os : OsState) (p : Prop) : SP where
 | mk {h' tk' l'} : p → St uu ww X vv C l' ro rw tl h' → CpE uu ww X vv C ro rw tl g d os p ⟨h', g, d, tk', os⟩
@[reducible] def CpB (w : World) (A : Around) (elt : Expr) (cenv : Env) (K : VP) (K' : SP) (b : Bool) (s : Shared) : Prop := if b = true then wpAny (Mo w) A (eval elt cenv) K (fun _ _ => False) s else K' s
@[reducible] noncomputable def zej (ifs : List Expr) (cenv : Env) : Sem Bool := forIn ifs true fun c r => if r = true then do let ok ← PySem.isTrue c cenv (eval c cenv); pure (ForInStep.yield ok) else pure (ForInStep.yield r)
theorem CpB.yes {elt : Expr} {cenv : Env} {K : VP} {K' : SP} {b : Bool} {s : Shared} (hb : b = true) (h : wpAny (Mo w) A (eval elt cenv) K (fun j j => False) s) : CpB w A elt cenv K K' b s := by subst hb; exact iteT h
theorem CpB.no {elt : Expr} {cenv : Env} {K : VP} {K' : SP} {b : Bool} {s : Shared} (hb : ¬ b = true) (h : K' s) : CpB w A elt cenv K K' b s := by unfold CpB; rw [if_neg hb]; exact h
inductive NxS (uu ww : Heap) (X : List Nat) (vv : List Env) (L : Nat) (l : LS) (ro rw : LO) (tl : LT) (g : Array GenState) (d : Drawn) (os : OsState) (V : Value → LO → Prop) (Its : LO → Prop) (v : Value) : SP where
 | mk {new its h tk} : V v new → Its its → St uu ww X vv L l (new ++ ro) (its ++ rw) tl h → NxS uu ww X vv L l ro rw tl g d os V Its v ⟨h, g, d, tk, os⟩
inductive CpI (uu ww : Heap) (X : List Nat) (vv : List Env) (C : Nat) (ro rw : LO) (tl : LT) (g : Array GenState) (d : Drawn) (os : OsState) (acc n : Nat) (P : Nat → List Value → Prop) (Its : Nat → LO → Prop) : Nat → SP where
 | mk {i h tk l vs m its} : i ≤ n → P i vs → Its i its → St uu ww X vv C l ro (its ++ (acc, zaa vs m) :: rw) tl h → CpI uu ww X vv C ro rw tl g d os acc n P Its (n - i) ⟨h, g, d, tk, os⟩
theorem ItN.nx {target : Expr} {it : Value} {n i tk : Nat} {Its : Nat → LO → Prop} {V : Nat → Value → LO → Prop} {its : LO} (hit : ItN w uu ww X vv ro target it n Its V) (S : St uu ww X vv L l ro (its ++ rw) tl h) (hits : Its i its) (hlt : i < n) :
  wpAny (Mo w) A (pyNext it) (fun r s₁ => ∃ v, r = some v ∧ wpAny (Mo w) A (letOwnedTupleGo target it v) (fun j s₂ => NxS uu ww X vv L l ro rw tl g d os (V i) (Its (i + 1)) v s₂) E s₁) E ⟨h, g, d, tk, os⟩ :=
 hit.item _ _ _ L l rw tl h g d tk os i its S hits hlt fun j j j j j hv h1 S' => .mk hv h1 S'
theorem zhq {elt target iter : Expr} {ifs : List Expr} {scope : Scope} {it : Value} {cenv : Env} {acc C n : Nat} {Its : Nat → LO → Prop} {V : Nat → Value → LO → Prop} {R : Result → SP} {its : LO}
  (hit : ItN w uu ww X vv ro target it n Its V) (hh : A.handled = none) (hn : n ≤ 1000000) (P : Nat → List Value → Prop) (hP : ∀ i vs, P i vs → vs.length ≤ i)
  (S : St uu ww X vv C l ro (its ++ (acc, zaa []) :: rw) tl h) (h0 : P 0 []) (hits : Its 0 its)
  (turn : ∀ i v new vs m l its h tk, i < n → V i v new → P i vs → St uu ww X vv C l (new ++ ro) (its ++ (acc, zaa vs m) :: rw) tl h →
   wpAny (Mo w) A (assign target cenv v) (fun j s₂ => wpAny (Mo w) A (zej ifs cenv) (CpB w A elt cenv (fun x => CpE uu ww X vv C ro (its ++ (acc, zaa vs m) :: rw) tl g d os (P (i + 1) (vs ++ [x]))) (CpE uu ww X vv C ro (its ++ (acc, zaa vs m) :: rw) tl g d os (P (i + 1) vs))) (fun j j => False) s₂) (fun j j => False) ⟨h, g, d, tk, os⟩)
  (stop : ∀ vs m l h tk, P n vs → St uu ww X vv C l ro ((acc, zaa vs m) :: rw) tl h → R (.ok .next) ⟨h, g, d, tk, os⟩) :
  codeAny (Mo w) A (.compLoop (.ListComp elt [⟨target, iter, ifs, 0⟩] scope pos) 0 it (.ref acc) cenv) R ⟨h, g, d, tk, os⟩ := by
 refine codeAny_loop rfl (CpI uu ww X vv C ro rw tl g d os acc n P Its) (fun k s hI => ?_) n (.mk (i := 0) (Nat.zero_le _) h0 hits S)
 clear S h0 hits
 cases hI with
 | @mk i h tk l vs m its hi hPi hits S =>
 show wpAny _ A ((compTurn (.ListComp elt [⟨target, iter, ifs, 0⟩] scope pos) 0 it (.ref acc) cenv).onRaise (fun x => do noteFrame x cenv; theTreesLotGoes x)) _ _ _
 refine wpAny_noted ?_
 rw [compTurn_list]
 refine zB (wpAny_standAt (zB ?_))
 by_cases hlt : i < n
 ·refine zM (hit.nx S hits hlt) (fun r s₁ q => ?_) fun j j z => z
  obtain ⟨v, qz⟩ := q
  obtain rfl := qz.1
  have q := qz.2
  refine zB (zM q (fun j s₂ q => ?_) fun j j z => z)
  cases q with
  | mk hv hits S =>
  refine zB (zM (turn i v _ vs m l _ _ _ hlt hv hPi S) (fun j s₂ q => ?_) fun j j z => z.elim)
  refine zB (zM q (fun b s₃ q => ?_) fun j j z => z.elim)
  cases b with
  | false =>
   cases (show CpE _ _ _ _ _ _ _ _ _ _ _ _ _ from q) with
   | mk a1 a2 => exact zP ⟨rfl, n - (i + 1), by exact om1 hlt, .mk hlt a1 hits a2⟩
  | true =>
   refine zB (zB (zM (show wpAny _ _ _ _ _ _ from q) (fun x s₄ q => ?_) fun j j z => z.elim))
   cases q with
   | mk a1 a2 =>
   have hl : ∀ its : LO, Led (its ++ (acc, zaa vs m) :: rw) acc (zaa vs m) (zaa (vs ++ [x]) (m + 1)) (its ++ (acc, zaa (vs ++ [x]) (m + 1)) :: rw) := fun its => by
    induction its with
    | nil => exact .head
    | cons p r ih => exact .tail ih
   exact zB (zje a2 (hl _) (fun h' S' => zP (zP ⟨rfl, n - (i + 1), by exact om1 hlt, .mk hlt a1 hits S'⟩)) (by exact om9 hn hlt (hP _ _ hPi)))
 ·have : i = n := by exact om2 hi hlt
  subst this
  exact hit.stop _ _ _ C l _ tl h g d tk os its hh S hits fun h' S' => zP (stop vs m l h' tk hPi S')
def CompGo (w : World) (A : Around) (env : Env) (elt target iter : Expr) (ifs : List Expr) (scope : Scope) (pos : Pos) (cl : List (Str × Addr)) (Q : VP) (E : VP) (it : Value) (s : Shared) : Prop :=
 wpAny (Mo w) A (newList []) (fun acc s₃ => wpAny (Mo w) A (newFunctionEnv scope env.globals cl [] env.qual none .none (some env)) (fun cenv s₄ =>
  codeAny (Mo w) A (.compStart (.ListComp elt [⟨target, iter, ifs, 0⟩] scope pos) 0 it acc { cenv with scope := relabel scope env }) (compPost (Mo w) A E none Q acc cenv.locals) s₄) E s₃) E s
theorem e_comp {elt target iter : Expr} {ifs : List Expr} {scope : Scope} {cl : List (Str × Addr)} {s : Shared}
  (h : wpAny (Mo w) A (eval iter env) (fun x s₁ => wpAny (Mo w) A (pyIter x) (fun it s₂ => CompGo w A env elt target iter ifs scope pos cl Q E it s₂) E s₁) E s)
  (hclos : closureFor scope env = pure cl) (hkind : scope.kind = .function) (hnames : ∀ x ∈ scope.names, x.2 = .local → scope.names.lookup x.1 = some .local) (hs : ∀ x, foldedSetIterable iter env x = pure x := by intro _; rfl) :
  wpAny (Mo w) A (eval (.ListComp elt [⟨target, iter, ifs, 0⟩] scope pos) env) Q E s := by
 exact wpAny_comprehension_free rfl hs hclos hkind hnames h
theorem St.comp {its : LO} {oL : Obj} {h₁ : Heap} (S : St uu ww X vv L l ro (its ++ rw) tl h) (hL : h.get? L = some oL) (hns₁ : h₁.Ns (h.push (zaa [])).objs.size (fun x => ([] : LS).lookup x)) (hk : ∀ (b : Nat) o, (h.push (zaa [])).get? b = some o → h₁.get? b = some o) :
  St uu ww X vv (h.push (zaa [])).objs.size [] ((L, oL) :: ro) (its ++ (h.objs.size, zaa []) :: rw) tl h₁ := by
 have S2 : St uu ww X vv L l ro ((h.objs.size, zaa []) :: (its ++ rw)) tl (h.push (zaa [])) := S.allocW (zaa []) rfl (clsNe (by decide))
 have hL2 : (h.push (zaa [])).get? L = some oL := zQ _ hL
 have S3 := S2.enter hL2 (h' := h₁) (C := (h.push (zaa [])).objs.size) hk getN hns₁
 refine ⟨S3.inv, S3.fr, S3.keep, S3.above, S3.low, S3.based, S3.ns, S3.hro, fun p hp => S3.hrw p ?_, ?_, fun p hp q hq => S3.sep p hp q ?_, S3.htl⟩
 ·simp only [List.mem_append, List.mem_cons] at hp ⊢
  rcases hp with x | x | x
  ·exact .inr (.inl x)
  ·exact .inl x
  ·exact .inr (.inr x)
 ·have := S3.nd
  simp only [List.map_cons, List.map_append] at this ⊢
  exact (List.Perm.nodup_iff List.perm_middle).mpr this
 ·simp only [List.mem_append, List.mem_cons] at hq ⊢
  rcases hq with x | x | x
  ·exact .inr (.inl x)
  ·exact .inl x
  ·exact .inr (.inr x)
theorem zmy {elt target iter : Expr} {ifs : List Expr} {scope : Scope} {cl : List (Str × Addr)} {it : Value} {n : Nat} {Its : Nat → LO → Prop} {V : Nat → Value → LO → Prop} {its : LO} {oL : Obj}
  (hL : h.get? L = some oL) (hit : Itr w uu ww X vv ((L, oL) :: ro) target it n Its V) (hh : A.handled = none) (hn : n ≤ 1000000) (P : Nat → List Value → Prop) (hP : ∀ i vs, P i vs → vs.length ≤ i)
  (S : St uu ww X vv L l ro (its ++ rw) tl h) (h0 : P 0 []) (hits : Its 0 its) (hcell : ∀ y ∈ scope.names, y.2 ≠ .cell) (hkind : scope.kind = .function)
  (turn : ∀ C acc i v new vs m l its h tk, i < n → V i v new → P i vs → St uu ww X vv C l (new ++ (L, oL) :: ro) (its ++ (acc, zaa vs m) :: rw) tl h →
   wpAny (Mo w) A (assign target (compEnvC scope cl C env) v) (fun j s₂ => wpAny (Mo w) A (zej ifs (compEnvC scope cl C env)) (CpB w A elt (compEnvC scope cl C env) (fun x => CpE uu ww X vv C ((L, oL) :: ro) (its ++ (acc, zaa vs m) :: rw) tl g d os (P (i + 1) (vs ++ [x]))) (CpE uu ww X vv C ((L, oL) :: ro) (its ++ (acc, zaa vs m) :: rw) tl g d os (P (i + 1) vs))) (fun j j => False) s₂) (fun j j => False) ⟨h, g, d, tk, os⟩)
  (stop : ∀ acc vs m h' tk', P n vs → h.get? acc = none → St uu ww X vv L l ro ((acc, zaa vs m) :: rw) tl h' → Q (.ref acc) ⟨h', g, d, tk', os⟩) :
  CompGo w A env elt target iter ifs scope pos cl Q E it ⟨h, g, d, tk, os⟩ := by
 refine wpAny_newList (wpAny_newFunctionEnv hcell (by intro y hy; simp at hy) (fun h₁ hns₁ hsb₁ => ?_) hkind)
 have S4 := S.comp hL hns₁ (fun b o e => hsb₁.extBut b o (Nat.ne_of_lt (ltS e)) (zQ _ e))
 have loop : ∀ tk, codeAny (Mo w) A (.compLoop (.ListComp elt [⟨target, iter, ifs, 0⟩] scope pos) 0 it (.ref h.objs.size) (compEnvC scope cl (h.push (zaa [])).objs.size env))
   (compPost (Mo w) A E none Q (.ref h.objs.size) (h.push (zaa [])).objs.size) ⟨h₁, g, d, tk, os⟩ := fun tk =>
  zhq hit.toItN hh hn P hP S4 h0 hits (fun i v new vs m l its h tk => turn _ _ i v new vs m l its h tk) fun vs m l' h' tk' hp S' => ⟨_, S'.ns, fun h'' hs => stop _ _ _ _ _ hp getN (S.leave hL S' hs)⟩
 exact codeAny_compStart_list (loop _) (hit.self A _ _ _ _ _ _ _ _ _ _ _ _ _ S4 hits (loop _))
theorem ItN.ofSrc {it n : Nat} {IsAt : Nat → Obj → Prop} {V : Nat → Value → Prop} {ctx : Heap → Prop} {target : Expr} (hsrc : Src w it n IsAt V ctx) (hX : it ∉ X) (hctx : ∀ L l rw tl h, St uu ww X vv L l ro rw tl h → ctx h) :
  ItN w uu ww X vv ro target (.ref it) n (fun i its => ∃ io, its = [(it, io)] ∧ IsAt i io) (fun i v new => new = [] ∧ V i v) := by
 refine ⟨?_, ?_⟩
 ·rintro A E Q L l rw tl h g d tk os i _ S ⟨io, rfl, hio⟩ hlt hq
  have hgi := (S.hrw _ (.head _)).1
  refine hsrc.item _ _ _ _ _ _ _ _ i io (hctx _ _ _ _ _ S) hgi hio hlt fun v h' io' tk' hv ho' hio' hs => ?_
  obtain ⟨T, fs, qz⟩ := hsrc.kind _ _ hio'
  have c1 := qz.1
  have c2 := qz.2.1
  have c3 := qz.2.2.1
  have c4 := qz.2.2.2
  have S' : St uu ww X vv L l ro ((it, io') :: rw) tl h' := S.chgS .head hs ho' (by rw [c1]; exact clsNe c4)
  exact ⟨v, rfl, zec ho' c1 c2 c3 (hq v [] [(it, io')] h' tk' ⟨rfl, hv⟩ ⟨io', rfl, hio'⟩ S')⟩
 ·rintro A E Q L l rw tl h g d tk os _ hh S ⟨io, rfl, hio⟩ hq
  have hgi := (S.hrw _ (.head _)).1
  exact hsrc.stop _ _ _ _ _ _ _ _ io hh (hctx _ _ _ _ _ S) hgi hio fun h' hx => hq h' (S.lose rfl hX hx)
theorem Itr.ofSrc {it n : Nat} {IsAt : Nat → Obj → Prop} {V : Nat → Value → Prop} {ctx : Heap → Prop} {target : Expr} (hsrc : Src w it n IsAt V ctx) (hX : it ∉ X) (hctx : ∀ L l rw tl h, St uu ww X vv L l ro rw tl h → ctx h)
  (hself : ∀ (A : Around) (E : VP) (Q : VP) i o s, s.heap.get? it = some o → IsAt i o → Q (.ref it) s → wpAny (Mo w) A (pyIter (.ref it)) Q E s) :
  Itr w uu ww X vv ro target (.ref it) n (fun i its => ∃ io, its = [(it, io)] ∧ IsAt i io) (fun i v new => new = [] ∧ V i v) :=
 ⟨ItN.ofSrc hsrc hX hctx, by
  rintro A E Q L l rw tl h g d tk os i _ S ⟨io, rfl, hio⟩ hq
  exact hself A E Q i io _ (S.hrw _ (.head _)).1 hio hq⟩
theorem zjk {it a m : Nat} {vs : List Value} {target : Expr} (hm : (a, zaa vs m) ∈ ro) (hX : it ∉ X) : Itr w uu ww X vv ro target (.ref it) vs.length (fun i its => ∃ io, its = [(it, io)] ∧ IsIt a i io) (fun i v new => new = [] ∧ vs[i]? = some v) :=
 Itr.ofSrc (zh4 (n := m)) hX (fun j j j j j S => (S.hro _ hm).1) fun A E Q i o s ho hi hq => wpAny_pyIter_listiter (l := a) (i := i) ⟨o, ho, hi.1, hi.2⟩ hq
inductive FoI (uu ww : Heap) (X : List Nat) (vv : List Env) (L : Nat) (ro : LO) (d : Drawn) (os : OsState) (n : Nat) (P : Nat → LS → LO → LT → Array GenState → Prop) (Its : Nat → LO → Prop) : Nat → SP where
 | mk {i h tk l rw tl g its} : i ≤ n → P i l rw tl g → Its i its → St uu ww X vv L l ro (its ++ rw) tl h → FoI uu ww X vv L ro d os n P Its (n - i) ⟨h, g, d, tk, os⟩
theorem zme {target : Expr} {body orelse : List Stmt} {R : Result → SP} {it : Value} {n : Nat} {Its : Nat → LO → Prop} {V : Nat → Value → LO → Prop} {its : LO}
  (hit : ItN w uu ww X vv ro target it n Its V) (hh : A.handled = none) (P : Nat → LS → LO → LT → Array GenState → Prop)
  (S : St uu ww X vv L l ro (its ++ rw) tl h) (h0 : P 0 l rw tl g) (hits : Its 0 its)
  (turn : ∀ i v new l rw tl g h tk its, i < n → V i v new → Its (i + 1) its → P i l rw tl g → St uu ww X vv L l (new ++ ro) (its ++ rw) tl h →
   wpAny (Mo w) A (assign target env v) (fun j s₂ => wpAny (Mo w) A (execs body env) (fun f s₃ => match f with
    | .next | .cont => ∃ h tk l rw tl g, s₃ = ⟨h, g, d, tk, os⟩ ∧ P (i + 1) l rw tl g ∧ St uu ww X vv L l ro (its ++ rw) tl h
    | .brk => R (.ok .next) s₃
    | .ret v => R (.ok (.ret v)) s₃) (fun j j => False) s₂) (fun j j => False) ⟨h, g, d, tk, os⟩)
  (stop : ∀ l rw tl g h tk, P n l rw tl g → St uu ww X vv L l ro rw tl h → wpAny (Mo w) A (execs orelse env) (fun f s₃ => R (.ok f) s₃) (fun j j => False) ⟨h, g, d, tk, os⟩) :
  codeAny (Mo w) A (.forLoop target it body orelse env) R ⟨h, g, d, tk, os⟩ := by
 refine codeAny_forLoop_any (FoI uu ww X vv L ro d os n P Its) ?_ n (.mk (i := 0) (Nat.zero_le _) h0 hits S)
 clear S h0 hits
 clear its
 intro m s hI
 cases hI with
 | @mk i h tk l rw tl g its hi hP hits S =>
 by_cases hlt : i < n
 ·refine zM (hit.nx (E := fun j j => False) S hits hlt) (fun r s₁ q => ?_) fun j j z => z.elim
  obtain ⟨v, qz⟩ := q
  obtain rfl := qz.1
  have q := qz.2
  refine zM q (fun j s₂ q => ?_) fun j j z => z.elim
  cases q with
  | mk hv hits S =>
  refine zM (turn i v _ l rw tl g _ _ _ hlt hv hits hP S) (fun j s₂ q => zM q (fun f s₃ q => ?_) fun j j z => z.elim) fun j j z => z.elim
  cases f with
  | next =>
   obtain ⟨h, tk, l, rw, tl, g, q⟩ := q
   cases q.1
   exact ⟨n - (i + 1), by exact om1 hlt, .mk hlt q.2.1 hits q.2.2⟩
  | cont =>
   obtain ⟨h, tk, l, rw, tl, g, q⟩ := q
   cases q.1
   exact ⟨n - (i + 1), by exact om1 hlt, .mk hlt q.2.1 hits q.2.2⟩
  | brk => exact q
  | ret v => exact q
 ·have : i = n := by exact om2 hi hlt
  subst this
  refine hit.stop A _ _ L l rw tl h g d tk os its hh S hits fun h' S' => ?_
  exact zM (stop l rw tl g h' tk hP S') (fun j j z => z) fun j j z => z.elim
theorem zf7 {target : Expr} {body orelse : List Stmt} {R : Result → SP} {it n : Nat} {io : Obj} {IsAt : Nat → Obj → Prop} {V : Nat → Value → Prop} {ctx : Heap → Prop} (hsrc : Src w it n IsAt V ctx)
  (hh : A.handled = none) (P : CT) (hX : it ∉ X)
  (hctx : ∀ L l rw tl h, St uu ww X vv L l ro rw tl h → ctx h) (hio : IsAt 0 io)
  (S : St uu ww X vv L l ro ((it, io) :: rw) tl h) (h0 : P 0 l rw tl)
  (turn : ∀ i v l rw tl h tk io, i < n → V i v → P i l rw tl → St uu ww X vv L l ro ((it, io) :: rw) tl h →
   wpAny (Mo w) A (assign target env v) (fun j s₂ => wpAny (Mo w) A (execs body env) (fun f s₃ => match f with
    | .next | .cont => ∃ h tk l rw tl, s₃ = ⟨h, g, d, tk, os⟩ ∧ P (i + 1) l rw tl ∧ St uu ww X vv L l ro ((it, io) :: rw) tl h
    | .brk => R (.ok .next) s₃
    | .ret v => R (.ok (.ret v)) s₃) (fun j j => False) s₂) (fun j j => False) ⟨h, g, d, tk, os⟩)
  (stop : ∀ l rw tl h tk, P n l rw tl → St uu ww X vv L l ro rw tl h → wpAny (Mo w) A (execs orelse env) (fun f s₃ => R (.ok f) s₃) (fun j j => False) ⟨h, g, d, tk, os⟩) :
  codeAny (Mo w) A (.forLoop target (.ref it) body orelse env) R ⟨h, g, d, tk, os⟩ :=
 zme (ItN.ofSrc hsrc hX hctx) hh (fun i l rw tl g' => g' = g ∧ P i l rw tl) (its := [(it, io)]) S ⟨rfl, h0⟩ ⟨io, rfl, hio⟩ (fun i v new l rw tl g' h tk its hi hv hits hP S => by
  cases hP.1
  cases hv.1
  obtain ⟨io, qz⟩ := hits
  obtain rfl := qz.1
  refine zM (turn i v l rw tl h tk io hi hv.2 hP.2 S) (fun j s q => zM q (fun f s₃ q => ?_) fun j j z => z) fun j j z => z
  cases f with
  | next | cont =>
   obtain ⟨h, tk, l, rw, tl, q⟩ := q
   exact ⟨h, tk, l, rw, tl, g, q.1, ⟨rfl, q.2.1⟩, q.2.2⟩
  | brk => exact q
  | ret v => exact q) fun l rw tl g' h tk hP S => by
   cases hP.1
   exact stop l rw tl h tk hP.2 S
end
@[reducible] noncomputable def zb7 (f0 : Value) (TI TO : Nat) : Obj := { cls := .type "zip", dict := none, data := .fields #[f0, .bool false, .bool false, .ref TI, .ref TO], slots := #[] }
section
theorem St.addNew {rw' : LO} {h' : Heap} {tl' : LT} {l' : LS} (S : St uu ww X vv L l ro rw tl h) (S' : St uu ww X vv L l' ro rw' tl' h') {a : Nat} {o : Obj} (hn : h.get? a = none) (ho : h'.get? a = some o) (hr : ∀ q ∈ rw', ∃ o, (q.1, o) ∈ rw) :
  St uu ww X vv L l' ((a, o) :: ro) rw' tl' h' := by
 have qz := S.fresh hn
 have n1 := qz.1
 have n2 := qz.2.1
 have n3 := qz.2.2.1
 have n4 := qz.2.2.2.1
 have n5 := qz.2.2.2.2
 refine ⟨S'.inv, S'.fr, S'.keep, S'.above, S'.low, S'.based, S'.ns, ?_, S'.hrw, S'.nd, ?_, S'.htl⟩
 ·intro p hp
  rcases zC hp with rfl | hp
  ·exact ⟨ho, n1, n2, n3⟩
  ·exact S'.hro p hp
 ·intro p hp q hq
  rcases zC hp with rfl | hp
  ·intro e
   obtain ⟨o', hq'⟩ := hr q hq
   have := (S.hrw _ hq').1
   dsimp only at e this
   rw [← e, hn] at this; cases this
  ·exact S'.sep p hp q hq
theorem St.offNew (S : St uu ww X vv L l ro rw tl h) {a : Nat} (hn : h.get? a = none) : Off tl a := by
 intro t ht hin
 have := S.htl t ht
 clear ht
 obtain ⟨us, xss⟩ := t
 dsimp only at this hin
 induction this with
 | nil => cases hin
 | cons p _ ih =>
  rcases zC hin with e | e
  ·obtain ⟨b, vs, e', ho, _⟩ := p
   rw [e'] at e; injection e with e; subst e
   rw [hn] at ho; cases ho
  ·exact ih e
theorem zfw {its its' : LO} (hs : (its'.map (·.1)).Sublist (its.map (·.1))) {q : Nat × Obj} (hq : q ∈ its' ++ rw) : ∃ o, (q.1, o) ∈ its ++ rw := by
 rcases zD hq with hq | hq
 ·obtain ⟨p, hp, e⟩ := List.mem_map.mp (hs.subset (List.mem_map_of_mem hq))
  exact ⟨p.2, e ▸ List.mem_append_left _ hp⟩
 ·exact ⟨q.2, List.mem_append_right _ hq⟩
theorem St.front {its its' : LO} {h' : Heap} (S : St uu ww X vv L l ro (its ++ rw) tl h) (hX : ∀ c ∈ its.map (·.1), c ∉ X) (hk : ∀ (b : Nat) o, h.get? b = some o → b ∉ its.map (·.1) → h'.get? b = some o)
  (hs : (its'.map (·.1)).Sublist (its.map (·.1))) (hi : ∀ q ∈ its', h'.get? q.1 = some q.2 ∧ (q.2.cls ≠ .type "tuple" ∨ ∃ o, (q.1, o) ∈ its ∧ o.cls = .type "tuple")) : St uu ww X vv L l ro (its' ++ rw) tl h' := by
 have nd := List.nodup_append.mp (List.map_append ▸ S.nd)
 have mm : ∀ c ∈ its.map (·.1), ∃ o, (c, o) ∈ its ++ rw := fun c hc => by
  obtain ⟨p, qz⟩ := List.mem_map.mp hc
  have hp := qz.1
  obtain rfl := qz.2
  exact ⟨p.2, List.mem_append_left _ hp⟩
 refine S.move (C := its.map (·.1)) (l' := l) ?_ (fun b o e j hb => hk b o e hb) mm (fun c hc hx => absurd hx (hX c hc)) ?_ ?_ ?_
 ·obtain ⟨oL, es, ep, e, r⟩ := S.ns
  exact ⟨oL, es, ep, hk _ _ e (fun hm => (mm _ hm).elim fun o ho => (S.hrw _ ho).2.1 rfl), r⟩
 ·intro p hp
  obtain ⟨o, ho⟩ := zfw hs hp
  have k := (S.hrw _ ho).2
  refine ⟨?_, k.1, k.2.1, k.2.2.1, k.2.2.2.1, ?_⟩
  ·rcases zD hp with hp | hp
   ·exact (hi p hp).1
   ·exact hk _ _ (S.hrw p (List.mem_append_right _ hp)).1 fun hm => nd.2.2 _ hm _ (List.mem_map_of_mem hp) rfl
  ·rcases zD hp with hp | hp
   ·exact (hi p hp).2.imp id fun ⟨o, ho, hc⟩ => (S.hrw _ (List.mem_append_left _ ho)).2.2.2.2.2.resolve_left fun z => z hc
   ·exact (S.hrw p (List.mem_append_right _ hp)).2.2.2.2.2
 ·rw [List.map_append]
  exact List.nodup_append.mpr ⟨hs.nodup nd.1, nd.2.1, fun a ha b hb => nd.2.2 a (hs.subset ha) b hb⟩
 ·intro p hp q hq
  exact (zfw hs hq).elim fun o ho => S.sep p hp (q.1, o) ho
theorem nmem4 {α : Type} {b z1 z2 z3 z4 : α} (h : b ∉ [z1, z2, z3, z4]) : b ≠ z1 ∧ b ≠ z2 ∧ b ≠ z3 ∧ b ≠ z4 := ⟨fun e => h (e ▸ .head _), fun e => h (e ▸ .tail _ (.head _)), fun e => h (e ▸ .tail _ (.tail _ (.head _))), fun e => h (e ▸ .tail _ (.tail _ (.tail _ (.head _))))⟩
theorem n_zip {l1 l2 n1 n2 : Nat} {xs ys : List Value} (S : St uu ww X vv L l ro rw tl h) (h1 : (l1, zaa xs n1) ∈ ro) (h2 : (l2, zaa ys n2) ∈ ro)
  (hq : ∀ z TI TO i1 i2 o1 o2 h', IsIt l1 0 o1 → IsIt l2 0 o2 → St uu ww X vv L l ((TI, zac [.ref i1, .ref i2]) :: ro) ((z, zb7 .none TI TO) :: (TO, zac [.none, .none]) :: (i2, o2) :: (i1, o1) :: rw) tl h' → Q (.ref z) ⟨h', g, d, tk, os⟩) :
  wpAny (Mo w) A (call (.type "zip") [.ref l1, .ref l2]) Q E ⟨h, g, d, tk, os⟩ := by
 refine callType_new F.called_zip (by decide) (F.typeCall_zip_2 _ _) (F.newCall_zip_2 _ _) (fun obj => F.args_object_init_3 obj _ _) F.entry_zip_new
  (meets_zip_new l1 l2 xs.toArray ys.toArray) ⟨S.isList (.inl h1), S.isList (.inl h2), ⟨_, zL _ rfl, rfl⟩, ?_⟩
 have S1 := S.allocW { cls := .type "list_iterator", data := .fields #[.ref l1, .int 0 0] } rfl (clsNe (by decide))
 have S2 := S1.allocW { cls := .type "list_iterator", data := .fields #[.ref l2, .int 0 0] } rfl (clsNe (by decide))
 have S3 := S2.allocR (zac [.ref h.objs.size, .ref (zipH1 h l1).objs.size]) rfl
 have S4 := S3.addW (h' := zipH4 h l1 l2) (a := (zipH3 h l1 l2).objs.size) (o := zac [.none, .none]) (fun j j e => zQ _ e) getN (zL _ rfl) (.inr (S3.offNew getN))
 have S5 := S4.allocW (zb7 .none (zipH2 h l1 l2).objs.size (zipH3 h l1 l2).objs.size) rfl (clsNe (by decide))
 exact hq _ _ _ _ _ _ _ _ ⟨rfl, rfl⟩ ⟨rfl, rfl⟩ S5
@[reducible] noncomputable def zpL (z TI TO i1 i2 : Nat) (a b : Value) (o1 o2 : Obj) : LO := [(z, zb7 .none TI TO), (TO, zac [a, b]), (i2, o2), (i1, o1)]
theorem itr_zip {l1 l2 n1 n2 z TI TO i1 i2 : Nat} {xs ys : List Value} {elts : List Expr} {k : Nat} {tp : Pos} (h1 : (l1, zaa xs n1) ∈ ro) (h2 : (l2, zaa ys n2) ∈ ro) (hTI : (TI, zac [.ref i1, .ref i2]) ∈ ro) (hX : ∀ c ∈ [z, TO, i2, i1], c ∉ X) :
  Itr w uu ww X vv ro (.Tuple elts k tp) (.ref z) (min xs.length ys.length) (fun i its => ∃ a b o1 o2, its = zpL z TI TO i1 i2 a b o1 o2 ∧ IsIt l1 i o1 ∧ IsIt l2 i o2)
   (fun i v new => ∃ T x y, v = .ref T ∧ new = [(T, zac [x, y])] ∧ xs[i]? = some x ∧ ys[i]? = some y) := by
 have apart : ∀ {L l rw tl h a b o1 o2}, St uu ww X vv L l ro (zpL z TI TO i1 i2 a b o1 o2 ++ rw) tl h → ZipApart z TI TO i1 i2 l1 l2 := by
  intro L l rw tl h a b o1 o2 S
  have n1 := List.pairwise_cons.mp (show List.Pairwise (· ≠ ·) (z :: TO :: i2 :: i1 :: rw.map (·.1)) from S.nd)
  have n2 := List.pairwise_cons.mp n1.2
  have n3 := List.pairwise_cons.mp n2.2
  have m0 := S.sep _ hTI
  have m1 := S.sep _ h1
  have m2 := S.sep _ h2
  have k1 : (z, zb7 .none TI TO) ∈ zpL z TI TO i1 i2 a b o1 o2 ++ rw := .head _
  have k2 : (TO, zac [a, b]) ∈ zpL z TI TO i1 i2 a b o1 o2 ++ rw := .tail _ (.head _)
  have k3 : (i2, o2) ∈ zpL z TI TO i1 i2 a b o1 o2 ++ rw := .tail _ (.tail _ (.head _))
  have k4 : (i1, o1) ∈ zpL z TI TO i1 i2 a b o1 o2 ++ rw := .tail _ (.tail _ (.tail _ (.head _)))
  exact ⟨m0 _ k1, (n1.1 _ (.head _)).symm, (n1.1 _ (.tail _ (.tail _ (.head _)))).symm, (n1.1 _ (.tail _ (.head _))).symm, m0 _ k2, m0 _ k4, m0 _ k3, n2.1 _ (.tail _ (.head _)), n2.1 _ (.head _), (n3.1 _ (.head _)).symm, m1 _ k1, m1 _ k2, m1 _ k4, m1 _ k3, m2 _ k1, m2 _ k2, m2 _ k4, m2 _ k3⟩
 refine ⟨⟨?_, ?_⟩, ?_⟩
 ·rintro A E Q L l rw tl h g d tk os i _ S ⟨a, b, o1, o2, rfl, hi1, hi2⟩ hlt hq
  have D := apart S
  have k1 := S.hrw _ (.head _)
  have k2 := S.hrw _ (.tail _ (.head _))
  have k3 := S.hrw _ (.tail _ (.tail _ (.head _)))
  have k4 := S.hrw _ (.tail _ (.tail _ (.tail _ (.head _))))
  have hl1 : i < xs.length := zV hlt (Nat.min_le_left _ _)
  have hl2 : i < ys.length := zV hlt (Nat.min_le_right _ _)
  have hx : xs[i]? = some (xs[i]'hl1) := zI _
  have hy : ys[i]? = some (ys[i]'hl2) := zI _
  refine wpAny_pyNext_zip_item D k1.1 (S.hro _ hTI).1 k2.1 ⟨_, k4.1, hi1.1, hi1.2⟩ ⟨_, k3.1, hi2.1, hi2.2⟩ (S.isList (.inl h1)) (S.isList (.inl h2)) (x := xs[i]'hl1) (y := ys[i]'hl2) (by rw [List.getElem?_toArray]; exact hx) (by rw [List.getElem?_toArray]; exact hy) fun h' a1 a2 a3 a4 a5 a6 hk => ?_
  refine ⟨_, rfl, wpAny_letOwnedTupleGo_zip a1 fun h'' a1' hs => ?_⟩
  obtain ⟨o1', qz⟩ := a3
  have e1 := qz.1
  have f1 := qz.2.1
  have f1' := qz.2.2
  obtain ⟨o2', qz⟩ := a4
  have e2 := qz.1
  have f2 := qz.2.1
  have f2' := qz.2.2
  have up : ∀ (b : Nat) o, h'.get? b = some o → b ≠ z → h''.get? b = some o := fun b o e hb => (hs.2 b hb).trans e
  have zl : z < h.objs.size := ltS k1.1
  have hs0 : ((zpL z TI TO i1 i2 (xs[i]'hl1) (ys[i]'hl2) o1' o2').map (·.1)).Sublist ((zpL z TI TO i1 i2 a b o1 o2).map (·.1)) := List.Sublist.refl [z, TO, i2, i1]
  refine hq _ _ _ h'' tk ⟨_, _, _, rfl, rfl, hx, hy⟩ ⟨_, _, o1', o2', rfl, ⟨f1, f1'⟩, ⟨f2, f2'⟩⟩ (S.addNew (S.front hX (fun b o e hb => have n := nmem4 hb; up _ _ (hk _ _ n.1 n.2.1 n.2.2.2 n.2.2.1 e) n.1) hs0 ?_) getN (up _ _ a5 (Nat.ne_of_gt zl)) fun q hq => zfw hs0 hq)
  exact List.forall_mem_cons.mpr ⟨⟨a1', .inl (clsNe (by decide))⟩, List.forall_mem_cons.mpr ⟨⟨up _ _ a2 D.TOz, .inr ⟨_, .tail _ (.head _), rfl⟩⟩, List.forall_mem_cons.mpr ⟨⟨up _ _ e2 D.i2z, .inl (f2 ▸ clsNe (by decide))⟩, List.forall_mem_singleton.mpr ⟨up _ _ e1 D.i1z, .inl (f1 ▸ clsNe (by decide))⟩⟩⟩⟩
 ·rintro A E Q L l rw tl h g d tk os _ hh S ⟨a, b, o1, o2, rfl, hi1, hi2⟩ hq
  have D := apart S
  have k1 := S.hrw _ (.head _)
  have k2 := S.hrw _ (.tail _ (.head _))
  have k3 := S.hrw _ (.tail _ (.tail _ (.head _)))
  have k4 := S.hrw _ (.tail _ (.tail _ (.tail _ (.head _))))
  refine wpAny_pyNext_zip_end hh D k1.1 (S.hro _ hTI).1 k2.1 ⟨_, k4.1, hi1.1, hi1.2⟩ ⟨_, k3.1, hi2.1, hi2.2⟩ (S.isList (.inl h1)) (S.isList (.inl h2)) (by
   rcases Nat.le_total xs.length ys.length with z | z
   ·exact .inl (by simp [Nat.min_eq_left z])
   ·exact .inr (by simp [Nat.min_eq_right z])) fun h' hk => hq h' (S.front (its' := []) hX (fun b o e hb => have n := nmem4 hb; hk _ _ n.1 n.2.1 n.2.2.2 n.2.2.1 e) (zO _) fun j z => nomatch z)
 ·rintro A E Q L l rw tl h g d tk os i _ S ⟨a, b, o1, o2, rfl, hi1, hi2⟩ hq
  exact wpAny_pyIter_zip (S.hrw _ (.head _)).1 hq
end
def FlC (M : Model) (A : Around) (E : VP) (env : Env) (rest : List Stmt) (Q : Flow → SP) (f : Flow) (s : Shared) : Prop := match f with
 | .next => wpC M A (execs rest env) Q E s
 | f => Q f s
section
variable {α : Type} {M : Model} {pos' : Pos} {rest body orelse : List Stmt} {st : Stmt} {Q : Flow → SP}
theorem za6 (h : Q .next s) : wpC M A (execs [] env) Q E s := zy (wpAny_execs_nil h)
theorem zef (h : wpC M A (exec st env) (FlC M A E env rest Q) E s) : wpC M A (execs (st :: rest) env) Q E s := by
 refine zw (h.mono (fun f s' h' => ?_) fun j j z => z)
 cases f <;> first | exact h' | exact zy (zP h')
theorem zbu (h : wpAny M A (execs [st] env) (FlC M A E env rest Q) E s) : wpC M A (execs (st :: rest) env) Q E s := by
 rw [execs_cons] at h ⊢
 refine zw ?_
 intro Γ p hΓ hC
 have h' := h Γ p hΓ
 rw [Sem.wp_bind'] at h'
 refine Sem.wp_mono M Γ _ (fun f p' s' z => ?_) (fun j j j z => z) _ _ h'
 cases f with
 | next => exact z
 | _ => exact zy (zP z)
theorem zhp {test : Expr} (h : wpC M A (PySem.isTrue test env (eval test env)) (fun b s₂ => if b = true then wpC M A (execs body env) (FlC M A E env rest Q) E s₂
   else wpC M A (execs orelse env) (FlC M A E env rest Q) E s₂) E s) : wpC M A (execs (.If test body orelse pos :: rest) env) Q E s := by
 refine zef ?_
 refine zw (zy (wpAny_standAt (zw (h.mono (fun b s₂ q => ?_) fun j j z => z))))
 cases b <;> exact q
theorem zdo {e : Expr} (h : wpC M A (eval e env) (fun v s => Q (.ret v) s) E s) : wpC M A (execs (.Return (some e) pos :: rest) env) Q E s := by
 refine zef ?_
 exact zw (zy (wpAny_standAt (zw (h.mono (fun v s' q => zy (zP q)) fun j j z => z))))
theorem zeg {x : Str} {value : Expr} (h : wpC M A (eval value env) (fun v s₁ => wpC M A (storeName env x v) (fun j s₂ => wpC M A (execs rest env) Q E s₂) E s₁) E s)
  (hs : swapsWith value (some (.Name x pos')) pos.line env = pure false := by rfl) : wpC M A (execs (.Assign [.Name x pos'] value pos :: rest) env) Q E s := by
 refine zef ?_
 rw [exec_Assign_Name env x pos' value pos hs]
 refine zw (zy (wpAny_standAt (zw (h.mono (fun v s₁ q => ?_) fun j j z => z))))
 refine zw (zy (wpAny_standAt (zw ?_)))
 intro Γ p hΓ hC
 rw [Sem.wp_bindName]
 exact Sem.wp_mono M Γ _ (fun j p' s' z => (zy (zP z) : wpC M A (pure Flow.next) _ E s')) (fun j j j z => z) _ _ (q Γ p hΓ hC)
theorem ct_cmp {l r : Expr} {op : CmpOp} {whole : Sem Value} {Q : Bool → SP} (h : wpC M A (eval l env) (fun a s₁ => wpC M A (eval r env) (fun b s₂ => wpC M A (compareOp op a b) (fun c s₃ => wpC M A (truthy c) Q E s₃) E s₂) E s₁) E s)
  (hm : behindInMarks op r = false := by with_unfolding_all rfl) : wpC M A (PySem.isTrue (.Compare l [op] [r] pos) env whole) Q E s := by
 rw [isTrue_Compare1, markedBehindIn_of_false hm]
 refine zw (h.mono (fun a s₁ q => zw (wpC.holding (q.mono (fun b s₂ q => ?_) fun j j z => z))) fun j j z => z)
 refine zw (zy (wpAny_standAt (zw ?_)))
 intro Γ p hΓ hC
 rw [Sem.wp_operate]
 exact Sem.wp_mono M Γ _ (fun c p' s' z => (wpC.holding z : wpC M A (holding [c] (truthy c)) _ E s')) (fun j j j z => z) _ _ (q Γ p hΓ hC)
end
section
variable {α : Type} {M : Model} {pos' : Pos}
theorem wpC.keep {vs : List Value} {m : Sem α} {Q : α → SP} (h : wpC M A m Q E s) : wpC M A (m.keep vs) Q E s := fun Γ p hΓ hC => by rw [Sem.wp_keep]; exact h Γ p hΓ hC
theorem wpC.operate {vs : List Value} {m : Sem Value} (h : wpC M A m Q E s) : wpC M A (operate vs m) Q E s := fun Γ p hΓ hC => by rw [Sem.wp_operate]; exact h Γ p hΓ hC
theorem cw_lookC {f : Value} {first : List Value} {args : List (Bool × Sem Value)} (hplain : args.any (·.1) = false)
  (h : wpAny M A (evalArgs f true args []) (fun a s₁ => (∃ k, (k = Keeper.frame ∨ k = Keeper.machine ∨ k = Keeper.boundFrame) ∧ Looks M s₁.heap (keeperOf f) k) ∧ wpC M A (PySem.call f (first ++ a.pos) a.kw) Q E s₁) E s) : wpC M A (callWith pos f first args []) Q E s := by
 refine zw (wpC.holding (zy (zM h (fun a s₁ q => ?_) fun j j z => z)))
 obtain ⟨⟨k, hk, L⟩, q⟩ := q
 refine zw (zy (wpAny_standAt ?_))
 have fin : ∀ {t : Sem Value}, wpC M A t Q E s₁ → wpC M A (t >>= fun r => holding [r] point >>= fun j => pure r) Q E s₁ := fun ht =>
  zw (ht.mono (fun r s₂ z => zy (zB (wpAny_holding (wpAny_point (zP z))))) fun j j z => z)
 have mk : ∀ m : Value, wpC M A (callMarked m f (first ++ a.pos) a.kw) Q E s₁ := fun m => by unfold callMarked; exact wpC.keep q
 simp only [hplain, List.any_nil, Bool.or_false]
 refine zw (zy (L A _ _ s₁ (fun j j e => e) ?_))
 rcases hk with rfl | rfl | rfl <;> dsimp only
 ·split
  ·exact fin q
  ·exact fin (mk _)
 ·exact fin q
 ·split
  ·exact fin q
  ·exact fin (mk _)
theorem zbc {id : Str} {p : Pos} {args : List Expr} (h : wpAny M A (eval (.Name id p) env) (fun f s₁ => wpC M A (callWith pos f [] (backTo pos (starEach args env)) []) Q E s₁) E s) : wpC M A (eval (.Call (.Name id p) args [] pos) env) Q E s := by
 exact zw (zy h)
end
section
variable {prog : Program} {pos' : Pos}
noncomputable abbrev F0 : VP := fun _ _ => False
theorem wpC.quiet {α : Type} {M : Model} {m : Sem α} {k : Value → Sem Unit} {Q : α → SP} {E : VP} (h : wpC M A m Q F0 s) : wpC M A (m.onRaise k) Q E s :=
 wpC.onRaise (h.mono (fun j j z => z) fun j j z => z.elim)
theorem codeC.loopE {M : Model} {c : Code} {R : Result → SP} (hq : c.quiet = true) (I : Nat → SP)
  (turn : ∀ n s, I n s → wpC M (A.under c) (M.den c) (fun fin s' => match fin with | .done f => R (.ok f) s' | .again c' => (c' = c ∧ ∃ m, m < n ∧ I m s') ∨ (c'.quiet = true ∧ codeC M A c' R s')) (fun e s' => R (.error e) s') s)
  (n : Nat) (h : I n s) : codeC M A c R s := by
 induction n using Nat.strongRecOn generalizing s with
 | ind n ih =>
  refine codeC.tree ((turn n s h).mono (fun fin s' hf => ?_) fun j j h' => h')
  cases fin with
  | done f => exact hf
  | again c' =>
   rcases hf with ⟨rfl, m, hm, hI⟩ | hf
   ·exact ⟨hq, ih m hm hI⟩
   ·exact hf
theorem codeC.forL {R : Result → SP} {target : Expr} {it : Value} {body : List Stmt} (I : Nat → SP)
  (turn : ∀ n s, I n s → wpAny (model prog w) A (pyNext it) (fun r s₁ => match r with
   | none => R (.ok .next) s₁
   | some v => wpAny (model prog w) A (letOwnedTupleGo target it v) (fun j s₁' => wpAny (model prog w) A (assign target env v) (fun j s₂ => wpC (model prog w) A (execs body env) (fun f s₃ => match f with
      | .next | .cont => ∃ m, m < n ∧ I m s₃
      | .brk => R (.ok .next) s₃
      | .ret v => R (.ok (.ret v)) s₃) F0 s₂) F0 s₁') F0 s₁) F0 s)
  (n : Nat) (h : I n s) : codeC (model prog w) A (.forLoop target it body [] env) R s := by
 refine codeC.loopE rfl I (fun n s hI => ?_) n h
 refine wpC.quiet ?_
 refine zw (zy (wpAny_standAt (zw (wpC.quiet (zy (zM (turn n s hI) (fun r s₁ h₁ => ?_) fun j j z => z))))))
 cases r with
 | none => exact zy (zP (.inr ⟨rfl, codeC.any (codeAny_block (wpAny_execs_nil h₁))⟩))
 | some v =>
  refine zw (zy (zM h₁ (fun j s₁' h₁' => ?_) fun j j z => z))
  refine zw (zy (zM h₁' (fun j s₂ h₂ => zw (h₂.mono (fun f s₃ h₃ => ?_) fun j j z => z)) fun j j z => z))
  cases f with
  | next => exact zy (zP (.inl ⟨rfl, h₃⟩))
  | cont => exact zy (zP (.inl ⟨rfl, h₃⟩))
  | brk => exact zy (zP h₃)
  | ret v => exact zy (zP h₃)
def FlO (M : Model) (A : Around) (E : VP) (env : Env) (rest : List Stmt) (Q : Flow → SP) (r : Result) (s : Shared) : Prop := match r with
 | .ok .next => wpC M A (execs rest env) Q E s
 | .ok f => Q f s
 | .error _ => False
theorem zms {target iter : Expr} {body rest : List Stmt} {Q : Flow → SP}
  (h : wpAny (model prog w) A (eval iter env) (fun x s₁ => wpAny (model prog w) A (pyIter x) (fun it s₂ => codeC (model prog w) A (.forLoop target it body [] env)
   (FlO (model prog w) A E env rest Q) s₂) E s₁) E s)
  (hs : ∀ x, foldedSetIterable iter env x = pure x := by intro _; rfl) : wpC (model prog w) A (execs (.For target iter body [] pos :: rest) env) Q E s := by
 refine zef ?_
 refine zw (zy (wpAny_standAt (zw (zy (zM h (fun x s₁ q => ?_) fun j j z => z)))))
 rw [hs x]
 refine zw (zy (zP (zw (zy (wpAny_standAt (zw (wpC.holding (zy (zM q (fun it s₂ q => ?_) fun j j z => z)))))))))
 refine wpC.quiet (wpC.run (q.mono fun r s' z => ?_))
 cases r with
 | ok f => cases f <;> exact z
 | error e => exact z
end
open PySem.NumText
section
variable {prog : Program}
theorem wpC.iteT {α : Type} {M : Model} {c : Prop} [Decidable c] {t e : Sem α} {Q : α → SP} (hc : c) (h : wpC M A t Q E s) : wpC M A (if c then t else e) Q E s := by rw [zH hc]; exact h
theorem wpC.iteF {α : Type} {M : Model} {c : Prop} [Decidable c] {t e : Sem α} {Q : α → SP} (hc : ¬ c) (h : wpC M A e Q E s) : wpC M A (if c then t else e) Q E s := by rw [zG hc]; exact h
theorem zmv {x : Str} {u : Tok} {text : List Nat} (hh : A.handled = none) (hl : (reprText x).length ≤ sizeLine)
  (hs : (text.takeWhile (· != 0)).length ≤ 640) (hr : (int_private% "readNumeral") 0 10 (text.takeWhile (· != 0)) = (int_private% "Numeral.invalid"))
  (h : ∀ h' e v tk', Heap.MadeExc s.heap h' e "ValueError" [v] → E (.ref e) { s with heap := h', toks := tk' }) :
  wpC (model prog w) A ((int_private% "intFromText") (.str x u) text 10) Q E s := by
 obtain ⟨hp, g, d, tk, os⟩ := s
 refine wpC.iteT hs ?_
 refine zw (zy (zP ?_))
 dsimp only
 refine hr ▸ ?_
 dsimp only
 refine zw (zy ?_)
 repeat wp_step
 refine wpC.iteF (by simp) ?_
 refine zw (zy ?_)
 repeat wp_step
 refine zw (zy ?_)
 repeat wp_step
 refine zw (zy (wpAny_pyRepr_str ?_ hl))
 refine zw (zy ?_)
 have hm : (ofString (toString "invalid literal for int() with base " ++ toString 10 ++ toString ": ") ++ (⟨(reprText x).cps.extract 0 200⟩ : Str)).length ≤ sizeLine := by
  rw [Str.length_append]
  have h1 : (ofString (toString "invalid literal for int() with base " ++ toString 10 ++ toString ": ")).length ≤ 100 := by decide +kernel
  have h2 : (⟨(reprText x).cps.extract 0 200⟩ : Str).length ≤ 200 := by
   show ((reprText x).cps.extract 0 200).size ≤ 200
   rw [Array.size_extract]; exact om36
  have : sizeLine = 16777216 := rfl
  omega
 revert hm
 generalize (ofString (toString "invalid literal for int() with base " ++ toString 10 ++ toString ": ") ++ (⟨(reprText x).cps.extract 0 200⟩ : Str)) = msg
 intro hm
 refine wpAny_mkStr ?_ hm
 refine zw (zy (wpAny_newExc_plain plainExc_ValueError (fun h' e hm => ?_) (blT rfl)))
 refine zw (wpC.mark ?_)
 exact zy (wpAny_raiseNew_none hh (h _ _ _ _ hm))
theorem codeC.builtin {id : String} {args : Args} {b : Builtin} {R : Result → SP} (hb : entryFor table id = some b)
  (h : wpC (model prog w) (A.under (.builtin id args)) (b args)
   (fun fin s' => match fin with | .done f => R (.ok f) s' | .again c' => c'.quiet = true ∧ codeC (model prog w) A c' R s') (fun e s' => R (.error e) s') s) :
  codeC (model prog w) A (.builtin id args) R s := by
 refine codeC.tree ?_
 show wpC _ _ (match entryFor table id with | some b => b args | none => unsupported ((withoutEnding? id "#data").getD id)) _ _ s
 exact hb ▸ h
theorem wpC.den {id : String} {args : Args} {b : Builtin} {R : PySem.Fin → SP} (hb : entryFor table id = some b) (h : wpC (model prog w) A (b args) R E s) : wpC (model prog w) A ((model prog w).den (.builtin id args)) R E s := by
 show wpC _ _ (match entryFor table id with | some b => b args | none => unsupported ((withoutEnding? id "#data").getD id)) _ _ s
 exact hb ▸ h
theorem codeC.callBuiltin {id : String} {args : Args} {b : Builtin} {R : Result → SP} (hq : plainId id = true) (hb : entryFor table id = some b) (hc : checkBuiltinCall id args = pure ())
  (h : wpC (model prog w) A.in1 (b args)
   (fun fin s' => match fin with | .done f => R (.ok f) s' | .again c' => c'.quiet = true ∧ codeC (model prog w) A c' R s') (fun e s' => R (.error e) s') s) :
  codeC (model prog w) A (.call (.builtin id) args) R s := by
 refine codeC.tree ?_
 show wpC _ A.in1 (do checkBuiltinCall id args; again (.builtin id args)) _ _ s
 refine hc ▸ ?_
 refine zw (zy (zP (zy (zP ⟨plainId_quiet hq args, ?_⟩))))
 exact codeC.builtin hb (by rw [Around.under_plainId hq args]; exact h)
theorem znf {α : Type} {M : Model} {v : Value} {k : Value → Sem α} {R : α → SP} (h : wpC M A ((int_private% "intFromObject") v) (fun a s' => wpC M A (k a) R E s') E s) : wpC M A ((int_private% "intFromObject") v >>= k) R E s := zw h
theorem zju {α : Type} {M : Model} {v : Value} {t : List Nat} {b : Nat} {k : Value → Sem α} {R : α → SP} (h : wpC M A ((int_private% "intFromText") v t b) (fun a s' => wpC M A (k a) R E s') E s) : wpC M A ((int_private% "intFromText") v t b >>= k) R E s := zw h
end
section
variable {prog : Program}
theorem cr_new1 {x : Str} {u : Tok} {R : Fin → SP} (hh : A.handled = none) (hl : (reprText x).length ≤ sizeLine)
  (hs : (numSeenOf x).length ≤ 640) (hr : (int_private% "readNumeral") 0 10 (numSeenOf x) = (int_private% "Numeral.invalid"))
  (h : ∀ h' e v tk', Heap.MadeExc s.heap h' e "ValueError" [v] → E (.ref e) { s with heap := h', toks := tk' }) :
  wpC (model prog w) A (Builtin.«int.__new__» ⟨[.type "int", .str x u], []⟩) R E s := by
 obtain ⟨hp, g, d, tk, os⟩ := s
 have f1 := F.conv_sub_int
 have f2 := F.madeHere_int
 have f3 := KIN.str_int
 have f4 := KIN.str_idx
 have f5 := KIN.str_trunc
 have f6 : typeOf (.str x u) = pure (.type "str") := rfl
 repeat (first
  | ((with_reducible refine znf ?_))
  | (with_reducible refine zju ?_)
  | ((with_reducible show wpC _ _ ((int_private% "intFromText") _ _ _) _ _ _); exact zmv hh hl hs hr h)
  | wp_step
  | with_reducible refine zw (zy ?_)
  | with_reducible refine wpC.iteF (fun z => by injection z) ?_
  | with_reducible refine wpC.iteT rfl ?_
  | ((with_reducible show wpC _ _ _ _ _ _); first | refine znf ?_ | refine zju ?_ | dsimp only | refine zw (zy ?_)))
theorem cr_new2 {x : Str} {u u' : Tok} {R : Fin → SP} (hh : A.handled = none) (hl : (reprText x).length ≤ sizeLine)
  (hs : (numSeenOf x).length ≤ 640) (hr : (int_private% "readNumeral") 0 10 (numSeenOf x) = (int_private% "Numeral.invalid"))
  (h : ∀ h' e v tk', Heap.MadeExc s.heap h' e "ValueError" [v] → E (.ref e) { s with heap := h', toks := tk' }) :
  wpC (model prog w) A (Builtin.«int.__new__» ⟨[.type "int", .str x u, .int 10 u'], []⟩) R E s := by
 obtain ⟨hp, g, d, tk, os⟩ := s
 have f1 := F.conv_sub_int
 have f2 := F.madeHere_int
 have f6 : typeOf (.str x u) = pure (.type "str") := rfl
 repeat (first
  | (with_reducible refine zju ?_)
  | ((with_reducible show wpC _ _ ((int_private% "intFromText") _ _ _) _ _ _); exact zmv hh hl hs hr h)
  | wp_step
  | with_reducible refine zw (zy ?_)
  | with_reducible refine wpC.iteF (fun z => by injection z) ?_
  | with_reducible refine wpC.iteT rfl ?_
  | ((with_reducible show wpC _ _ _ _ _ _); first | refine znf ?_ | refine zju ?_ | dsimp only | refine zw (zy ?_)))
theorem zei {T newId initId : String} {Bn : Builtin} {args : List Value} (ft : TypeCalled T newId initId)
  (hct : checkTypeCall T ⟨args, []⟩ = pure ()) (hcn : checkBuiltinCall newId ⟨.type T :: args, []⟩ = pure ()) (entryN : entryFor table newId = some Bn)
  (h : wpC (model prog w) A.in1.in1 (Bn ⟨.type T :: args, []⟩) (fun j j => False) E s) :
  wpC (model prog w) A (call (.type T) args) Q E s := by
 obtain ⟨c, tl, hmro⟩ := ft.mro
 have hmade := ft.made
 have hsub := ft.sub
 refine wpC.call (codeC.tree ?_)
 show wpC _ _ (callAny (.type T) _) _ _ _
 refine zy (zP ⟨Code.quiet_builtin _ (by decide +kernel), codeC.builtin F.entry_type_call ?_⟩)
 rw [Around.under_plain (weight_type_call_type T args []) (units_type_call_type T args [])]
 have h1 := ft.notType
 have h2 := ft.canCreate
 refine wpC.iteF (by rw [h1]; exact zF) ?_
 refine wpC.iteF (c := ((Manifest.find? T).bind fun x => List.findSome? (fun t => (Manifest.find? t).bind fun b => if b.noNew = true then some true else if (b.attrs.any fun x => x.fst == "__new__") = true then some false else none) x.mro).getD false = true) (by rw [h2]; exact zF) ?_
 refine hct ▸ ?_
 refine zw (zy (zP ?_))
 refine hmro ▸ ?_
 refine zw (zy (zP ?_))
 refine wpC.iteF (by simp) ?_
 refine hmade ▸ ?_
 refine zw (zy (zP ?_))
 refine zw (zy (zP ?_))
 refine zw (wpC.holding (wpC.call ?_))
 refine codeC.mono (codeC.callBuiltin (R := fun r s' => match r with | .ok _ => False | .error e => E e s') ft.plain entryN hcn (h.mono (fun j j z => z.elim) fun j j z => z)) fun r s₁ hr => ?_
 cases r with
 | error e => exact hr
 | ok fl => exact hr.elim
theorem zfo {x : Str} (hx : x.length ≤ 640) (hn : PySem.intText? x = none) (h0 : ∀ c ∈ x.cps.toList, c ≠ 0 ∧ c < 128) : (numSeenOf x).length ≤ 640 ∧ (int_private% "readNumeral") 0 10 (numSeenOf x) = (int_private% "Numeral.invalid") := by
 have hs : (numSeenOf x).length ≤ 640 := zT (seen_length x) hx
 refine ⟨hs, ?_⟩
 rcases read0 x hs with ⟨m, h1, _⟩ | ⟨_, h2 | ⟨i, _, h3⟩⟩
 ·rw [hn] at h1; cases h1
 ·exact h2
 ·refine absurd ?_ h3
  have e : numSeenOf x = numTextOf x := by
   have e1 : numTextOf x = x.cps.toList := by
    show (if x.cps.all (· < 128) then x.cps.toList else Unicode.numberText x.cps.toList) = _
    rw [zH]
    refine Array.all_toList ▸ ?_
    simp only [List.all_eq_true, decide_eq_true_eq]
    exact fun c hc => (h0 c hc).2
   show (numTextOf x).takeWhile (· != 0) = _
   refine e1 ▸ ?_
   exact takeWhile_all fun c hc => by simpa using (h0 c hc).1
  rw [e]; simp
theorem zla {x : Str} (hx : x.length ≤ 640) (h0 : ∀ c ∈ x.cps.toList, c ≠ 0 ∧ c < 128) : (reprText x).length ≤ sizeLine := by
 have := PySem.StrLaws.reprText_len x (fun c hc => zV (h0 c hc).2 (by decide))
 have sz : sizeLine = 16777216 := rfl
 exact om38 hx this
theorem zmw {x : Str} {u : Tok} (hh : A.handled = none) (hx : x.length ≤ 640) (hn : PySem.intText? x = none) (h0 : ∀ c ∈ x.cps.toList, c ≠ 0 ∧ c < 128)
  (h : ∀ h' e v tk', Heap.MadeExc s.heap h' e "ValueError" [v] → E (.ref e) { s with heap := h', toks := tk' }) :
  wpC (model prog w) A (call (.type "int") [.str x u]) Q E s :=
 zei F.called_int (F.typeCall_int_1 _) (F.newCall_int_1 _) F.entry_int_new (cr_new1 hh (zla hx h0) (zfo hx hn h0).1 (zfo hx hn h0).2 h)
theorem zks (a b : Value) : checkTypeCall "int" ⟨[a, b], []⟩ = pure () := by rw [Fast.te11612656972197000677]; kernel_rfl
theorem zlu (a b : Value) : checkBuiltinCall "int.__new__" ⟨[.type "int", a, b], []⟩ = pure () := by rw [Fast.te10254737850608025244]; kernel_rfl
theorem cr_int2 {x : Str} {u u' : Tok} (hh : A.handled = none) (hx : x.length ≤ 640) (hn : PySem.intText? x = none) (h0 : ∀ c ∈ x.cps.toList, c ≠ 0 ∧ c < 128)
  (h : ∀ h' e v tk', Heap.MadeExc s.heap h' e "ValueError" [v] → E (.ref e) { s with heap := h', toks := tk' }) :
  wpC (model prog w) A (call (.type "int") [.str x u, .int 10 u']) Q E s :=
 zei F.called_int (zks _ _) (zlu _ _) F.entry_int_new (cr_new2 hh (zla hx h0) (zfo hx hn h0).1 (zfo hx hn h0).2 h)
theorem zig {x : PySem.Str} {u u' : Tok} {n : Int} (hl : x.length ≤ 640) (hn : PySem.intText? x = some n) : Gives (Builtin.«int.__new__» ⟨[.type "int", .str x u, .int 10 u'], []⟩) (.int n) :=
 .of_wp fun M A E s Q h => by
  obtain ⟨hp, g, d, tk, os⟩ := s
  have f1 := F.conv_sub_int
  have f2 := F.madeHere_int
  have f6 : typeOf (.str x u) = pure (.type "str") := rfl
  have hs : (numSeenOf x).length ≤ 640 := zT (seen_length x) hl
  have hr : (int_private% "readNumeral") 0 10 (numSeenOf x) = (int_private% "Numeral.value") n ∧ ((numSeenOf x).length == (numTextOf x).length) = true := by
   rcases read0 x hs with ⟨m, h1, h2, h3⟩ | ⟨h1, _⟩
   ·rw [hn] at h1
    injection h1 with h1
    subst h1
    exact ⟨h3, h2⟩
   ·rw [hn] at h1
    cases h1
  have hk := KIN.Hid.mk (And.intro hs hr)
  clear hs hr hl hn
  repeat (any_goals (first
   | assumption
   | ((with_reducible show wpAny _ _ ((int_private% "intFromText") _ _ _) _ _ _); refine KIN.wp_text hk.out.1 hk.out.2.1 hk.out.2.2 ?_)
   | wp_step))
  all_goals first | exact ⟨_, rfl, h⟩ | skip
theorem ct_int2 {x : Str} {u u' : Tok} {n : Int} (hn : PySem.intText? x = some n) (hl : x.length ≤ 640) (h : Q (.int n s.toks) { s with toks := s.toks + 1 }) : wpAny (model prog w) A (call (.type "int") [.str x u, .int 10 u']) Q E s :=
 callType_new F.called_int F.newNe_int (zks _ _) (zlu _ _) (fun obj => F.args_object_init_3 obj _ _) F.entry_int_new (zig hl hn).meets (show (Made.int n).post _ s from ⟨rfl, h⟩)
end
section
theorem St.slots (S : St uu ww X vv L l ro rw tl h) {h' : Heap} (k : ∀ (b : Nat) o, h.get? b = some o → b ≠ L → b ∉ zab vv → h'.get? b = some o) (f : ∀ (b : Nat) o, h.get? b = some o → (b = L ∨ b ∈ zab vv) → ∃ sl, h'.get? b = some { o with slots := sl }) :
  St uu ww X vv L l ro rw tl h' := by
 obtain ⟨oL, esL, epL, hgL, qz⟩ := S.ns
 have hdL := qz.1
 have hz := qz.2
 obtain ⟨sl, hgL'⟩ := f L oL hgL (.inl rfl)
 have tupK : ∀ (b : Nat) o, h.get? b = some o → o.cls = .type "tuple" → (∃ vs n, o.data = .seq vs n) → h'.get? b = some o := by
  intro b o e hc ⟨vs, n, hd⟩
  refine k b o e (fun q => ?_) (fun q => ?_)
  ·subst q; rw [hgL] at e; cases e; rw [hdL] at hd; cases hd
  ·obtain ⟨o', es, ep, _, e', hd'⟩ := S.fr.mem q
   rw [e] at e'; cases e'; rw [hd] at hd'; cases hd'
 have bk : ∀ (b : Nat) o, h.get? b = some o → (∃ o', uu.get? b = some o') → h'.get? b = some o := by
  intro b o e ⟨o', e'⟩
  refine k b o e (fun q => by rw [q, S.baseL] at e'; cases e') (fun q => ?_)
  obtain ⟨_, _, _, qz⟩ := S.fr.mem q
  have z := qz.1
  rw [z] at e'; cases e'
 refine ⟨S.inv.keeps bk, S.fr.keeps fun b o hb e => f b o e (.inr hb), ?_, S.above, S.low, S.based, ⟨_, esL, epL, hgL', hdL, hz⟩, ?_, ?_, S.nd, S.sep, ?_⟩
 ·have nL : ∀ (b : Nat) o, ww.get? b = some o → b ≠ L := by rintro b o e rfl; rw [S.above] at e; cases e
  refine ⟨fun b o e p q r => k b o (S.keep.obj b o e p q r) (nL b o e) p, fun b o e p => ?_, fun b o e p q => tupK b o (S.keep.tup b o e p q) p q, fun b o e => ?_⟩
  ·obtain ⟨s1, e1⟩ := S.keep.frm b o e p
   obtain ⟨s2, e2⟩ := f b _ e1 (.inr p)
   exact ⟨s2, e2⟩
  ·obtain ⟨o', e'⟩ := S.keep.there b o e
   by_cases hb : b ∈ zab vv
   ·obtain ⟨s2, e2⟩ := f b _ e' (.inr hb); exact ⟨_, e2⟩
   ·exact ⟨o', k b o' e' (nL b o e) hb⟩
 ·intro p hp
  have qz := S.hro p hp
  have a1 := qz.1
  have a2 := qz.2.1
  have a3 := qz.2.2.1
  have a4 := qz.2.2.2
  exact ⟨k _ _ a1 a2 a3, a2, a3, a4⟩
 ·intro p hp
  have qz := S.hrw p hp
  have a1 := qz.1
  have a2 := qz.2.1
  have a3 := qz.2.2.1
  have a4 := qz.2.2.2
  exact ⟨k _ _ a1 a2 a3, a2, a3, a4⟩
 ·intro t ht
  exact (S.htl t ht).move tupK
theorem FrOk.fun {b0 : Heap} : ∀ {vv : List Env} (f : FrOk uu vv h) (hb : ∀ b ∈ zab vv, b0.get? b = none), h.FunFrames b0 vv
 | [], _, _ => trivial
 | e :: r, f, hb => by
  obtain ⟨k, L, o, es, ep, qz⟩ := f e (.head _)
  have q := qz.1
  have x := qz.2.1
  have y := qz.2.2.1
  have z := qz.2.2.2
  have eF : zab (e :: r) = L :: zab r := by unfold zab; rw [List.filterMap_cons, q]
  rw [eF] at hb
  refine ⟨k, ⟨L, o, q, hb _ (.head _), y, fun vs e => by rw [z] at e; cases e⟩, FrOk.fun (fun e' he' => f e' (.tail _ he')) fun b hb' => hb b (.tail _ hb')⟩
def Thrown (w : World) (uu ww : Heap) (X : List Nat) (vv : List Env) (L : Nat) (A : Around) (env : Env) (g : Array GenState) (d : Drawn) (os : OsState) (suite : List Stmt) (After : Flow → SP) (e : Value) (s₁ : Shared) : Prop :=
 ∃ a v h hh tk l ro rw tl, e = .ref a ∧ s₁ = ⟨hh, g, d, tk, os⟩ ∧ St uu ww X vv L l ro rw tl h ∧ Heap.MadeExc h hh a "ValueError" [v] ∧
  ∀ h' tk', St uu ww X vv L l ro rw tl h' → wpAny (Mo w) (A.mark (some (.ref a))) (execs suite env) After (fun j j => False) ⟨h', g, d, tk', os⟩
theorem subVE1 : isSubtype (.type "ValueError") (.type "BaseException") = pure true := isSubtype_of_subB (by decide +kernel)
theorem subVE2 : isSubtype (.type ((Manifest.find? "ValueError").elim "type" fun x => x.metatype)) (.type "tuple") = pure false := isSubtype_of_subB (by decide +kernel)
theorem subVE3 : isSubtype (.type "ValueError") (.type "ValueError") = pure true := isSubtype_of_subB (by decide +kernel)
theorem zfl {suite : List Stmt} {b₀ : Stmt} {hpos np : Pos} {Q : Flow → SP} {e : Value} {s₁ : Shared} (G : Gd w uu) (hfr : A.frames = some (env :: vv)) (hf : env.frame = some L) (hm : env.scope.kind ≠ .module)
  (hT : Thrown w uu ww X vv L A env g d os (b₀ :: suite) Q e s₁)
  (hv : nsIn (KK w) mainGlobals (ofString "ValueError") = some none) (hk : env.scope.kind = .function) (hl : env.kindOf (ofString "ValueError") = some .globalImplicit) (hG : env.globals = 3) (hB : env.builtins = 0) :
  wpAny (Mo w) A (noteFrame e env) (fun j s₂ => wpAny (Mo w) A (setFlight e none) (fun j s₃ => wpAny (Mo w) A (handleBy e env [.ExceptHandler (some (.Name (ofString "ValueError") np)) none (b₀ :: suite) hpos]) Q E s₃) E s₂) E s₁ := by
 obtain ⟨a, v, h, hh, tk, l, ro, rw, tl, qz⟩ := hT
 obtain rfl := qz.1
 obtain rfl := qz.2.1
 have S := qz.2.2.1
 have hx := qz.2.2.2.1
 have hK := qz.2.2.2.2
 obtain ⟨t, qz⟩ := hx.there
 have he := qz.1
 have htn := qz.2.1
 have ht := qz.2.2
 have eF : zab (env :: vv) = L :: zab vv := by unfold zab; rw [List.filterMap_cons, hf]
 have goneN : ∀ b ∈ zab (env :: vv), (TI.gone h (zab (env :: vv))).get? b = none := fun b hb => TI.gone_none hb
 have wd := S.wd (env := env) hf hm
 have ff : hh.FunFrames (TI.gone h (zab (env :: vv))) (env :: vv) :=
  Heap.FunFrames.of_keeps (fun b o e j => ⟨o, hx.keeps b o e, rfl⟩) (FrOk.fun wd.fr goneN)
 have stay : (TI.gone h (zab (env :: vv))).StaysIn hh := fun b o e => hx.keeps b o (TI.gone_some e).2
 have gone_e : (TI.gone h (zab (env :: vv))).get? a = none := by
  cases q : (TI.gone h (zab (env :: vv))).get? a with
  | none => rfl
  | some o => have := (TI.gone_some q).2; rw [hx.new] at this; cases this
 have land : ∀ h', (TI.gone h (zab (env :: vv))).StaysIn h' → h.UpToSlots h' → St uu ww X vv L l ro rw tl h' := by
  intro h' k u
  refine S.slots (fun b o e p q => k b o ?_) (fun b o e p => ?_)
  ·rw [TI.gone_get]; exact e
   rw [eF]; intro z
   rcases zC z with z | z
   ·exact p z
   ·exact q z
  ·refine u b o e ?_
   rcases p with rfl | p
   ·obtain ⟨oL, esL, epL, hgL, hdL, hz⟩ := S.ns
    rw [e] at hgL; cases hgL
    intro vs z; rw [hdL] at z; cases z
   ·obtain ⟨o', es, ep, _, e', hd'⟩ := S.fr.mem p
    rw [e] at e'; cases e'
    intro vs z; rw [hd'] at z; cases z
 unfold noteFrame
 simp only [hf]
 refine zB (wpAny_field (x := .none) he rfl rfl ?_)
 refine wpAny_newEntryW (a0 := .ref t) hfr ff hf he stay gone_e rfl (zV (by decide : 1 < 6) (Ze _)) rfl fun h₁ hL => ?_
 have k1 := hL.1
 have k2 := hL.2.1
 have k3 := hL.2.2.1
 have k4 := hL.2.2.2
 have u1 : h.UpToSlots h₁ := fun b o e hn => k4 b o (hx.keeps b o e) hn
 have S1 := land h₁ k1 u1
 have fly : Heap.FlyingW (TI.gone h (zab (env :: vv))) (env :: vv) a (.type "ValueError") (.ref t) h₁ := ⟨k1, gone_e, k2, k3⟩
 refine wpAny_handleBy_builtin (X := "ValueError") (T := "ValueError") (b := true) subVE1 subVE2 subVE3 ?_
 refine e_blt G S1.inv hv zgf ?_ hk hl hG hB
 refine ⟨rfl, fly.there, ?_⟩
 refine lands_againW fly fun h₂ f2 u2 => ?_
 have S2 := land h₂ f2.1 (u1.trans u2)
 exact zM (hK h₂ _ S2) (fun j j z => z) fun j j z => z.elim
theorem zmr {body orelse rest : List Stmt} {suite : List Stmt} {b₀ : Stmt} {hpos np : Pos} {Q : Flow → SP} {s : Shared} (G : Gd w uu) (hfr : A.frames = some (env :: vv)) (hf : env.frame = some L) (hm : env.scope.kind ≠ .module)
  (hb : wpC (Mo w) A (execs body env) (FlC (Mo w) A E env orelse (FlC (Mo w) A E env rest Q))
   (Thrown w uu ww X vv L A env g d os (b₀ :: suite) (FlC (Mo w) A E env rest Q)) s)
  (hv : nsIn (KK w) mainGlobals (ofString "ValueError") = some none := by rfl) (hk : env.scope.kind = .function := by rfl) (hl : env.kindOf (ofString "ValueError") = some .globalImplicit := by rfl) (hG : env.globals = 3 := by rfl) (hB : env.builtins = 0 := by rfl) :
  wpC (Mo w) A (execs (.Try body [.ExceptHandler (some (.Name (ofString "ValueError") np)) none (b₀ :: suite) hpos] orelse [] pos :: rest) env) Q E s := by
 refine zef ?_
 refine zw (zy (wpAny_standAt ?_))
 refine zw (wpC.attempt (hb.mono (fun f s₁ h₁ => ?_) fun e s₁ h₁ => ?_))
 ·cases f <;> first | exact h₁ | exact zy (zP h₁)
 ·refine zy (zB (zM (zfl G hfr hf hm h₁ hv hk hl hG hB) (fun j j h₂ => zB h₂) fun j j x => x))
end
open Builtin Builtin.Str
section
theorem zm5 {f : Nat} {fd : FuncData} {o : Obj} {body : List Stmt} {args : List Value} {kw : LS} {binds : LS} {n : Nat} {Q : VP}
  (G : Gd w uu) (W : Wd uu vv h) (P : Rm A vv (n + 1))
  (ho : h.get? f = some o) (hdat : o.data = .func fd) (hco : fd.scope.isCoroutine = false) (hgen : fd.scope.isGenerator = false) (hbody : fd.body = .stmts body) (hcd : h.CodeRec fd.code fd.qualname)
  (hk : fd.scope.kind = .function) (hcell : ∀ x ∈ fd.scope.names, x.2 ≠ .cell) (hloc : ∀ x ∈ binds, fd.scope.names.lookup x.1 = some .local)
  (hbind : wpAny (Mo w) A.in1 (bindArgs fd ⟨args, kw⟩) (fun b s => b = binds ∧ s = ⟨h, g, d, tk, os⟩) (fun j j => False) ⟨h, g, d, tk, os⟩)
  (hb : ∀ L h₁ tk₁, St uu h [] vv L binds.reverse [] [] [] h₁ → Rm (A.deeper (fenv fd f L)) (fenv fd f L :: vv) n →
   wpC (Mo w) (A.deeper (fenv fd f L)) (execs body (fenv fd f L)) (fun fl s' => Q (match fl with | .ret v => v | _ => .none) s') (fun j j => False) ⟨h₁, g, d, tk₁, os⟩) :
  wpC (Mo w) A (call (.ref f) args kw) Q E ⟨h, g, d, tk, os⟩ := by
 refine wpC.call (codeC.tree ?_)
 refine zw (zy (wpAny_load ho ?_))
 obtain ⟨c, oc, vs, tq, qz⟩ := hcd
 have hc := qz.1
 have hoc := qz.2.1
 have hdc := qz.2.2.1
 have hq := qz.2.2.2
 simp only [hdat, callFunction, hco, hgen, hbody]
 refine hc ▸ ?_
 refine zw (m := field (.ref c) 1) (zy (wpAny_field hoc hdc hq (zw (zy (zP ?_)))))
 refine zw (zy (zM hbind (fun b s q => ?_) fun j j x => x.elim))
 obtain rfl := q.1
 obtain rfl := q.2
 refine zw (zy (wpAny_newFunctionEnv hcell hloc (fun h' hns hsb => ?_) hk))
 refine zw (zy (wpAny_enterFrame ((G.nolim W.inv).fresh _ hsb) P.room (zy (zP ⟨rfl, ?_⟩))))
 refine codeC.tree ?_
 have kp : ∀ (b : Nat) o, h.get? b = some o → h'.get? b = some o := fun b o e => (hsb.2 b (Nat.ne_of_lt (Heap.lt_size e))).trans (zQ _ e)
 have S : St uu h [] vv h.objs.size b.reverse [] [] [] h' := by
  refine ⟨W.inv.keeps fun b o e j => kp b o e, W.fr.keeps fun b o j e => ⟨o.slots, kp b o e⟩, .of kp, getN, ?_, fun b o e => W.inv.there e, hns, ?_, ?_, List.nodup_nil, ?_, ?_⟩
  ·intro b hb
   obtain ⟨o, es, ep, qz⟩ := W.fr.mem hb
   have e := qz.2.1
   exact ⟨o, e⟩
  all_goals (intro _ hp; exact nomatch hp)
 rw [← hc]
 have H := hb h.objs.size h' (tk + b.length) S (P.deeper _)
 show wpC _ (A.deeper _) (do point; match ← (execs body _).onRaise (leaving _) with | .ret v => ret v | _ => ret .none) _ _ _
 refine zw (zy (wpAny_point (zw (wpC.onRaise (H.mono (fun f s' h' => ?_) fun j j z => z.elim)))))
 cases f <;> exact zy (zP h')
theorem zim {s : Shared} {f : Nat} {first : List Value} {args : List (Bool × Sem Value)} {Q : VP} {pos : Pos} (hk : keepIn (KS w) (.ref f) = true)
  (h : wpAny (Mo w) A (spliced args) (fun vs s₁ => (KS w).In s₁.heap ∧ wpC (Mo w) A (call (.ref f) (first ++ vs)) Q E s₁) E s) (hp : args.any (·.1) = false := by rfl) :
  wpC (Mo w) A (callWith pos (.ref f) first args []) Q E s :=
 cw_lookC hp (zbg hp (zM h (fun vs s₁ q => ⟨keeps_K hk _ q.1, q.2⟩) fun j j z => z))
theorem zgc {M : Model} {s : Shared} {T : String} {first : List Value} {args : List (Bool × Sem Value)} {Q : VP} {pos : Pos}
  (h : wpC M A (spliced args) (fun vs s₁ => wpC M A (call (.type T) (first ++ vs)) Q E s₁) E s) (hp : args.any (·.1) = false := by rfl) :
  wpC M A (callWith pos (.type T) first args []) Q E s := by
 have ha : wpC M A (evalArgs (.type T) true args []) (fun a s₁ => a.kw = [] ∧ wpC M A (call (.type T) (first ++ a.pos)) Q E s₁) E s := by
  cases args with
  | nil =>
   refine zw (h.mono (fun vs s' h' => ?_) fun j j x => x)
   exact zy (zB (zP (wpAny_holding (zB (zP (zB (zP (zP ⟨rfl, h'⟩))))))))
  | cons a r =>
   obtain ⟨b, x⟩ := a
   cases b with
   | true => simp at hp
   | false =>
    refine zw (h.mono (fun vs s' h' => ?_) fun j j x => x)
    exact zy (zB (zP (wpAny_holding (zB (zP (zB (zP (zP ⟨rfl, h'⟩))))))))
 refine zw (wpC.holding (ha.mono (fun a s₁ q => ?_) fun j j z => z))
 have hkw := q.1
 have q := q.2
 refine zw (zy (wpAny_standAt ?_))
 simp only [hp, List.any_nil, Bool.or_false]
 refine zw (zy (zP ?_))
 refine hkw ▸ ?_
 exact zw (q.mono (fun r s₂ z => zy (zB (wpAny_holding (wpAny_point (zP z))))) fun j j z => z)
end
section
theorem zlk {x y : Str} {t u : Nat} (S : St uu ww X vv L l ro rw tl h) (hy : (y.length == 0) = false) (hx : x.length + 2 ≤ sizeLine)
  (hq : ∀ (a : Nat) vs h' tk', StrsAre vs (Txt.split x y) → St uu ww X vv L l ro ((a, zaa vs) :: rw) tl h' → Q (.ref a) ⟨h', g, d, tk', os⟩) :
  wpAny (Mo w) A (call (.builtin "str.split") [.str x t, .str y u]) Q E ⟨h, g, d, tk, os⟩ := by
 have new : ∀ l' : List (Str × Tok), l'.map (·.1) = Txt.split x y → ∀ tk', Q (.ref h.objs.size) ⟨h.push { cls := .type "list", data := .seq (strValues l').toArray }, g, d, tk', os⟩ := fun l' e tk' =>
  hq _ _ _ tk' (e ▸ strsAre_of_values l') (S.allocW (zaa (strValues l')) rfl (clsNe (by decide)))
 have hn : (partsBetween x (occurrences x y 0 x.length (x.length + 1)) y.length).length ≤ sizeLine := by
  have e1 := StrLaws.occ_length_le x y 0 x.length (x.length + 1)
  rw [length_partsBetween]; exact om195 hx e1
 by_cases h1 : (decide (x.length < y.length) || decide (strKind x < strKind y)) = true
 ·exact call_meets F.slot_str_split (typeIs_str _ _ _) F.entry_str_split (F.args_str_split_2 _ _) (meets_str_split_cannot_occur x y t u h1) (new [(x, t)] (by unfold Txt.split; rw [if_pos h1]; rfl) tk)
 ·have h1' : (decide (x.length < y.length) || decide (strKind x < strKind y)) = false := by simpa using h1
  by_cases hf : (occurrences x y 0 x.length (x.length + 1)).isEmpty = true
  ·exact call_meets F.slot_str_split (typeIs_str _ _ _) F.entry_str_split (F.args_str_split_2 _ _) (meets_str_split_not_found x y t u h1' hy hf) (new [(x, t)] (by unfold Txt.split; rw [if_neg h1, if_pos hf]; rfl) tk)
  ·refine call_meets F.slot_str_split (typeIs_str _ _ _) F.entry_str_split (F.args_str_split_2 _ _) (meets_str_split_sep x y t u h1' hy (by simpa using hf) (by exact om196 hx) hn) ?_
   have := new (numbered tk (partsBetween x (occurrences x y 0 x.length (x.length + 1)) y.length)) (by unfold Txt.split; rw [if_neg h1, if_neg hf]; exact numbered_texts _ _) (tk + (partsBetween x (occurrences x y 0 x.length (x.length + 1)) y.length).length)
   rw [← strsFrom_eq] at this
   exact this
end
structure RetX (uu : Heap) (vv : List Env) (Y : List Nat) (h h' : Heap) : Prop where
 keep : Keep (zab vv) Y h h'
 inv : Inv uu h'
structure Own (uu : Heap) (vv : List Env) (h : Heap) (p : LO) : Prop where
 at_ : ∀ q ∈ p, h.get? q.1 = some q.2 ∧ q.1 ∉ zab vv ∧ uu.get? q.1 = none ∧ q.2.cls ≠ .type "tuple"
 nd : (p.map (·.1)).Nodup
inductive UpdW (h' : Heap) (Y : List Nat) : LO → LO → Prop where
 | nil : UpdW h' Y [] []
 | keep {p r r'} : p.1 ∉ Y → UpdW h' Y r r' → UpdW h' Y (p :: r) (p :: r')
 | chg {a o o' r r'} : h'.get? a = some o' → o'.cls ≠ .type "tuple" → UpdW h' Y r r' → UpdW h' Y ((a, o) :: r) ((a, o') :: r')
theorem UpdW.fst {h' : Heap} {Y : List Nat} {r r' : LO} (u : UpdW h' Y r r') : r'.map (·.1) = r.map (·.1) := by
 induction u with
 | nil => rfl
 | keep _ _ ih => simp [ih]
 | chg _ _ _ ih => simp [ih]
theorem UpdW.mem {h' : Heap} {Y : List Nat} {r r' : LO} (u : UpdW h' Y r r') : ∀ p ∈ r', (p ∈ r ∧ p.1 ∉ Y) ∨ (∃ o, (p.1, o) ∈ r ∧ h'.get? p.1 = some p.2 ∧ p.2.cls ≠ .type "tuple") := by
 induction u with
 | nil => intro p hp; exact nomatch hp
 | keep hy _ ih =>
  intro p hp
  rcases zC hp with rfl | hp
  ·exact .inl ⟨.head _, hy⟩
  ·rcases ih p hp with ⟨a, b⟩ | ⟨o, a, b⟩
   ·exact .inl ⟨.tail _ a, b⟩
   ·exact .inr ⟨o, .tail _ a, b⟩
 | chg e c _ ih =>
  intro p hp
  rcases zC hp with rfl | hp
  ·exact .inr ⟨_, .head _, e, c⟩
  ·rcases ih p hp with ⟨a, b⟩ | ⟨o, a, b⟩
   ·exact .inl ⟨.tail _ a, b⟩
   ·exact .inr ⟨o, .tail _ a, b⟩
section
theorem St.retX (S : St uu ww X vv L l ro rw tl h) : RetX uu vv X ww h := ⟨S.keep, S.inv⟩
theorem zbl {env : Env} (hL : env.frame = some L) : zab (env :: vv) = L :: zab vv := by unfold zab; rw [List.filterMap_cons, hL]
theorem St.own (S : St uu ww X vv L l ro rw tl h) {p : LO} (hs : p.Sublist rw) (hc : ∀ q ∈ p, q.2.cls ≠ .type "tuple") (hL : env.frame = some L) : Own uu (env :: vv) h p := by
 refine ⟨fun q hq => ?_, S.nd.sublist (hs.map _)⟩
 have qz := S.hrw q (hs.subset hq)
 have a1 := qz.1
 have a2 := qz.2.1
 have a3 := qz.2.2.1
 have a4 := qz.2.2.2.1
 refine ⟨a1, fun z => ?_, a4, hc q hq⟩
 rw [zbl hL] at z
 rcases zC z with z | z
 ·exact a2 z
 ·exact a3 z
theorem St.backX (S : St uu ww X vv L l ro rw tl h) {h' : Heap} (r : RetX uu (env :: vv) Y h h') (hL : env.frame = some L) {rw' : LO} (hY : ∀ y ∈ Y, ∃ o, (y, o) ∈ rw) (u : UpdW h' Y rw rw') : St uu ww X vv L l ro rw' tl h' := by
 have k := r.keep
 rw [zbl hL] at k
 obtain ⟨oL, esL, epL, qz⟩ := S.ns
 have hgL := qz.1
 have hdL := qz.2.1
 have hz := qz.2.2
 obtain ⟨sl, hgL'⟩ := k.frm L oL hgL (.head _)
 have ec : ∀ b : Nat, b ∈ List.map (·.1) rw' ↔ b ∈ List.map (·.1) rw := by intro b; rw [u.fst]
 refine ⟨r.inv, S.fr.keeps fun b o hb e => k.frm b o e (.tail _ hb), ?_, S.above, S.low, S.based, ⟨_, esL, epL, hgL', hdL, hz⟩, ?_, ?_, by rw [u.fst]; exact S.nd, ?_, ?_⟩
 ·refine ⟨fun b o e p q t => ?_, fun b o e p => ?_, fun b o e p q => k.tup b o (S.keep.tup b o e p q) p q, fun b o e => let ⟨o', e'⟩ := S.keep.there b o e; k.there b o' e'⟩
  ·refine k.obj b o (S.keep.obj b o e p q t) (fun hm => ?_) (fun hm => ?_) t
   ·rcases zC hm with x | x
    ·rw [x, S.above] at e; cases e
    ·exact p x
   ·obtain ⟨o', ho'⟩ := hY b hm
    have qz := S.hrw _ ho'
    have x := qz.2.2.2.2.1
    dsimp only at x
    rcases x with x | x
    ·exact q x
    ·rw [x] at e; cases e
  ·obtain ⟨s1, e1⟩ := S.keep.frm b o e p
   obtain ⟨s2, e2⟩ := k.frm b _ e1 (.tail _ p)
   exact ⟨s2, e2⟩
 ·intro p hp
  obtain ⟨a1, qz⟩ := S.hro p hp
  have a2 := qz.1
  have a3 := qz.2.1
  have a4 := qz.2.2
  refine ⟨k.obj _ _ a1 (fun hm => ?_) (fun hm => ?_) a4, a2, a3, a4⟩
  ·rcases zC hm with x | x
   ·exact a2 x
   ·exact a3 x
  ·obtain ⟨o', ho'⟩ := hY _ hm
   exact S.sep p hp _ ho' rfl
 ·intro p hp
  rcases u.mem p hp with ⟨a, b⟩ | ⟨o, a, e, c⟩
  ·obtain ⟨a1, a2, a3, a4, a5⟩ := S.hrw p a
   refine ⟨k.obj _ _ a1 (fun hm => ?_) b (fun ht => ?_), a2, a3, a4, a5⟩
   ·rcases zC hm with x | x
    ·exact a2 x
    ·exact a3 x
   ·obtain ⟨o, e⟩ := S.inv.tabLow ht; rw [a4] at e; cases e
  ·obtain ⟨_, a2, a3, a4, a5, _⟩ := S.hrw _ a
   exact ⟨e, a2, a3, a4, a5, .inl c⟩
 ·intro p hp q hq
  obtain ⟨o, ho⟩ : ∃ o, (q.1, o) ∈ rw := by
   have := (ec q.1).mp (List.mem_map.mpr ⟨q, hq, rfl⟩)
   obtain ⟨⟨a, b⟩, hab, rfl⟩ := List.mem_map.mp this
   exact ⟨b, hab⟩
  exact S.sep p hp (q.1, o) ho
 ·intro t ht; exact (S.htl t ht).keeps k
theorem zkh {f : Nat} {fd : FuncData} {o : Obj} {body : List Stmt} {args : List Value} {kw : LS} {binds : LS} {n : Nat} {R : Result → SP} {p : LO}
  (G : Gd w uu) (W : Wd uu vv h) (P : Rm A vv (n + 1)) (O : Own uu vv h p)
  (ho : h.get? f = some o) (hdat : o.data = .func fd) (hco : fd.scope.isCoroutine = false) (hgen : fd.scope.isGenerator = false) (hbody : fd.body = .stmts body) (hcd : h.CodeRec fd.code fd.qualname)
  (hk : fd.scope.kind = .function) (hcell : ∀ x ∈ fd.scope.names, x.2 ≠ .cell) (hloc : ∀ x ∈ binds, fd.scope.names.lookup x.1 = some .local)
  (hbind : wpAny (Mo w) A.in1 (bindArgs fd ⟨args, kw⟩) (fun b s => b = binds ∧ s = ⟨h, g, d, tk, os⟩) (fun j j => False) ⟨h, g, d, tk, os⟩)
  (hb : ∀ L h₁ tk₁, St uu h (p.map (·.1)) vv L binds.reverse [] p [] h₁ → Rm (A.deeper (fenv fd f L)) (fenv fd f L :: vv) n →
   PySem.wpAt (Mo w) (A.deeper (fenv fd f L)) (.func body (fenv fd f L)) (execs body (fenv fd f L)) (fun fl s' => R (.ok (.ret (match fl with | .ret v => v | _ => .none))) s') (fun j j => False) ⟨h₁, g, d, tk₁, os⟩) :
  codeAny (Mo w) A (.call (.ref f) ⟨args, kw⟩) R ⟨h, g, d, tk, os⟩ := by
 refine codeAny_call_function P.room ho hdat hco hgen hbody hcd (zM hbind (fun b s q => ?_) fun j j x => x.elim)
 obtain rfl := q.1
 obtain rfl := q.2
 refine wpAny_newFunctionEnv hcell hloc (fun h' hns hsb => ⟨(G.nolim W.inv).fresh _ hsb, ?_⟩) hk
 refine ks_codeAny_funcAt (ks_wpAt_mono (hb h.objs.size h' _ ?_ (P.deeper _)) (fun j j z => z) fun j j z => z.elim)
 have kp : ∀ (b : Nat) o, h.get? b = some o → h'.get? b = some o := fun b o e => (hsb.2 b (Nat.ne_of_lt (Heap.lt_size e))).trans (zQ _ e)
 refine ⟨W.inv.keeps fun b o e j => kp b o e, W.fr.keeps fun b o j e => ⟨o.slots, kp b o e⟩, .of kp, getN, ?_, fun b o e => W.inv.there e, hns, ?_, ?_, O.nd, ?_, ?_⟩
 ·intro b hb
  obtain ⟨o, es, ep, qz⟩ := W.fr.mem hb
  have e := qz.2.1
  exact ⟨o, e⟩
 ·intro _ hp; exact nomatch hp
 ·intro q hq
  have qz := O.at_ q hq
  have a1 := qz.1
  have a2 := qz.2.1
  have a3 := qz.2.2.1
  have a4 := qz.2.2.2
  exact ⟨kp _ _ a1, Nat.ne_of_lt (ltS a1), a2, a3, .inl (List.mem_map.mpr ⟨q, hq, rfl⟩), .inl a4⟩
 all_goals (intro _ hp; exact nomatch hp)
theorem zhr {f : Nat} {fd : FuncData} {o : Obj} {body : List Stmt} {args : List Value} {kw : LS} {binds : LS} {n : Nat} {Q : VP} {p : LO}
  (G : Gd w uu) (W : Wd uu vv h) (P : Rm A vv (n + 1)) (O : Own uu vv h p)
  (ho : h.get? f = some o) (hdat : o.data = .func fd) (hco : fd.scope.isCoroutine = false) (hgen : fd.scope.isGenerator = false) (hbody : fd.body = .stmts body) (hcd : h.CodeRec fd.code fd.qualname)
  (hk : fd.scope.kind = .function) (hcell : ∀ x ∈ fd.scope.names, x.2 ≠ .cell) (hloc : ∀ x ∈ binds, fd.scope.names.lookup x.1 = some .local)
  (hbind : wpAny (Mo w) A.in1 (bindArgs fd ⟨args, kw⟩) (fun b s => b = binds ∧ s = ⟨h, g, d, tk, os⟩) (fun j j => False) ⟨h, g, d, tk, os⟩)
  (hb : ∀ L h₁ tk₁, St uu h (p.map (·.1)) vv L binds.reverse [] p [] h₁ → Rm (A.deeper (fenv fd f L)) (fenv fd f L :: vv) n →
   wpAny (Mo w) (A.deeper (fenv fd f L)) (execs body (fenv fd f L)) (fun fl s' => Q (match fl with | .ret v => v | _ => .none) s') (fun j j => False) ⟨h₁, g, d, tk₁, os⟩) :
  wpAny (Mo w) A (call (.ref f) args kw) Q E ⟨h, g, d, tk, os⟩ :=
 wpAny_call (zkh G W P O ho hdat hco hgen hbody hcd hk hcell hloc hbind fun L h₁ tk₁ S R => wpAt_of_wpAny (hb L h₁ tk₁ S R))
theorem St.inst (S : St uu ww X vv L l ro rw tl h) {x dx C : Nat} {ox od : Obj} (hx : (x, ox) ∈ ro ∨ (x, ox) ∈ rw) (hd : (dx, od) ∈ ro ∨ (dx, od) ∈ rw) (hc : ox.cls = .ref C) (hn : notCls ox = true) (hdx : ox.dict = some dx) : InstAt h x ox C (some od) :=
 ⟨S.getR hx, hc, hn, by rw [hdx]; exact S.getR hd⟩
theorem zmm {value : Expr} {attr : Str} {Q : VP} {s : Shared} (h : wpAny (Mo w) A (eval value env) (fun o s₁ => wpAny (Mo w) A (getAttr o attr true) Q E s₁) E s)
  (hb : attributeBase value attr env (eval value env) = eval value env) : wpAny (Mo w) A (eval (.Attribute value attr pos) env) Q E s := by
 rw [arm_eval_Attribute, hb]
 refine zB (zM h (fun o s₁ h₁ => zB (wpAny_standAt (zB (wpAny_holding (zM h₁ (fun r s₂ h₂ => ?_) fun j j x => x))))) fun j j x => x)
 exact zB (wpAny_letTemporaryGo (zP h₂))
structure Plainly (w : World) (C : Nat) : Prop where
 ga : findIn (KS w) (.ref C) "__getattribute__" = some (some (.builtin "object.__getattribute__"))
 gk : findIn (KS w) (.ref C) "__getattr__" = some none
 sa : findIn (KS w) (.ref C) "__setattr__" = some (some (.builtin "object.__setattr__"))
 hd : hasDictIn (KS w) C = true
theorem zjh {x dx C : Nat} {ox : Obj} {es : List DictEntry} {n : Nat} {name : Str} {v : Value} {Q : VP} (G : Gd w uu) (S : St uu ww X vv L l ro rw tl h) (hC : Plainly w C)
  (hx : (x, ox) ∈ ro ∨ (x, ox) ∈ rw) (hd : (dx, dictOf es n) ∈ ro ∨ (dx, dictOf es n) ∈ rw) (hc : ox.cls = .ref C) (hn : notCls ox = true) (hdx : ox.dict = some dx)
  (ha : findIn (KS w) (.ref C) name = some none) (hl : getL name es = some (some v)) (hh : handedIn v = true) (hq : Q v ⟨h, g, d, tk + 1, os⟩) :
  wpAny (Mo w) A (getAttr (.ref x) name true) Q E ⟨h, g, d, tk, os⟩ :=
 get_value (G.ks S.inv) (S.inst hx hd hc hn hdx) hC.ga (findObj_own hC.hd ha rfl hl) hh hq
theorem n_meth {x dx C f : Nat} {ox : Obj} {es : List DictEntry} {n : Nat} {name : Str} {pl : Sem Bool} {Q : Value × List Value → SP} (G : Gd w uu) (S : St uu ww X vv L l ro rw tl h) (hC : Plainly w C)
  (hx : (x, ox) ∈ ro ∨ (x, ox) ∈ rw) (hd : (dx, dictOf es n) ∈ ro ∨ (dx, dictOf es n) ∈ rw) (hc : ox.cls = .ref C) (hn : notCls ox = true) (hdx : ox.dict = some dx)
  (ha : findIn (KS w) (.ref C) name = some (some (.ref f))) (ht : typeIn (KS w) (.ref f) = some (.type "function")) (hl : getL name es = some none) (hq : Q (.ref f, [.ref x]) ⟨h, g, d, tk, os⟩) :
  wpAny (Mo w) A (getMethod (.ref x) name pl) Q E ⟨h, g, d, tk, os⟩ :=
 method_fn (G.ks S.inv) (S.inst hx hd hc hn hdx) hC.ga hC.gk ha ht (by show (lookIn name (dictOf es n)).map _ = _; rw [lookIn_dict, hl]; rfl) hq
theorem zf9 {o : Expr} {name : Str} {args : List Expr} {Q : VP} {s : Shared}
  (h : wpAny (Mo w) A (eval o env) (fun ov s₁ => wpAny (Mo w) A (getMethod ov name (do return (← importBound o env).getD true)) (fun fx s₂ => wpAny (Mo w) A (callWith pos fx.1 fx.2 (backTo pos (starEach args env)) []) Q E s₂) E s₁) E s)
  (hb : attributeBase o name env (eval o env) = eval o env)
  (hform : methodCallForm (args.length + ([] : List Keyword).length) (backTo pos (starEach args env)) (backToKw pos (keywordEach [] env)) = true) (hline : (apos.endLine == pos.line) = true) :
  wpAny (Mo w) A (eval (.Call (.Attribute o name apos) args [] pos) env) Q E s := by
 rw [arm_eval_Call, hb]
 refine zB (zM h (fun ov s₁ h₁ => zB (wpAny_standAt ?_)) fun j j x => x)
 have hpos : methodCallPos true o env apos pos = pure pos := by unfold methodCallPos; simp [hline]
 unfold methodCall
 refine hform ▸ ?_
 refine zB (wpAny_holding (zM h₁ (fun fx s₂ h₂ => ?_) fun j j x => x))
 exact zB (wpAny_of_eq hpos h₂)
end
theorem za7 {w : World} : Plainly w 144 := ⟨rfl, rfl, rfl, rfl⟩
open Builtin.ObjectAttr
@[reducible] noncomputable def zad (ax : Nat) (vs : List Value) (n : Nat) : Obj := { cls := .ref 228, dict := some ax, data := .seq vs.toArray n }
section
theorem zbs {M : Model} {h : Heap} {x : Nat} {ox : Obj} {od : Option Obj} (X : (KS w).In h) (I : InstAt h x ox 228 od) : Looks M h (isInstance (.ref x) (.type "list")) true :=
 I.type.andThen (looks_mroIn X rfl)
theorem zet {M : Model} {h : Heap} {x : Nat} {ox : Obj} {od : Option Obj} (X : (KS w).In h) (I : InstAt h x ox 228 od) : Looks M h (isInstance (.ref x) (.type "object")) true :=
 I.type.andThen (looks_mroIn X rfl)
theorem zkf {M : Model} {s : Shared} {i owner n : String} {self : Value} {rest : List Value} {Q : Unit → SP}
  (hk : builtinKind i = some .method) (hs : splitId i = some (owner, n)) (hi : Looks M s.heap (isInstance self (.type owner)) true) (ha : argsOk i ⟨self :: rest, []⟩) (q : Q () s) :
  wpAny M A (checkBuiltinCall i ⟨self :: rest, []⟩) Q E s := by
 simp only [checkBuiltinCall, hk, hs]
 refine zB (hi.here ?_)
 simp only [Bool.not_true, Bool.false_eq_true, if_false]
 cases hsig : Manifest.signature? i with
 | none => exact zP q
 | some sig =>
  simp only [argsOk, hsig] at ha
  have h2 : Bind.checkArgs i sig ⟨self :: rest, []⟩ = pure () := ha
  show wpAny M A (Bind.checkArgs i sig ⟨self :: rest, []⟩) Q E s
  rw [h2]; exact zP q
theorem zfb {i n : String} {b : Builtin} {x : Nat} {ox : Obj} {od : Option Obj} {rest : List Value} {Q : VP} {s : Shared} (X : (KS w).In s.heap) (I : InstAt s.heap x ox 228 od)
  (hk : builtinKind i = some .slot ∨ builtinKind i = some .method) (hs : splitId i = some ("list", n)) (hp : plainId i = true) (he : entryFor table i = some b) (ha : argsOk i ⟨.ref x :: rest, []⟩)
  (h : wpAny (Mo w) A.in1 (b ⟨.ref x :: rest, []⟩) (fun fin s' => ∃ v, fin = .done (.ret v) ∧ Q v s') E s) : wpAny (Mo w) A (call (.builtin i) (.ref x :: rest)) Q E s := by
 refine wpAny_call (codeAny_call_builtin hp he ?_)
 have hf : wpAny (Mo w) A.in1 (b ⟨.ref x :: rest, []⟩) (fun fin s' => match fin with | .done f => (match (Except.ok f : Result) with | .ok (.ret v) => Q v s' | .ok _ => False | .error e => E e s') | .again c' => c'.quiet = true ∧ codeAny (Mo w) A c' (fun r s' => match r with | .ok (.ret v) => Q v s' | .ok _ => False | .error e => E e s') s') E s :=
  zM h (fun fin s' z => by obtain ⟨v, rfl, z⟩ := z; exact z) fun j j z => z
 rcases hk with hk | hk
 ·exact check_slot hk hs (zbs X I) ha hf
 ·exact zkf hk hs (zbs X I) ha hf
end
open Builtin.List
theorem L_ga {w : World} : findIn (KS w) (.ref 228) "__getattribute__" = some (some (.builtin "list.__getattribute__")) := by rfl
theorem L_gk {w : World} : findIn (KS w) (.ref 228) "__getattr__" = some none := by rfl
theorem L_sa {w : World} : findIn (KS w) (.ref 228) "__setattr__" = some (some (.builtin "object.__setattr__")) := by rfl
theorem L_hd {w : World} : hasDictIn (KS w) 228 = true := by rfl
theorem znm {w : World} : noSeq (KS w) 228 = true := by rfl
theorem L_append {w : World} : findIn (KS w) (.ref 228) "append" = some (some (.builtin "list.append")) := by rfl
theorem zhx {w : World} : findIn (KS w) (.ref 228) "__getitem__" = some (some (.builtin "list.__getitem__")) := by rfl
theorem znl {w : World} : findIn (KS w) (.ref 228) "__setitem__" = some (some (.builtin "list.__setitem__")) := by rfl
theorem L_iter {w : World} : findIn (KS w) (.ref 228) "__iter__" = some (some (.builtin "list.__iter__")) := by rfl
theorem L_len {w : World} : findIn (KS w) (.ref 228) "__len__" = some (some (.ref 195)) := by rfl
theorem L_bool {w : World} : findIn (KS w) (.ref 228) "__bool__" = some none := by rfl
theorem L_str {w : World} : findIn (KS w) (.ref 228) "__str__" = some (some (.ref 202)) := by rfl
section
variable {x : Nat}
theorem zgs {M : Model} {i : String} {args : List Value} {Q : Option Value → SP} {s : Shared} (X : (KS w).In s.heap) (I : InstAt s.heap x ox 228 od) (hs : findIn (KS w) (.ref 228) name = some (some (.builtin i)))
  (hb : ∀ self, bindSpecial (.builtin i) self = pure (.builtin i, [self])) (h : wpAny M A (call (.builtin i) (.ref x :: args)) (fun v => Q (some v)) E s) : wpAny M A (callSpecial? (.ref x) name args) Q E s := by
 refine zB (zB (I.type.here ((looks_findIn X hs).here (wpAny_holding ?_))))
 rw [hb]
 exact zB (zP (zB (zM h (fun j j z => zP z) fun j j z => z)))
theorem zmb {Q : VP} {s : Shared} {v : Value} {expr : Bool} (X : (KS w).In s.heap) (I : InstAt s.heap x ox 228 od)
  (hf : findObj (KS w) 228 od name = some (.value v)) (hh : handedIn v = true) (h : Q v { s with toks := s.toks + 1 }) : wpAny (Mo w) A (getAttr (.ref x) name expr) Q E s := by
 have L0 := I.type (M := Mo w)
 have L1 := looks_findIn (M := Mo w) X L_ga
 have L2 := looks_findIn (M := Mo w) X L_gk
 have L3 := looks_find (M := Mo w) X I hf
 refine zB (wpAny_mkText (wpAny_holding (zB (L0.at (zB (L1.at ?_))))))
 show wpAny _ _ (getAttrByItsOwn _ _ _ _ _ _) _ _ _
 refine zB (L2.at ?_)
 refine zB (wpAny_attempt (wpAny_holding ?_))
 unfold callGetattribute
 have e : (expr && onTheHeap (Value.builtin "list.__getattribute__")) = false := by cases expr <;> rfl
 rw [e, zG zF]
 unfold boundAndCalled
 refine zB (zP ?_)
 refine zfb (n := "__getattribute__") X I (.inl (by decide +kernel)) (by decide +kernel) F.slot_list_getattribute.plain F.entry_list_ga (F.args_list_getattribute_2 _ _) ?_
 refine zB (zP (zB (zP (zB (L0.at (zB (L3.at ?_)))))))
 refine zP ⟨_, rfl, ?_⟩
 show wpAny _ _ (handedOut v) _ _ _
 rw [handedOut_of hh]; exact zP h
end
section
variable {M : Model} {Q : PySem.Fin → SP}
theorem zfc {α : Type} {sl : Nat} {vl vu : Value} {lo hi : Option Int} {k : Option Int → Sem α} {Q : α → SP} (hs : s.heap.IsSliceOf sl vl vu .none) (h : wpAny M A (k none) Q E s) : wpAny M A (listSubscript? (.ref sl) >>= k) Q E s := by
 obtain ⟨os, qz⟩ := id hs
 have hos := qz.1
 have hcs := qz.2.1
 have hds := qz.2.2
 have hTs : s.TypeIs (.ref sl) "slice" := ⟨os, hos, hcs⟩
 refine zB ?_
 refine zB (wpAny_specialOf hTs slice_no_index ?_)
 exact zP h
theorem zfe {sl : Nat} {vl vu : Value} {lo hi : Option Int} {Q : Value × Value × Value → SP} (hs : s.heap.IsSliceOf sl vl vu .none) (pl : IsPart vl lo) (pu : IsPart vu hi) (h : Q (rawPart lo, rawPart hi, rawPart none) s) : wpAny M A (listSliceParts (.ref sl)) Q E s := by
 obtain ⟨os, qz⟩ := id hs
 have hos := qz.1
 have hcs := qz.2.1
 have hds := qz.2.2
 refine zB (wpAny_field hos hds (x := .none) rfl (zB (wpAny_listPart .none ?_)))
 refine zB (wpAny_field hos hds (x := vl) rfl (zB (wpAny_listPart pl ?_)))
 exact zB (wpAny_field hos hds (x := vu) rfl (zB (wpAny_listPart pu (zP h))))
theorem zcj {α : Type} {a n : Nat} {o : Obj} {xs : Array Value} {k : Array Value → Sem α} {Q : α → SP} (ho : s.heap.get? a = some o) (hd : o.data = .seq xs n) (h : wpAny M A (k xs) Q E s) : wpAny M A (listItems (.ref a) >>= k) Q E s := by
 refine zB ?_
 exact zB (wpAny_seqItems ho hd (zP h))
theorem zkk {a sl n : Nat} {o : Obj} {xs : Array Value} {vl vu : Value} {lo hi : Option Int} (ho : s.heap.get? a = some o) (hd : o.data = .seq xs n) (hs : s.heap.IsSliceOf sl vl vu .none) (pl : IsPart vl lo) (pu : IsPart vu hi) (hsz : xs.size ≤ sizeLine)
  (h : Q (.done (.ret (.ref s.heap.objs.size))) { s with heap := s.heap.push { cls := .type "list", data := .seq (slicePick xs lo hi none) } }) : wpAny M A (Builtin.«list.__getitem__» ⟨[.ref a, .ref sl], []⟩) Q E s := by
 refine zfc (lo := lo) (hi := hi) hs ?_
 obtain ⟨os, qz⟩ := id hs
 have hos := qz.1
 have hcs := qz.2.1
 have hds := qz.2.2
 refine zB (wpAny_typeOf (T := "slice") ⟨os, hos, hcs⟩ ?_)
 refine zB (zfe hs pl pu ?_)
 refine zcj ho hd ?_
 refine zB (wpAny_of_eq (sliceIndices_raw lo hi none xs.size (by simp)) ?_)
 exact zB (wpAny_newObj_type (zP h) (zT (slicePick_size_le xs lo hi none) hsz))
theorem zfd {a b sl n m : Nat} {o : Obj} {xs : Array Value} {us : List Value} {vl vu : Value} {lo hi : Option Int} (ho : s.heap.get? a = some o) (hd : o.data = .seq xs n) (hb : s.heap.get? b = some (zaa us m)) (hs : s.heap.IsSliceOf sl vl vu .none) (pl : IsPart vl lo) (pu : IsPart vu hi) (hsz : xs.size + us.length ≤ sizeLine) (hab : a ≠ b)
  (hz : (xs.extract 0 (kms_lo lo xs.size) ++ us.toArray ++ xs.extract (max (kms_lo lo xs.size) (kms_hi hi xs.size)) xs.size).size ≤ sizeLine + 1)
  (h : Q (.done (.ret .none)) { s with heap := s.heap.update a (Obj.mapSeq fun xs' => xs'.extract 0 (kms_lo lo xs.size) ++ us.toArray ++ xs'.extract (max (kms_lo lo xs.size) (kms_hi hi xs.size)) xs'.size) }) :
  wpAny M A (Builtin.«list.__setitem__» ⟨[.ref a, .ref sl, .ref b], []⟩) Q E s := by
 refine zfc (lo := lo) (hi := hi) hs ?_
 obtain ⟨os, qz⟩ := id hs
 have hos := qz.1
 have hcs := qz.2.1
 have hds := qz.2.2
 refine zB (wpAny_typeOf (T := "slice") ⟨os, hos, hcs⟩ ?_)
 refine zB (zfe hs pl pu ?_)
 have e1 : listSameRef (.ref a) (.ref b) = false := by simp [listSameRef, hab]
 dsimp only
 rw [e1, zG zF]
 refine zB (m := listAllItems _ _) ?_
 refine zB (wpAny_typeOf (T := "list") ⟨_, hb, rfl⟩ ?_)
 refine zB (wpAny_seqItems hb rfl (zP ?_))
 show wpAny _ _ (listItems (.ref a) >>= _) _ _ s
 refine zcj ho hd ?_
 refine zB (wpAny_of_eq (sliceIndices_raw lo hi none xs.size (by simp)) ?_)
 rw [kms_bounds]
 dsimp only
 refine zB (wpAny_rule ?_)
 rw [zG (by unfold listTooLong; simp; exact om327 hsz)]
 have e2 : (((kms_lo lo xs.size : Nat) : Int)).toNat = kms_lo lo xs.size := rfl
 have e3 : (max ((kms_lo lo xs.size : Nat) : Int) ((kms_hi hi xs.size : Nat) : Int)).toNat = max (kms_lo lo xs.size) (kms_hi hi xs.size) := by exact om328
 simp only [e2, e3]
 refine zB (m := updateSeq a _) (wpAny_updateSeq ho hd ?_ (by exact om329 hsz) hz)
 exact zB (wpAny_letGo (zP h))
theorem zis {a n : Nat} {o : Obj} {xs : Array Value} {v : Value} (ho : s.heap.get? a = some o) (hd : o.data = .seq xs n) (hsz : xs.size ≤ sizeLine) (h : Q (.done (.ret .none)) { s with heap := s.heap.update a (Obj.mapSeq fun xs' => xs'.push v) }) :
  wpAny M A (Builtin.«list.append» ⟨[.ref a, v], []⟩) Q E s := by
 show wpAny _ _ (updateSeq a _ >>= _) _ _ s
 exact zB (wpAny_updateSeq ho hd (zP h) hsz (by rw [Array.size_push]; exact om330 hsz))
theorem body_pop {a n : Nat} {o : Obj} {xs : Array Value} {v : Value} (ho : s.heap.get? a = some o) (hd : o.data = .seq xs n) (hv : xs[xs.size - 1]? = some v) (hsz : xs.size ≤ sizeLine) (h : Q (.done (.ret v)) { s with heap := s.heap.update a (Obj.mapSeq fun xs' => xs'.eraseIdxIfInBounds (xs.size - 1)) }) :
  wpAny M A (Builtin.«list.pop» ⟨[.ref a], []⟩) Q E s := by
 have hlt : xs.size - 1 < xs.size := (Array.getElem?_eq_some_iff.mp hv).1
 refine zcj ho hd ?_
 rw [zG (by simp; intro e; rw [e] at hlt; simp at hlt)]
 have hi : seqIndex? (-1) xs.size = some (xs.size - 1) := by
  unfold seqIndex?
  simp
  exact om331 hlt
 rw [hi, Option.bind_some, hv]
 refine zB (m := updateSeq a _) (wpAny_updateSeq ho hd (zP h) hsz ?_)
 have : (xs.eraseIdxIfInBounds (xs.size - 1)).size ≤ xs.size := by
  unfold Array.eraseIdxIfInBounds
  rw [dif_pos hlt, Array.size_eraseIdx]; exact om332
 exact om333 hsz this
theorem body_len {a n : Nat} {o : Obj} {xs : Array Value} (ho : s.heap.get? a = some o) (hd : o.data = .seq xs n) (h : Q (.done (.ret (.int xs.size s.toks))) { s with toks := s.toks + 1 }) : wpAny M A (Builtin.«list.__len__» ⟨[.ref a], []⟩) Q E s := by
 show wpAny _ _ (seqSize a >>= _) _ _ s
 refine zB ?_
 refine zB (wpAny_loadPart ho ?_)
 refine hd ▸ ?_
 exact zP (zB (wpAny_mkInt (zP h)))
theorem znd {a : Nat} (h : Q (.done (.ret (.ref s.heap.objs.size))) { s with heap := s.heap.push { cls := .type "list_iterator", data := .fields #[.ref a, rawInt 0] } }) : wpAny M A (Builtin.«list.__iter__» ⟨[.ref a], []⟩) Q E s := by
 show wpAny _ _ (newFields "list_iterator" [.ref a, rawInt 0] >>= _) _ _ s
 exact zB (wpAny_newObj_type (zP h))
theorem zne {a n : Nat} {o : Obj} {xs : Array Value} (ho : s.heap.get? a = some o) (hd : o.data = .seq xs n) (hsz : xs.size ≤ sizeLine) (h : Q (.done (.ret .none)) { s with heap := s.heap.update a (Obj.mapSeq fun j => #[]) }) : wpAny M A (Builtin.«list.__init__» ⟨[.ref a], []⟩) Q E s := by
 refine zcj ho hd ?_
 refine zB (m := updateSeq a _) (wpAny_updateSeq ho hd (zB (wpAny_letGo (zP h))) hsz (by simp))
theorem zkl {a n : Nat} {o : Obj} {xs : Array Value} {k : Int} {t : Tok} {v : Value} (ho : s.heap.get? a = some o) (hd : o.data = .seq xs n) (h0 : 0 ≤ k) (hfit : k < 2 ^ 63) (hv : xs[k.toNat]? = some v) (h : Q (.done (.ret v)) s) : wpAny M A (Builtin.«list.__getitem__» ⟨[.ref a, .int k t], []⟩) Q E s := by
 show wpAny _ _ (listSubscript? (.int k t) >>= _) _ _ s
 refine zB (wpAny_listSubscript_int (fitsIndex_of h0 hfit) ?_)
 obtain ⟨j, rfl⟩ := Int.eq_ofNat_of_zero_le h0
 have hv' : xs[j]? = some v := hv
 refine zB (zB (wpAny_seqItemAt ho hd (zP ?_)))
 refine hv' ▸ ?_
 first
  | exact zB (zP (zP h))
  | exact zP h
end
@[reducible] noncomputable def ent (w : World) (x : String) (t : Nat) (v : Value) : DictEntry := ⟨PyData.keyHash w.params (ofString x), .str (ofString x) t, v⟩
@[reducible] noncomputable def iniD (w : World) (t : Nat) (v : Value) : Obj := dictOf [ent w "_initial_size" t v] 1
section
variable {x C : Nat}
theorem osa_L {tk : Tok} {v : Value} {R : Result → SP} (X : (KS w).In s.heap) (I : InstAt s.heap x ox 228 od) (ht : takerIn (KS w) 228 name = some none)
  (h : ∀ b, wpAny (Mo w) A.in1 (storeInOwnDict (.ref x) (.ref 228) (.str name tk) name v b)
   (fun fin s' => match fin with | .done f => R (.ok f) s' | .again c' => c'.quiet = true ∧ codeAny (Mo w) A c' R s') (fun e s' => R (.error e) s') s) :
  codeAny (Mo w) A (.call (.builtin "object.__setattr__") ⟨[.ref x, .str name tk, v], []⟩) R s := by
 have SF := PySem.F.store_object
 refine codeAny_call_builtin SF.slot.plain SF.entry (@check_slot (Mo w) _ _ s "object.__setattr__" "object" "__setattr__" (.ref x) [.str name tk, v] [] _ SF.kind SF.split (zet X I) (SF.args (.ref x) (.str name tk) v) ?_)
 obtain ⟨attr, ha, hr⟩ := Option.bind_eq_some_iff.mp ht
 have hm : Looks (Mo w) s.heap (mroOf (.ref 228)) [.ref 228, .type "list", .type "object"] := (looks_clsIn X (C := 228) rfl).andThen .now
 have L3 : Looks (Mo w) s.heap (storeTaker? attr) none := by
  cases attr with
  | none => exact .now
  | some a =>
   obtain ⟨b, hb, e⟩ := Option.map_eq_some_iff.mp hr
   refine (looks_takesIn X hb).andThen ?_
   cases b with
   | true => cases e
   | false => exact .now
 rw [osa_eq, refuse_eq]
 refine zB (zB (I.type.here (zB (hm.here ?_))))
 refine zP (zB (I.type.here (zB ((looks_findIn X ha).here (zB (L3.here ?_))))))
 exact h _
set_option tactic.hygienic true in
theorem zgq {tk : Tok} {v : Value} {b : Bool} {es es' : List DictEntry} {n n' : Nat} {Q : PySem.Fin → SP} (X : (KS w).In s.heap) (I : InstAt s.heap x ox C (some (dictOf es n))) (hd : ox.dict = some dx) (hh : hasDictIn (KS w) C = true)
  (hl : (getL name es).isSome = true) (e : (putL name (PyData.keyHash w.params name) (.str name s.toks) v es, putN name es n) = (es', n')) (hz : es'.length ≤ 1000)
  (h : Q (.done (.ret .none)) { s with heap := s.heap.update dx (Obj.putName name (PyData.keyHash w.params name) (.str name s.toks) v), toks := s.toks + 1 }) :
  wpAny (Mo w) A (storeInOwnDict (.ref x) (.ref C) (.str name tk) name v b) Q E s := by
 obtain ⟨cd, hc, hd'⟩ := any_some hh
 obtain ⟨hx, hcl, hn, hdd⟩ := I
 rw [hd] at hdd
 dsimp only at hdd
 obtain ⟨oc, odi, oda, osl⟩ := ox
 subst hcl hd
 obtain ⟨e1, e2⟩ := Prod.mk.inj e
 have ep : Obj.putName name (PyData.keyHash w.params name) (.str name s.toks) v (dictOf es n) = dictOf es' n' := by rw [putName_dict, e1, e2]
 have D' : (s.heap.update dx (Obj.putName name (PyData.keyHash w.params name) (.str name s.toks) v)).get? dx = some (dictOf es' n') := by
  rw [← ep]; exact Heap.get?_update_self _ hdd (by rw [ep]; rfl)
 refine zB (zP (zB (zB (wpAny_loadPart hx (zB ((looks_clsIn X hc).here ?_))))))
 rw [hd']
 refine zP (a := some dx) (zB (zP (zB ?_)))
 refine zB (zB (wpAny_askSetting (zP (zB (wpAny_mkText (zB (wpAny_loadPart hdd ?_)))))))
 dsimp only
 have c : (!(es.toArray).any (·.key.isStr name) && (es.toArray).any (·.refKey)) = false := by
  rw [← Array.any_toList, ← Array.any_toList]
  unfold getL at hl
  split at hl
  ·rename_i en he
   rw [List.any_eq_true.mpr ⟨en, List.mem_of_find?_eq_some he, List.find?_some he⟩]; rfl
  ·split at hl
   ·cases hl
   ·rename_i z; rw [Bool.not_eq_true] at z; simp only [z, Bool.and_false]
 rw [aRefKeyMayBeTheName_at, c]
 refine wpAny_updatePart hdd ?_
 refine zB (wpAny_lookBehind D' (pastItsLine_dict (by rw [List.size_toArray, sizeLine_eq]; exact om334 hz)) ?_)
 exact zP h
theorem o_setL {v : Value} {es es' : List DictEntry} {n n' : Nat} {Q : Unit → SP} {rw' : LO} (G : Gd w uu) (S : St uu ww X vv L l ro rw tl h)
  (hx : (x, ox) ∈ ro ∨ (x, ox) ∈ rw) (hl : Led rw dx (dictOf es n) (dictOf es' n') rw') (hc : ox.cls = .ref 228) (hn : notCls ox = true) (hdx : ox.dict = some dx)
  (ht : takerIn (KS w) 228 name = some none) (hg : (getL name es).isSome = true) (e : (putL name (PyData.keyHash w.params name) (.str name (tk + 1)) v es, putN name es n) = (es', n')) (hz : es'.length ≤ 1000)
  (hq : ∀ h', St uu ww X vv L l ro rw' tl h' → Q () ⟨h', g, d, tk + 2, os⟩) : wpAny (Mo w) A (setAttr (.ref x) name v) Q E ⟨h, g, d, tk, os⟩ := by
 have K := G.ks S.inv
 have I := S.inst hx (.inr hl.mem) hc hn hdx
 refine set_plain K I L_sa (osa_L (s := ⟨h, g, d, tk + 1, os⟩) K I ht fun b => zgq (s := ⟨h, g, d, tk + 1, os⟩) K I hdx L_hd hg e hz ?_)
 obtain ⟨e1, e2⟩ := Prod.mk.inj e
 have ep : Obj.putName name (PyData.keyHash w.params name) (.str name (tk + 1)) v (dictOf es n) = dictOf es' n' := by rw [putName_dict, e1, e2]
 refine hq _ (S.chgS hl (.update ..) ?_ (clsNe (by decide)))
 rw [← ep]; exact Heap.get?_update_self _ (S.getR (.inr hl.mem)) (by rw [ep]; rfl)
theorem ze6 {v : Value} {es es' : List DictEntry} {n n' : Nat} {Q : Unit → SP} {rw' : LO} (G : Gd w uu) (S : St uu ww X vv L l ro rw tl h) (hC : Plainly w C) (hp : plainOver (KS w) C = true)
  (hx : (x, ox) ∈ ro ∨ (x, ox) ∈ rw) (hl : Led rw dx (dictOf es n) (dictOf es' n') rw') (hc : ox.cls = .ref C) (hn : notCls ox = true) (hdx : ox.dict = some dx)
  (ht : takerIn (KS w) C name = some none) (hg : (getL name es).isSome = true) (e : (putL name (PyData.keyHash w.params name) (.str name (tk + 1)) v es, putN name es n) = (es', n')) (hz : es'.length ≤ 1000)
  (hq : ∀ h', St uu ww X vv L l ro rw' tl h' → Q () ⟨h', g, d, tk + 2, os⟩) : wpAny (Mo w) A (setAttr (.ref x) name v) Q E ⟨h, g, d, tk, os⟩ := by
 have K := G.ks S.inv
 have I := S.inst hx (.inr hl.mem) hc hn hdx
 refine set_plain K I hC.sa (osa_open (s := ⟨h, g, d, tk + 1, os⟩) K I hp ht fun b => zgq (s := ⟨h, g, d, tk + 1, os⟩) K I hdx hC.hd hg e hz ?_)
 obtain ⟨e1, e2⟩ := Prod.mk.inj e
 have ep : Obj.putName name (PyData.keyHash w.params name) (.str name (tk + 1)) v (dictOf es n) = dictOf es' n' := by rw [putName_dict, e1, e2]
 refine hq _ (S.chgS hl (.update ..) ?_ (clsNe (by decide)))
 rw [← ep]; exact Heap.get?_update_self _ (S.getR (.inr hl.mem)) (by rw [ep]; rfl)
theorem zbd {M : Model} {o value : Expr} {attr : Str} {rest : List Stmt} {Q : Flow → SP} {pos' : Pos}
  (h : wpAny M A (eval value env) (fun v s₁ => wpAny M A (eval o env) (fun ov s₂ => wpAny M A (setAttr ov attr v) (fun j s₃ => wpAny M A (execs rest env) Q E s₃) E s₂) E s₁) E s)
  (hs : swapsWith value (some (.Attribute o attr pos')) pos.line env = pure false) : wpAny M A (execs (.Assign [.Attribute o attr pos'] value pos :: rest) env) Q E s :=
 wpAny_execs_cons (plainObj_wpAny_Assign_Attribute (zM h (fun v s₁ q => zM q (fun ov s₂ q => zM q (fun j j z => z) fun j j z => z) fun j j z => z) fun j j z => z) hs)
end
theorem zid : builtinKind "list.append" = some .method := by rw [Fast.te11380579304954806539]; decide +kernel
theorem kind_pop : builtinKind "list.pop" = some .method := by rw [Fast.te11380579304954806539]; decide +kernel
theorem zl4 : builtinKind "list.__iter__" = some .slot := by rw [Fast.te11380579304954806539]; decide +kernel
theorem zhd : builtinKind "list.__getitem__" = some .slot ∨ builtinKind "list.__getitem__" = some .method := by rw [Fast.te11380579304954806539]; decide +kernel
theorem zhc : builtinKind "list.__setitem__" = some .slot ∨ builtinKind "list.__setitem__" = some .method := by rw [Fast.te11380579304954806539]; decide +kernel
theorem zj0 : splitId "list.append" = some ("list", "append") := by decide +kernel
theorem spl_iter : splitId "list.__iter__" = some ("list", "__iter__") := by decide +kernel
theorem zh6 : splitId "list.__getitem__" = some ("list", "__getitem__") := by decide +kernel
theorem zh5 : splitId "list.__setitem__" = some ("list", "__setitem__") := by decide +kernel
section
variable {x C a n : Nat}
theorem methL {f t : Value} {es : List DictEntry} {n : Nat} {pl : Sem Bool} {Q : Value × List Value → SP} (K : (KS w).In s.heap) (I : InstAt s.heap x ox 228 (some (dictOf es n)))
  (hf : findIn (KS w) (.ref 228) name = some (some f)) (ht : Looks (Mo w) s.heap (typeOf f) t) (hn : (t != .type "function" && t != .type "method_descriptor" && t != .type "wrapper_descriptor") = false) (hl : getL name es = some none)
  (h : Q (f, [.ref x]) s) : wpAny (Mo w) A (getMethod (.ref x) name pl) Q E s := by
 refine zB (zB (I.type.here ((looks_findIn K L_ga).here ?_)))
 dsimp only
 refine zB (zB (I.type.here ((looks_findIn K L_gk).here ?_)))
 refine zB (zB (I.type.here ((looks_findIn K hf).here (zB (ht.here ?_)))))
 rw [hn, zG zF]
 refine zB (wpAny_loadPart I.at_ ?_)
 have hd := I.dict
 cases e : ox.dict with
 | none => rw [e] at hd; exact hd.elim
 | some dx =>
  rw [e] at hd
  refine zB (zB (wpAny_loadPart hd ?_))
  rw [nsLook_of (r := none) (by rw [lookIn_dict]; exact hl)]
  exact zP (zB (wpAny_rule (zP h)))
theorem zib {f : Nat} {es : List DictEntry} {m : Nat} {pl : Sem Bool} {Q : Value × List Value → SP} (G : Gd w uu) (S : St uu ww X vv L l ro rw tl h)
  (hx : (a, zad ax vs n) ∈ ro ∨ (a, zad ax vs n) ∈ rw) (hd : (ax, dictOf es m) ∈ ro ∨ (ax, dictOf es m) ∈ rw)
  (hf : findIn (KS w) (.ref 228) name = some (some (.ref f))) (ht : typeIn (KS w) (.ref f) = some (.type "function")) (hl : getL name es = some none) (hq : Q (.ref f, [.ref a]) ⟨h, g, d, tk, os⟩) :
  wpAny (Mo w) A (getMethod (.ref a) name pl) Q E ⟨h, g, d, tk, os⟩ :=
 methL (G.ks S.inv) (S.inst hx hd rfl rfl rfl) hf (looks_typeIn (G.ks S.inv) ht) (by decide) hl hq
theorem n_appL {es : List DictEntry} {m : Nat} {pl : Sem Bool} {Q : Value × List Value → SP} (G : Gd w uu) (S : St uu ww X vv L l ro rw tl h)
  (hx : (a, zad ax vs n) ∈ ro ∨ (a, zad ax vs n) ∈ rw) (hd : (ax, dictOf es m) ∈ ro ∨ (ax, dictOf es m) ∈ rw)
  (hl : getL "append" es = some none) (hq : Q (.builtin "list.append", [.ref a]) ⟨h, g, d, tk, os⟩) :
  wpAny (Mo w) A (getMethod (.ref a) "append" pl) Q E ⟨h, g, d, tk, os⟩ :=
 methL (G.ks S.inv) (S.inst hx hd rfl rfl rfl) L_append (Looks.of_pure F.type_list_append) (by decide) hl hq
theorem zly {t : Nat} {v : Value} {Q : VP} (G : Gd w uu) (S : St uu ww X vv L l ro rw tl h)
  (hx : (a, zad ax vs n) ∈ ro ∨ (a, zad ax vs n) ∈ rw) (hd : (ax, iniD w t v) ∈ ro ∨ (ax, iniD w t v) ∈ rw) (hh : handedIn v = true) (hq : Q v ⟨h, g, d, tk + 1, os⟩) :
  wpAny (Mo w) A (getAttr (.ref a) "_initial_size" true) Q E ⟨h, g, d, tk, os⟩ :=
 zmb (G.ks S.inv) (S.inst hx hd rfl rfl rfl) (findObj_own (attr := none) L_hd (by rfl) rfl (by rfl)) hh hq
theorem zl2 {f : Array Value → Array Value} {us : List Value} (e : f vs.toArray = us.toArray) : ∃ m, Obj.mapSeq f (zad ax vs n) = zad ax us m := by
 refine ⟨if (f vs.toArray).size == vs.toArray.size then n else n + 1, ?_⟩
 simp only [Obj.mapSeq, zad]
 rw [e]
theorem St.chgSeq (S : St uu ww X vv L l ro rw tl h) {f : Array Value → Array Value} {us : List Value} (hm : (a, zad ax vs n) ∈ rw) (e : f vs.toArray = us.toArray) : ∃ m, (h.update a (Obj.mapSeq f)).get? a = some (zad ax us m) := by
 obtain ⟨m, em⟩ := zl2 (ax := ax) (n := n) e
 refine ⟨m, ?_⟩
 rw [← em]; exact Heap.get?_update_self _ (S.getR (.inr hm)) (by rw [em]; rfl)
theorem o_appL {od : Obj} {v : Value} {Q : VP} {rw' : Nat → LO} (G : Gd w uu) (S : St uu ww X vv L l ro rw tl h) (hl : ∀ m, Led rw a (zad ax vs n) (zad ax (vs ++ [v]) m) (rw' m)) (hd : (ax, od) ∈ ro ∨ (ax, od) ∈ rw)
  (hs : vs.length ≤ sizeLine) (hq : ∀ m h', St uu ww X vv L l ro (rw' m) tl h' → Q .none ⟨h', g, d, tk, os⟩) : wpAny (Mo w) A (call (.builtin "list.append") [.ref a, v]) Q E ⟨h, g, d, tk, os⟩ := by
 refine zfb (G.ks S.inv) (S.inst (.inr (hl 0).mem) hd rfl rfl rfl) (.inr zid) zj0 F.slot_list_append.plain F.entry_list_append (F.args_list_append_2 _ _) (zis (S.getR (.inr (hl 0).mem)) rfl (by simpa using hs) ⟨_, rfl, ?_⟩)
 obtain ⟨m, em⟩ := S.chgSeq (f := fun xs => xs.push v) (us := vs ++ [v]) (hl 0).mem (by simp)
 exact hq m _ (S.chgS (hl m) (.update ..) em (fun q => by cases q))
theorem zhj {k : Value} {Q : VP} (K : (KS w).In s.heap) (I : InstAt s.heap x ox 228 od) (h : wpAny (Mo w) A.in1 (Builtin.«list.__getitem__» ⟨[.ref x, k], []⟩) (fun fin s' => ∃ v, fin = .done (.ret v) ∧ Q v s') E s) :
  wpAny (Mo w) A (getItem (.ref x) k) Q E s := by
 refine wpAny_holding (zB (zB (I.type.here ?_)))
 refine zB ((anyM_none K znm).here ?_)
 exact zP (zB (zgs K I zhx F.slot_list_getitem.bind (zfb K I zhd zh6 F.slot_list_getitem.plain F.entry_list_getitem (by unfold argsOk; kernel_rfl) (zM h (fun fin s' z => by obtain ⟨v, rfl, z⟩ := z; exact ⟨v, rfl, zP z⟩) fun j j z => z))))
theorem zk0 {k v : Value} {Q : Unit → SP} (K : (KS w).In s.heap) (I : InstAt s.heap x ox 228 od) (h : wpAny (Mo w) A.in1 (Builtin.«list.__setitem__» ⟨[.ref x, k, v], []⟩) (fun fin s' => ∃ v, fin = .done (.ret v) ∧ Q () s') E s) :
  wpAny (Mo w) A (setItem (.ref x) k v) Q E s := by
 refine wpAny_holding (zB (zB (I.type.here ?_)))
 refine zB ((anyM_none K znm).here ?_)
 exact zP (zB (zgs K I znl F.slot_list_setitem.bind (zfb K I zhc zh5 F.slot_list_setitem.plain F.entry_list_setitem (by unfold argsOk; kernel_rfl) (zM h (fun fin s' z => by obtain ⟨v, rfl, z⟩ := z; exact ⟨v, rfl, zP z⟩) fun j j z => z))))
theorem tail_L {value slice : Expr} {i : Value} {ops : List Value} {Q : VP} (K : (KS w).In s.heap) (I : InstAt s.heap x ox 228 od) (h : wpAny (Mo w) A (getItem (.ref x) i) Q E s)
  (hs : subscripted slice false (.ref x) i = operate ops (getItem (.ref x) i)) : wpAny (Mo w) A (subscriptTail value slice (.ref x) i) Q E s := by
 refine zB (zB (zB (I.type.here ((looks_findIn K zhx).here ?_))))
 refine zP ?_
 rw [hs]
 exact zB (wpAny_operating (zM h (fun r s₃ h₃ => zB (wpAny_letTemporaryGo (zP h₃))) fun j j x => x))
theorem o_itemL {value slice : Expr} {i : Int} {j t : Nat} {v : Value} {od : Obj} {Q : VP} (G : Gd w uu) (S : St uu ww X vv L l ro rw tl h) (hx : (a, zad ax vs n) ∈ ro ∨ (a, zad ax vs n) ∈ rw) (hd : (ax, od) ∈ ro ∨ (ax, od) ∈ rw) (hi : i = j) (hv : vs[j]? = some v) (hs : vs.length ≤ sizeLine) (hq : Q v ⟨h, g, d, tk, os⟩)
  (hsub : subscripted slice false (.ref a) (.int i t) = operate [.ref a, .int i t] (getItem (.ref a) (.int i t)) := by rfl) :
  wpAny (Mo w) A (subscriptTail value slice (.ref a) (.int i t)) Q E ⟨h, g, d, tk, os⟩ := by
 have hlt : j < vs.length := (List.getElem?_eq_some_iff.mp hv).1
 have K := G.ks S.inv
 have I := S.inst hx hd (C := 228) rfl rfl rfl
 exact tail_L K I (zhj K I (zkl (S.getR hx) rfl (by exact om335 hi) (by exact om336 hi hs hlt) (by subst hi; simpa using hv) ⟨_, rfl, hq⟩)) hsub
theorem o_sliceL {value slice : Expr} {sl : Nat} {us : List Value} {vl vu : Value} {lo hi : Option Int} {od : Obj} {Q : VP} (G : Gd w uu) (S : St uu ww X vv L l ro rw tl h) (hx : (a, zad ax vs n) ∈ ro ∨ (a, zad ax vs n) ∈ rw) (hd : (ax, od) ∈ ro ∨ (ax, od) ∈ rw)
  (hsl : h.IsSliceOf sl vl vu .none) (pl : IsPart vl lo) (pu : IsPart vu hi) (hs : vs.length ≤ sizeLine) (he : kms_pick vs lo hi = us)
  (hq : ∀ (b : Nat) h', h.get? b = none → St uu ww X vv L l ro ((b, zaa us) :: rw) tl h' → Q (.ref b) ⟨h', g, d, tk, os⟩)
  (hsub : ∃ ops, subscripted slice false (.ref a) (.ref sl) = operate ops (getItem (.ref a) (.ref sl)) := by exact ⟨_, rfl⟩) :
  wpAny (Mo w) A (subscriptTail value slice (.ref a) (.ref sl)) Q E ⟨h, g, d, tk, os⟩ := by
 have K := G.ks S.inv
 have I := S.inst hx hd (C := 228) rfl rfl rfl
 obtain ⟨ops, hsub⟩ := hsub
 refine tail_L K I (zhj K I (zkk (S.getR hx) rfl hsl pl pu (by simpa using hs) ⟨_, rfl, ?_⟩)) hsub
 have : zaa us = { cls := .type "list", data := .seq (slicePick vs.toArray lo hi none) } := by rw [kms_pick_eq]; simp only [he]
 exact hq _ _ getN (by rw [← this]; exact S.allocW _ rfl (clsNe (by decide)))
theorem zfs {sl b m : Nat} {us zs : List Value} {vl vu : Value} {lo hi : Option Int} {od : Obj} {Q : Unit → SP} {rw' : Nat → LO} (G : Gd w uu) (S : St uu ww X vv L l ro rw tl h) (hl : ∀ m, Led rw a (zad ax vs n) (zad ax zs m) (rw' m)) (hd : (ax, od) ∈ ro ∨ (ax, od) ∈ rw)
  (hb : h.get? b = some (zaa us m)) (hsl : h.IsSliceOf sl vl vu .none) (pl : IsPart vl lo) (pu : IsPart vu hi) (hs : vs.length + us.length ≤ 1000000) (hz : vs.take (kms_lo lo vs.length) ++ us ++ vs.drop (max (kms_lo lo vs.length) (kms_hi hi vs.length)) = zs)
  (hq : ∀ m h', St uu ww X vv L l ro (rw' m) tl h' → Q () ⟨h', g, d, tk, os⟩) :
  wpAny (Mo w) A (setItem (.ref a) (.ref sl) (.ref b)) Q E ⟨h, g, d, tk, os⟩ := by
 have K := G.ks S.inv
 have ha := S.getR (.inr (hl 0).mem)
 have I := S.inst (.inr (hl 0).mem) hd (C := 228) rfl rfl rfl
 have e : ∀ N, N = vs.length → (fun xs' : Array Value => xs'.extract 0 (kms_lo lo N) ++ us.toArray ++ xs'.extract (max (kms_lo lo N) (kms_hi hi N)) xs'.size) vs.toArray = zs.toArray := by
  rintro N rfl
  rw [← hz]
  simp
  exact Zh (by simp)
 have hlen : zs.length ≤ 2000000 := by
  rw [← hz]
  simp only [List.length_append, List.length_take, List.length_drop]
  exact om337 hs
 refine zk0 K I (zfd (xs := vs.toArray) (n := n) ha rfl hb hsl pl pu (by simp; exact om5 hs) (fun q => by subst q; rw [ha] at hb; cases hb) ?_ ⟨_, rfl, ?_⟩)
 ·have := congrArg Array.size (e _ (List.size_toArray ..))
  dsimp only at this
  rw [this]; simp; exact om338 hlen
 ·obtain ⟨m', em⟩ := S.chgSeq (f := fun xs' => xs'.extract 0 (kms_lo lo vs.toArray.size) ++ us.toArray ++ xs'.extract (max (kms_lo lo vs.toArray.size) (kms_hi hi vs.toArray.size)) xs'.size) (us := zs) (hl 0).mem (e _ (List.size_toArray ..))
  exact hq m' _ (S.chgS (hl m') (.update ..) em (fun q => by cases q))
end
theorem zcr : Slot "wrapper_descriptor" "__get__" "wrapper_descriptor.__get__" := .of (owner := "wrapper_descriptor") (n := "__get__") (by rw [typeLookup_type, builtinLookup_eq_fast]; kernel_rfl) (by decide +kernel) (by decide +kernel) (by decide +kernel)
 (by first | exact .inl (by decide +kernel) | exact .inr (by decide +kernel)) (by rw [isSubtype_type]; kernel_rfl)
theorem zhm : entryFor table "wrapper_descriptor.__get__" = some Builtin.«wrapper_descriptor.__get__» := entryFor_of_tree (by kernel_rfl)
theorem ziu (a b c : Value) : argsOk "wrapper_descriptor.__get__" ⟨[a, b, c], []⟩ := by unfold argsOk; kernel_rfl
theorem zd0 : Slot "method_descriptor" "__get__" "method_descriptor.__get__" := .of (owner := "method_descriptor") (n := "__get__") (by rw [typeLookup_type, builtinLookup_eq_fast]; kernel_rfl) (by decide +kernel) (by decide +kernel) (by decide +kernel)
 (by first | exact .inl (by decide +kernel) | exact .inr (by decide +kernel)) (by rw [isSubtype_type]; kernel_rfl)
theorem zhn : entryFor table "method_descriptor.__get__" = some Builtin.«method_descriptor.__get__» := entryFor_of_tree (by kernel_rfl)
theorem ziv (a b c : Value) : argsOk "method_descriptor.__get__" ⟨[a, b, c], []⟩ := by unfold argsOk; kernel_rfl
@[reducible] noncomputable def zcp (T i : String) (a : Nat) : Obj := { cls := .type T, data := .fields #[.builtin i, .ref a] }
section
variable {x C a n : Nat}
theorem get_wd {i : String} {Q : VP} (hT : typeOf (.builtin i) = pure (.type "wrapper_descriptor")) (ho : ".".intercalate (i.cutAt '.').dropLast = "list") (K : (KS w).In s.heap) (I : InstAt s.heap x ox 228 od)
  (hq : Q (.ref s.heap.objs.size) { s with heap := s.heap.push (zcp "method-wrapper" i x) }) : wpAny (Mo w) A (call (.builtin "wrapper_descriptor.__get__") [.builtin i, .ref x, .ref 228]) Q E s := by
 refine wpAny_call_entry zcr (show s.TypeIs (.builtin i) "wrapper_descriptor" from hT) zhm ?_ (ziu _ _ _)
 have hl := zbs (M := Mo w) K I
 unfold Builtin.«wrapper_descriptor.__get__»
 refine zB (zP ?_)
 refine zB (zB (zP ?_))
 dsimp only
 refine ho ▸ ?_
 refine zB (hl.here ?_)
 simp only [Bool.not_true, Bool.false_eq_true, if_false]
 refine zP (zB (wpAny_newObj_type (zP ⟨_, rfl, ?_⟩)))
 exact hq
theorem get_md {i : String} {Q : VP} (hT : typeOf (.builtin i) = pure (.type "method_descriptor")) (ho : ".".intercalate (i.cutAt '.').dropLast = "list") (hc : Manifest.toldItsClass.contains i = false) (K : (KS w).In s.heap) (I : InstAt s.heap x ox 228 od)
  (hq : Q (.ref s.heap.objs.size) { s with heap := s.heap.push (zcp "builtin_function_or_method" i x) }) : wpAny (Mo w) A (call (.builtin "method_descriptor.__get__") [.builtin i, .ref x, .ref 228]) Q E s := by
 refine wpAny_call_entry zd0 (show s.TypeIs (.builtin i) "method_descriptor" from hT) zhn ?_ (ziv _ _ _)
 have hl := zbs (M := Mo w) K I
 unfold Builtin.«method_descriptor.__get__»
 refine zB (zP ?_)
 simp only [show (Value.ref x == Value.none) = false from rfl, show (Value.ref 228 == Value.none) = false from rfl, Bool.false_eq_true, if_false, hc]
 refine zB (zB (zP ?_))
 dsimp only
 refine ho ▸ ?_
 refine zB (hl.here ?_)
 simp only [Bool.not_true, Bool.false_eq_true, if_false]
 refine zP (zB (wpAny_newObj_type (zP ⟨_, rfl, ?_⟩)))
 exact hq
@[reducible] noncomputable def zi3 (x : Nat) : Obj := { cls := .type "super", dict := none, data := .fields #[.ref 228, .ref x, .ref 228], slots := #[] }
theorem zku {so : Nat} {i D gid T : String} {u : Tok} {Q : PySem.Fin → SP} (hso : h.get? so = some (zi3 x)) (K : (KS w).In h) (I : InstAt h x ox 228 od) (hx : x ≠ 228) (hn : (name == ("__class__" : Str)) = false)
  (hno : Looks (Mo w) h (opaqueClassAbove (.ref 228)) none) (hf : alongIn (KS w) name [.type "list", .type "object"] = some (some (.builtin i)))
  (hT : typeOf (.builtin i) = pure (.type D)) (hlk : typeLookup (.type D) "__get__" = pure (some (.builtin gid)))
  (hcall : ∀ (A : Around) (E : VP) (Q : VP) (s : Shared), (KS w).In s.heap → InstAt s.heap x ox 228 od → Q (.ref s.heap.objs.size) { s with heap := s.heap.push (zcp T i x) } → wpAny (Mo w) A (call (.builtin gid) [.builtin i, .ref x, .ref 228]) Q E s)
  (hq : Q (.done (.ret (.ref h.objs.size))) ⟨h.push (zcp T i x), g, d, tk, os⟩) :
  wpAny (Mo w) A (Builtin.«super.__getattribute__» ⟨[.ref so, .str name u], []⟩) Q E ⟨h, g, d, tk, os⟩ := by
 have hC : Looks (Mo w) h (mroOf (.ref 228)) [.ref 228, .type "list", .type "object"] := (looks_clsIn K (C := 228) rfl).andThen .now
 have hne : (Value.ref x == Value.ref 228) = false := by simp [hx]
 have hdt : (zi3 x).data = .fields #[.ref 228, .ref x, .ref 228] := rfl
 have f0 : (#[.ref 228, .ref x, .ref 228] : Array Value)[0]? = some (.ref 228) := rfl
 have f1 : (#[.ref 228, .ref x, .ref 228] : Array Value)[1]? = some (.ref x) := rfl
 have f2 : (#[.ref 228, .ref x, .ref 228] : Array Value)[2]? = some (.ref 228) := rfl
 have hl : (([.ref 228, .type "list", .type "object"] : List Value).dropWhile (· != .ref 228)).drop 1 = [.type "list", .type "object"] := by decide
 unfold Builtin.«super.__getattribute__»
 repeat (first
  | (with_reducible refine wpAny_field hso hdt f0 ?_) | (with_reducible refine wpAny_field hso hdt f1 ?_) | (with_reducible refine wpAny_field hso hdt f2 ?_)
  | (with_reducible refine ks_wpAny_notOpaque hno ?_)
  | (with_reducible refine Looks.at hC ?_; rw [hl])
  | (refine ks_forIn_along K (fun j j => rfl) rfl ?_ hf)
  | (with_reducible refine wpAny_of_eq hT ?_)
  | (with_reducible refine wpAny_of_eq hlk ?_)
  | (with_reducible refine hcall _ _ _ _ K I ?_)
  | (simp only [hn, hne, Bool.or_false, Bool.false_eq_true, if_false])
  | wp_step
  | dsimp only)
 all_goals exact hq
end
theorem L_sub {w : World} : mroIn (KS w) 228 (.ref 228) = some true := by rfl
theorem L_opq {w : World} : nsIn (KS w) cStatics "thirdparty.any" = some none := by rfl
section
variable {x C a n : Nat}
theorem St.ne228 (G : Gd w uu) (S : St uu ww X vv L l ro rw tl h) (hx : (a, zad ax vs n) ∈ ro ∨ (a, zad ax vs n) ∈ rw) : a ≠ 228 := by
 rintro rfl
 have e := S.getR hx
 have e' := (G.ks S.inv) 228 _ rfl
 rw [e] at e'
 cases e'
theorem zfv {so : Nat} {i D gid T : String} {pl : Sem Bool} {Q : Value × List Value → SP} {odb : Obj} (G : Gd w uu) (S : St uu ww X vv L l ro rw tl h) (hso : h.get? so = some (zi3 a))
  (hx : (a, zad ax vs n) ∈ ro ∨ (a, zad ax vs n) ∈ rw) (hd : (ax, odb) ∈ ro ∨ (ax, odb) ∈ rw) (hn : (name == ("__class__" : Str)) = false)
  (hf : alongIn (KS w) name [.type "list", .type "object"] = some (some (.builtin i)))
  (hT : typeOf (.builtin i) = pure (.type D)) (hlk : typeLookup (.type D) "__get__" = pure (some (.builtin gid)))
  (hcall : ∀ (x : Nat) (ox : Obj) (od : Option Obj) (A : Around) (E : VP) (Q : VP) (s : Shared), (KS w).In s.heap → InstAt s.heap x ox 228 od → Q (.ref s.heap.objs.size) { s with heap := s.heap.push (zcp T i x) } → wpAny (Mo w) A (call (.builtin gid) [.builtin i, .ref x, .ref 228]) Q E s)
  (hq : ∀ b h', h'.get? b = some (zcp T i a) → St uu ww X vv L l ro rw tl h' → Q (.ref b, []) ⟨h', g, d, tk + 1, os⟩) :
  wpAny (Mo w) A (getMethod (.ref so) name pl) Q E ⟨h, g, d, tk, os⟩ := by
 have K := G.ks S.inv
 have I := S.inst hx hd (C := 228) rfl rfl rfl
 have hlk2 := F.ks_slot_super_ga.lookup
 have hcan := F.ks_canon_super_ga
 have hTs : ∀ t', (⟨h, g, d, t', os⟩ : Shared).TypeIs (.ref so) "super" := fun j => ⟨_, hso, rfl⟩
 refine zB (wpAny_specialOf (hTs _) hlk2 ?_)
 show wpAny _ _ (if (Manifest.canonical "super.__getattribute__" != "object.__getattribute__") = true then _ else _) _ _ _
 rw [zH hcan]
 refine zB (zB (wpAny_mkText (wpAny_holding (zB (wpAny_typeOf (hTs _) (zB (wpAny_of_eq hlk2 ?_)))))))
 show wpAny _ _ (getAttrByItsOwn (.ref so) (.str name tk) (.type "super") (.builtin "super.__getattribute__") true false) _ _ _
 refine zB (wpAny_of_eq (show (if onTheHeap (.type "super") then typeLookup (.type "super") "__getattr__" else pure none) = pure none from rfl) ?_)
 refine zB (wpAny_attempt (wpAny_holding ?_))
 refine zB (wpAny_of_eq (F.ks_slot_super_ga.bind _) ?_)
 have H : wpAny (Mo w) A (call (.builtin "super.__getattribute__") [.ref so, .str name tk]) (fun v s' => v = .ref h.objs.size ∧ s' = ⟨h.push (zcp T i a), g, d, tk + 1, os⟩) (fun j j => False) ⟨h, g, d, tk + 1, os⟩ := by
  refine wpAny_call_entry F.ks_slot_super_ga (hTs _) F.ks_entry_super_ga ?_ (F.ks_gaArgs_super _ _)
  refine zku hso K I (S.ne228 G hx) hn (looks_opaque K L_opq) hf hT hlk (fun A E Q s => hcall _ _ _ A E Q s) ?_
  exact ⟨_, rfl, rfl, rfl⟩
 refine zM H (fun v s' hv => ?_) fun j j z => z.elim
 obtain ⟨rfl, rfl⟩ := hv
 exact zP (zP (hq _ _ (zL _ rfl) (S.push _)))
theorem zge {b : Nat} {i T : String} {bi : Builtin} {Q : VP} (hb : s.heap.get? b = some (zcp T i x)) (hT : T = "builtin_function_or_method" ∨ T = "method-wrapper") (hp : plainId i = true) (he : entryFor table i = some bi)
  (hc : ∀ (Q : Unit → SP) (A : Around), Q () s → wpAny (Mo w) A (checkBoundCall i ⟨[.ref x], []⟩) Q (fun j j => False) s) (h : wpAny (Mo w) A.in1 (bi ⟨[.ref x], []⟩) (fun fin s' => ∃ v, fin = .done (.ret v) ∧ Q v s') E s) :
  wpAny (Mo w) A (call (.ref b) []) Q E s := by
 refine wpAny_call (codeAny_of_tree ?_)
 show wpAny _ A.in1 (callAny (.ref b) _) _ _ _
 refine zB (wpAny_load hb ?_)
 have e1 : ((Value.type T == .type "method" || Value.type T == .type "builtin_function_or_method" || Value.type T == .type "method-wrapper") = true) := by rcases hT with rfl | rfl <;> decide
 have e2 : (Value.type T != .type "method") = true := by rcases hT with rfl | rfl <;> decide
 dsimp only
 rw [zH e1]
 show wpAny _ _ (if (Value.type T != .type "method") = true then (do checkBoundCall i ⟨[.ref x], []⟩; return ← again (.builtin i ⟨[.ref x], []⟩)) else _) _ _ _
 rw [zH e2]
 refine zB (zM (hc (fun j s' => s' = s) _ rfl) (fun j s' q => ?_) fun j j z => z.elim)
 subst q
 refine zP ⟨plainId_quiet hp _, codeAny_builtin he ?_⟩
 rw [Around.under_plainId hp _]
 exact zM h (fun fin s' z => by obtain ⟨v, rfl, z⟩ := z; exact z) fun j j z => z
theorem zii {f : Nat} {fd : FuncData} {o oc : Obj} {body : List Stmt} {p0 p1 : Pos} {attr : Str} {args : List Expr} {ar : Arg} {fs : Array Value} {file : Str} {tf : Tok} {c : Nat} {odb : Obj} {pl : Sem Bool} {Q : VP}
  (G : Gd w uu) (S : St uu ww X vv L l ro rw tl h) (hx : (a, zad ax vs n) ∈ ro ∨ (a, zad ax vs n) ∈ rw) (hd : (ax, odb) ∈ ro ∨ (ax, odb) ∈ rw)
  (hf : h.get? f = some o) (hfd : o.data = .func fd) (hp : (fd.params.posonlyargs ++ fd.params.args).head? = some ar) (hv : l.lookup ar.arg = some (.ref a))
  (hcc : h.get? c = some oc) (hoc : oc.data = .fields fs) (hvs : fs[2]? = some (.str file tf)) (hfile : ((Pg).main.file == file) = true) (htop : ((Pg).main.scope.names.lookup ("super" : Str)).isSome = false)
  (hcode : fd.code = .ref c) (hclo : fd.closure = [(ofString "__class__", 152)]) (hgl : fd.globals = 3) (hbl : fd.builtins = 0) (hk : fd.scope.kind = .function) (hks : fd.scope.names.lookup ("super" : Str) = some .globalImplicit) (hkc : fd.scope.names.lookup ("__class__" : Str) = some .free) (hka : fd.scope.names.lookup ar.arg = some .local)
  (hat : (attr == ("__class__" : Str)) = false)
  (hq : ∀ so h', h'.get? so = some (zi3 a) → St uu ww X vv L l ro rw tl h' → wpAny (Mo w) A (getMethod (.ref so) attr pl) (fun fx s₂ => wpAny (Mo w) A (callWith pos fx.1 fx.2 (backTo pos (starEach args (fenv fd f L))) []) Q E s₂) E ⟨h', g, d, tk, os⟩)
  (he : eval (.Call (.Attribute (.Call (.Name (ofString "super") p0) [] [] p1) attr apos) args [] pos) (fenv fd f L) = (do
   let ov ← attributeBase (.Call (.Name (ofString "super") p0) [] [] p1) attr (fenv fd f L) (eval (.Call (.Name (ofString "super") p0) [] [] p1) (fenv fd f L))
   standAt apos.atName
   let (f', first) ← holding [ov] (getMethod ov attr pl)
   callWith pos f' first (backTo pos (starEach args (fenv fd f L))) [])) :
  PySem.wpAt (Mo w) A (.func body (fenv fd f L)) (eval (.Call (.Attribute (.Call (.Name (ofString "super") p0) [] [] p1) attr apos) args [] pos) (fenv fd f L)) Q E ⟨h, g, d, tk, os⟩ := by
 have K := G.ks S.inv
 have I := S.inst hx hd (C := 228) rfl rfl rfl
 refine ks_wpAt_MethodCall (pl := pl) ?_ he
 obtain ⟨oD, hD1, cdD, hD2⟩ : ∃ oD, h.get? 228 = some oD ∧ ∃ cd, oD.data = .cls cd := ⟨_, K 228 _ rfl, _, rfl⟩
 refine ks_wpAt_super_base (env := fenv fd f L) hks hkc hat rfl hf hfd hp hcode hcc hoc hvs hfile htop ?_
 obtain ⟨mg, hg, hm⟩ := G.g
 obtain ⟨mb, hb', hm'⟩ := G.b
 refine ks_loadName_global hk hks (loadGlobal_builtin (mg := mg) (mb := mb) (by show h.Ns fd.globals mg; rw [hgl]; exact zd8 S.inv hg not3) (hm _ _ (by rfl)) (by show h.Ns fd.builtins mb; rw [hbl]; exact zd8 S.inv hb' not0) ((hm' (ofString "super") (by decide)).trans bb_super) ⟨rfl, ?_⟩)
 refine wpAny_loadName_free (c := 152) hk hkc (by show List.lookup (ofString "__class__") fd.closure = _; rw [hclo]; rfl) ⟨_, K 152 _ rfl, rfl⟩ ?_
 refine wpAny_loadName_local hk hka S.ns hv ?_
 refine ks_wpAny_isType_cls hD1 hD2 ⟨rfl, ?_⟩
 refine ks_wpAny_call_super hD1 hD2 I.at_ I.cls (fun c e => by cases e) (looks_mroIn K L_sub) (fun h' e k => ?_)
 exact hq _ _ e (S.ext k)
end
theorem zdd {uu : Heap} {vv : List Env} {h : Heap} : Own uu vv h [] := ⟨(fun j hq => nomatch hq), List.nodup_nil⟩
theorem zcx : typeOf (.builtin "list.__len__") = pure (.type "wrapper_descriptor") := by show builtinType _ = _; rw [builtinType_eq_fast]; kernel_rfl
theorem zcl : typeOf (.builtin "list.__init__") = pure (.type "wrapper_descriptor") := by show builtinType _ = _; rw [builtinType_eq_fast]; kernel_rfl
theorem zg4 : ".".intercalate ("list.__len__".cutAt '.').dropLast = "list" := by decide +kernel
theorem zfq : ".".intercalate ("list.__init__".cutAt '.').dropLast = "list" := by decide +kernel
theorem zg3 : ".".intercalate ("list.pop".cutAt '.').dropLast = "list" := by decide +kernel
theorem told_pop : Manifest.toldItsClass.contains "list.pop" = false := by decide +kernel
def Rd (vv : List Env) (h : Heap) (a : Nat) (o : Obj) : Prop := h.get? a = some o ∧ a ∉ zab vv ∧ ¬ za9 a
section
variable {x C a n : Nat}
theorem zl5 {b : Nat} {T i : String} {x : Nat} (hT : T = "builtin_function_or_method" ∨ T = "method-wrapper") (hb : h.get? b = some (zcp T i x)) {M : Model} : ∃ k, (k = Keeper.frame ∨ k = Keeper.machine ∨ k = Keeper.boundFrame) ∧ Looks M h (keeperOf (.ref b)) k := by
 refine ⟨.machine, .inr (.inl rfl), ?_⟩
 intro A Q E s k q
 refine zB (wpAny_load (k _ _ hb) ?_)
 rcases hT with rfl | rfl <;> exact zP q
theorem zmt {b : Nat} {T i : String} {x : Nat} {Q : VP} (hT : T = "builtin_function_or_method" ∨ T = "method-wrapper") (hb : h.get? b = some (zcp T i x)) (hq : wpAny (Mo w) A (call (.ref b) []) Q E ⟨h, g, d, tk, os⟩) :
  wpAny (Mo w) A (callWith pos (.ref b) [] [] []) Q E ⟨h, g, d, tk, os⟩ :=
 callWith_of (P := fun h' => h' = h) rfl (fun h' e => e ▸ zl5 hT hb) (zbg rfl (Calls.spliced_nil ⟨rfl, hq⟩))
theorem znc {Q : Unit → SP} (hq : Q () s) : wpAny (Mo w) A (checkBoundCall "list.__len__" ⟨[.ref x], []⟩) Q E s := by
 have : checkBoundCall "list.__len__" ⟨[.ref x], []⟩ = pure () := by kernel_rfl
 rw [this]; exact zP hq
theorem zkj {Q : Unit → SP} (hq : Q () s) : wpAny (Mo w) A (checkBoundCall "list.__init__" ⟨[.ref x], []⟩) Q E s := by
 have : checkBoundCall "list.__init__" ⟨[.ref x], []⟩ = pure () := by kernel_rfl
 rw [this]; exact zP hq
theorem zio {od : Obj} {Q : VP} (G : Gd w uu) (W : Wd uu vv h) (P : Rm A vv 3) (r1 : Rd vv h a (zad ax vs n)) (r2 : Rd vv h ax od)
  (hq : ∀ t h' tk', RetX uu vv [] h h' → Q (.int vs.length t) ⟨h', g, d, tk', os⟩) : wpAny (Mo w) A (call (.ref 225) [.ref a]) Q E ⟨h, g, d, tk, os⟩ := by
 refine wpAny_call (zkh (binds := [(ofString "self", .ref a)]) G W P zdd (G.get W.inv (a := 225) rfl) rfl rfl rfl rfl ⟨_, _, _, _, rfl, G.get W.inv (a := 224) rfl, rfl, rfl⟩ rfl (by decide) (zba rfl) (zP ⟨rfl, rfl⟩) ?_)
 intro L h₁ tk₁ S0 R
 have S1 := S0.entry r1.1 r1.2.1 List.not_mem_nil r1.2.2 (fun q hq => nomatch hq)
 have S := S1.entry r2.1 r2.2.1 List.not_mem_nil r2.2.2 (fun q hq => nomatch hq)
 refine ks_wpAt_execs_cons (ks_wpAt_Return_some ?_)
 refine zii (a := a) (ax := ax) (vs := vs) (n := n) (odb := od) (c := 224) G S (.inl (.tail _ (.head _))) (.inl (.head _)) (G.get S.inv (a := 225) rfl) rfl rfl rfl (G.get S.inv (a := 224) rfl) rfl rfl rfl rfl rfl rfl rfl rfl rfl rfl rfl rfl rfl ?_ rfl
 intro so h2 hso S2
 refine zfv (i := "list.__len__") G S2 hso (.inl (.tail _ (.head _))) (.inl (.head _)) rfl rfl zcx zcr.lookup (fun x ox od A E Q s K I q => get_wd zcx zg4 K I q) ?_
 intro b h3 hb S3
 refine zmt (.inr rfl) hb (zge hb (.inr rfl) F.slot_list_len.plain F.entry_list_len (fun Q A q => znc q) (body_len (S3.getR (.inl (.tail _ (.head _)))) rfl ⟨_, rfl, ?_⟩))
 simpa using hq _ h3 _ S3.retX
end
def SeqAt (h : Heap) (a : Nat) (vs : List Value) : Prop := ∃ o n, h.get? a = some o ∧ o.data = .seq vs.toArray n
section
theorem zlt {it a i : Nat} {vs : List Value} {v : Value} {Q : Option Value → SP} (hit : s.heap.IsListIter it a i) (hl : SeqAt s.heap a vs) (hv : vs[i]? = some v)
  (hQ : ∀ h', h'.IsListIter it a (i + 1) → Heap.SameBut it s.heap h' → Q (some v) { s with heap := h' }) : wpAny (Mo w) A (pyNext (.ref it)) Q E s := by
 obtain ⟨o, ho, hc, hd⟩ := id hit
 obtain ⟨ol, nl, hol, hdl⟩ := hl
 have hx : vs.toArray[i]? = some v := by simpa using hv
 refine zB (wpAny_attempt (wpAny_callSpecial?_slot (name := ofString "__next__") hit.typeIs slot_listiter_next (wpAny_call_entry slot_listiter_next hit.typeIs entry_listiter_next ?_ (args_listiter_next _))))
 show wpAny _ _ (field (.ref it) 0 >>= _) _ _ s
 refine zB (wpAny_field ho hd (x := .ref a) rfl ?_)
 refine zB (wpAny_field ho hd (x := .int i 0) rfl ?_)
 refine zB (wpAny_seqItems hol hdl ?_)
 simp only [Int.toNat_natCast, hx]
 refine zB (wpAny_setField ho hd (by simp) (zP ⟨v, rfl, zP (hQ _ ?_ (Heap.SameBut.update ..))⟩))
 exact ⟨_, Heap.get?_update_self _ ho (Obj.isFreed_of_fields (Obj.data_mapFields hd _)), (Obj.cls_mapFields ..).trans hc, by rw [Obj.data_mapFields hd]; simp [rawInt]⟩
theorem next_end {it a i : Nat} {vs : List Value} {Q : Option Value → SP} (hh : A.handled = none) (hit : s.heap.IsListIter it a i) (hl : SeqAt s.heap a vs) (hv : vs[i]? = none)
  (hQ : ∀ h', Heap.ExtBut it s.heap h' → Q none { s with heap := h' }) : wpAny (Mo w) A (pyNext (.ref it)) Q E s := by
 obtain ⟨o, ho, hc, hd⟩ := id hit
 obtain ⟨ol, nl, hol, hdl⟩ := hl
 have hx : vs.toArray[i]? = none := by simpa using hv
 refine zB (wpAny_attempt (wpAny_callSpecial?_slot (name := ofString "__next__") hit.typeIs slot_listiter_next (wpAny_call_entry slot_listiter_next hit.typeIs entry_listiter_next ?_ (args_listiter_next _))))
 show wpAny _ _ (field (.ref it) 0 >>= _) _ _ s
 refine zB (wpAny_field ho hd (x := .ref a) rfl ?_)
 refine zB (wpAny_field ho hd (x := .int i 0) rfl ?_)
 refine zB (wpAny_seqItems hol hdl ?_)
 simp only [Int.toNat_natCast, hx]
 refine zB (wpAny_rule (zB (wpAny_setField ho hd (by simp) ?_)))
 refine zB ?_
 refine zB (wpAny_newObj_type ?_ (by size_fits))
 refine zB (m := firstArgMember _ _) (wpAny_of_eq (a := Value.none) (by first | rfl | (simp only [firstArgMember]; rfl)) ?_)
 refine wpAny_newObj_type ?_ (by size_fits)
 refine zB (wpAny_handled ?_)
 rw [show A.in1.handled = none from hh]
 refine zB (zP (wpAny_throw ?_))
 refine zB (wpAny_isInstance (T := "StopIteration") (b := true) ⟨_, zL _ rfl, rfl⟩ isSubtype_stop ?_)
 refine zP (hQ _ fun b o' hb e => ?_)
 exact zQ _ (zQ _ ((Heap.SameBut.update ..).extBut b o' hb e))
end
def Pr (h : Heap) (v : Value) (p : Str × Str) : Prop := ∃ T t u, v = .ref T ∧ h.get? T = some (zac [.str p.1 t, .str p.2 u])
def Prs (h : Heap) (vs : List Value) (ps : List (Str × Str)) : Prop := All2 (Pr h) vs ps
theorem Prs.move {h h' : Heap} (k : ∀ (b : Nat) o, h.get? b = some o → o.cls = .type "tuple" → (∃ vs n, o.data = .seq vs n) → h'.get? b = some o) {vs : List Value} {ps : List (Str × Str)} (p : Prs h vs ps) : Prs h' vs ps := by
 induction p with
 | nil => exact .nil
 | cons a _ ih =>
  refine .cons ?_ ih
  obtain ⟨T, t, u, e, ho⟩ := a
  exact ⟨T, t, u, e, k T _ ho rfl ⟨_, _, rfl⟩⟩
theorem Prs.keeps {F X : List Nat} {h h' : Heap} {vs : List Value} {ps : List (Str × Str)} (k : Keep F X h h') (p : Prs h vs ps) : Prs h' vs ps := p.move k.tup
theorem Prs.at {h : Heap} {vs : List Value} {ps : List (Str × Str)} (p : Prs h vs ps) {i : Nat} {v : Value} (e : vs[i]? = some v) : ∃ q, ps[i]? = some q ∧ Pr h v q := All2.get' p e
 where
 All2.get' {h : Heap} {vs : List Value} {ps : List (Str × Str)} (p : All2 (Pr h) vs ps) : ∀ {i : Nat} {v : Value}, vs[i]? = some v → ∃ q, ps[i]? = some q ∧ Pr h v q := by
  induction p with
  | nil => intro i x e; simp at e
  | cons h _ ih =>
   intro i x e
   cases i with
   | zero => simp at e; subst e; exact ⟨_, rfl, h⟩
   | succ i => simpa using ih (by simpa using e)
theorem Prs.length {h : Heap} {vs : List Value} {ps : List (Str × Str)} (p : Prs h vs ps) : vs.length = ps.length := by
 induction p with
 | nil => rfl
 | cons _ _ ih => simp [ih]
theorem zgn {w : World} {A : Around} {it a : Nat} {vs : List Value} {ps : List (Str × Str)} {fp : List Nat} (hh : A.handled = none) (hit : it ∈ fp) (ha : a ∈ fp) (hne : a ≠ it) (hfp : ∀ T, Value.ref T ∈ vs → T ∈ fp ∧ T ≠ it) :
  WalksU Pg w A it fp [it] vs.length (fun i vals => ∃ p t u, ps[i]? = some p ∧ vals = #[.str p.1 t, .str p.2 u]) (fun i h => h.IsListIter it a i ∧ SeqAt h a vs ∧ Prs h vs ps)
   (fun i T h => (h.IsListIter it a (i + 1) ∧ SeqAt h a vs ∧ Prs h vs ps) ∧ T ≠ it) := by
 have prs : ∀ (h h' : Heap), (∀ b ∈ fp, b ≠ it → ∀ o, h.get? b = some o → h'.get? b = some o) → Prs h vs ps → Prs h' vs ps := by
  intro h h' hk hp
  have go : ∀ vs' ps', (∀ v ∈ vs', v ∈ vs) → All2 (Pr h) vs' ps' → All2 (Pr h') vs' ps' := by
   intro vs' ps' hs p
   induction p with
   | nil => exact .nil
   | cons q _ ih =>
    obtain ⟨T, t, u, rfl, ho⟩ := q
    obtain ⟨f1, f2⟩ := hfp T (hs _ (.head _))
    exact .cons ⟨T, t, u, rfl, hk T f1 f2 _ ho⟩ (ih fun v hv => hs v (.tail _ hv))
  exact go vs ps (fun j z => z) hp
 refine ⟨?_, ?_, ?_, ?_, ?_, ?_, ?_⟩
 ·intro b hb
  rw [zS hb]; exact hit
 ·rintro i h h' ⟨⟨o, e1, e2, e3⟩, ⟨ol, nl, e4, e5⟩, p⟩ hk
  exact ⟨⟨o, hk _ hit _ e1, e2, e3⟩, ⟨ol, nl, hk _ ha _ e4, e5⟩, prs h h' (fun b hb j o e => hk b hb o e) p⟩
 ·rintro i s Q E hlt ⟨h1, h2, h3⟩ hq
  have hv : vs[i]? = some vs[i] := zI hlt
  obtain ⟨p, hp, T, t, u, eT, hT⟩ := h3.at hv
  have hm : Value.ref T ∈ vs := by rw [← eT]; exact List.getElem_mem hlt
  obtain ⟨f1, f2⟩ := hfp T hm
  refine zlt h1 h2 hv fun h' hI hs => ?_
  have kk : ∀ (b : Nat) o, b ≠ it → s.heap.get? b = some o → h'.get? b = some o := fun b o hb e => (hs.2 b hb).trans e
  rw [eT]
  refine hq T #[.str p.1 t, .str p.2 u] h' s.toks ⟨p, t, u, hp, rfl⟩ ⟨_, kk _ _ f2 hT, rfl, _, rfl⟩ ⟨⟨hI, ?_, prs _ _ (fun b j hb o e => kk b o hb e) h3⟩, f2⟩ (fun b o hb e => kk b o (fun z => hb (by rw [z]; exact .head _)) e)
  obtain ⟨ol, nl, e4, e5⟩ := h2
  exact ⟨ol, nl, kk _ _ hne e4, e5⟩
 ·rintro elts k pos i T s Q E ⟨⟨h1, h2, h3⟩, hT⟩ hq
  obtain ⟨o, e1, e2, e3⟩ := id h1
  exact zec e1 e2 e3 (by decide) (hq s.heap ⟨h1, h2, h3⟩ fun j j j e => e)
 ·rintro i T h ⟨_, hT⟩ hm
  exact hT (zS hm)
 ·rintro s Q E ⟨h1, h2, h3⟩ hq
  exact next_end hh h1 h2 (by simp) fun h' hx => hq h' s.toks fun b o hb e => hx b o (fun z => hb (by rw [z]; exact .head _)) e
 ·rintro i s Q E ⟨h1, _⟩ hq
  exact wpAny_pyIter_listiter h1 hq
section
variable {x C a n : Nat}
theorem St.tabs (S : St uu ww X vv L l ro rw tl h) {h' : Heap} {P : Nat} (hP : za9 P) (k : ∀ (b : Nat) o, b ≠ P → h.get? b = some o → h'.get? b = some o) (t1 : TabInv h' 194 190) (t2 : TabInv h' 201 197) : St uu ww X vv L l ro rw tl h' := by
 have bP : ∃ o, uu.get? P = some o := S.inv.tabLow hP
 have hcls : ∀ o, h.get? P = some o → o.cls = .none := by
  intro o e
  rcases hP with q | q
  ·obtain ⟨ps, ⟨_, z⟩, _⟩ := S.inv.t1
   rw [q] at e; rw [z] at e; cases e; rfl
  ·obtain ⟨ps, ⟨_, z⟩, _⟩ := S.inv.t2
   rw [q] at e; rw [z] at e; cases e; rfl
 have hP' : ∃ o, h'.get? P = some o := by
  rcases hP with q | q
  ·obtain ⟨ps, ⟨_, z⟩, _⟩ := t1; rw [q]; exact ⟨_, z⟩
  ·obtain ⟨ps, ⟨_, z⟩, _⟩ := t2; rw [q]; exact ⟨_, z⟩
 have neL : L ≠ P := by
  rintro rfl
  obtain ⟨o, e⟩ := bP
  rw [S.baseL] at e; cases e
 have tupK : ∀ (b : Nat) o, h.get? b = some o → o.cls = .type "tuple" → (∃ vs n, o.data = .seq vs n) → h'.get? b = some o := by
  intro b o e c _
  refine k b o (fun q => ?_) e
  rw [q] at e; rw [hcls o e] at c; cases c
 have frP : ∀ b ∈ zab vv, b ≠ P := by
  rintro b hb rfl
  obtain ⟨o, es, ep, q, _⟩ := S.fr.mem hb
  obtain ⟨o', e⟩ := bP
  rw [q] at e; cases e
 refine ⟨⟨fun b o e ht => k b o (fun q => ht (q ▸ hP)) (S.inv.old b o e ht), S.inv.b1, S.inv.b2, S.inv.b3, S.inv.b4, t1, t2⟩, S.fr.keeps fun b o hb e => ⟨o.slots, k b o (frP b hb) e⟩, ?_, S.above, S.low, S.based, ?_, ?_, ?_, S.nd, S.sep, fun t ht => (S.htl t ht).move tupK⟩
 ·refine ⟨fun b o e p q r => k b o (fun z => r (z ▸ hP)) (S.keep.obj b o e p q r), fun b o e p => ?_, fun b o e p q => tupK b o (S.keep.tup b o e p q) p q, fun b o e => ?_⟩
  ·obtain ⟨sl, e'⟩ := S.keep.frm b o e p
   exact ⟨sl, k b _ (frP b p) e'⟩
  ·obtain ⟨o', e'⟩ := S.keep.there b o e
   by_cases z : b = P
   ·rw [z]; exact hP'
   ·exact ⟨o', k b o' z e'⟩
 ·obtain ⟨oL, es, ep, e, r⟩ := S.ns
  exact ⟨oL, es, ep, k _ _ neL e, r⟩
 ·intro p hp
  obtain ⟨a1, a2, a3, a4⟩ := S.hro p hp
  exact ⟨k _ _ (fun q => a4 (q ▸ hP)) a1, a2, a3, a4⟩
 ·intro p hp
  obtain ⟨a1, a2, a3, a4, a5⟩ := S.hrw p hp
  refine ⟨k _ _ (fun q => ?_) a1, a2, a3, a4, a5⟩
  obtain ⟨o, e⟩ := bP
  rw [← q, a4] at e; cases e
theorem TabInv.keeps {h h' : Heap} {c P : Nat} (t : TabInv h c P) (kc : ∀ o, h.get? c = some o → h'.get? c = some o) (kP : ∀ o, h.get? P = some o → h'.get? P = some o) : TabInv h' c P := by
 obtain ⟨ps, ⟨⟨o, vs, t1, t2, t3, t4⟩, t5⟩, ⟨o2, vs2, file, tf, flags, tg, inF, text, tt, op, ho, r1, r2, r3, r4, r5, r6, hop, r7⟩, z⟩ := t
 exact ⟨ps, ⟨⟨o, vs, kc _ t1, t2, t3, t4⟩, kP _ t5⟩, ⟨o2, vs2, file, tf, flags, tg, inF, text, tt, op, kc _ ho, r1, r2, r3, r4, r5, r6, kP _ hop, r7⟩, z⟩
theorem genCode {c P : Nat} {gpos : Pos} {qn : Str} {scope : Scope} {Q : VP} (hc : env.code = .ref c) (t : TabInv s.heap c P)
  (hq : ∀ code h' tk, Heap.ExtBut P s.heap h' → TabInv h' c P → Q code { s with heap := h', toks := tk }) : wpAny (Mo w) A (genexprCode env gpos qn scope) Q E s := by
 obtain ⟨ps, ht, hi, _⟩ := t
 cases hn : codeAmong gpos ps.toList with
 | none => exact wpAny_genexprCodeX hc hi ht hn fun c' h' tk hx j j hi' j ht' j => hq _ h' tk hx ⟨_, ht', hi', trivial⟩
 | some cv =>
  obtain ⟨o, vs, file, tf, flags, tg, inF, text, tt, op, ho, hd, h11, h2, h7, h9, h10, hop, hpd, htr, hne⟩ := id hi
  unfold genexprCode codeAt
  rw [hc, zG (show ¬ ((Value.ref c == Value.none) = true) from zF)]
  refine zB (wpAny_fieldsOf ho hd ?_)
  rw [h11]
  refine zB (wpAny_fieldsOf hop hpd ?_)
  rw [hn]
  exact zP (hq cv s.heap s.toks (Heap.ExtBut.refl _ _) ⟨ps, ht, hi, trivial⟩)
theorem bltFor {Q : Addr → SP} (G : Gd w uu) (I : Inv uu h) (hq : Q 0 ⟨h, g, d, tk, os⟩) : wpAny (Mo w) A (builtinsFor 3 0) Q E ⟨h, g, d, tk, os⟩ := by
 obtain ⟨mg, hn, hm⟩ := G.g
 have e : ∃ bm o, nsIn (KK w) mainGlobals (ofString "__builtins__") = some (some (.ref bm)) ∧ bm ≠ builtinsNs ∧ (KK w).lookup bm = some o ∧ o.cls = .type "module" ∧ o.dict = some builtinsNs ∧ o.data = .plain ∧ decide (bm = 190 ∨ bm = 197) = false := ⟨_, _, rfl, by decide, rfl, rfl, rfl, rfl, rfl⟩
 obtain ⟨bm, o, e, e1, e2, e3, e4, e5, e6⟩ := e
 exact wpAny_builtinsFor (zd8 I hn not3) (hm _ _ e) e1 (G.get I e2 e6) e3 e4 e5 hq
end
section
variable {x C a n : Nat}
theorem pyIter_L {Q : VP} (K : (KS w).In h) (I : InstAt h x ox 228 od) (hq : Q (.ref h.objs.size) ⟨h.push { cls := .type "list_iterator", data := .fields #[.ref x, rawInt 0] }, g, d, tk, os⟩) : wpAny (Mo w) A (pyIter (.ref x)) Q E ⟨h, g, d, tk, os⟩ := by
 have L1 := looks_findIn (M := Mo w) K L_iter
 have hcall : wpAny (Mo w) A (call (.builtin "list.__iter__") [.ref x]) (fun it s' => it = .ref h.objs.size ∧ s' = ⟨h.push { cls := .type "list_iterator", data := .fields #[.ref x, rawInt 0] }, g, d, tk, os⟩) E ⟨h, g, d, tk, os⟩ :=
  zfb K I (.inl zl4) spl_iter F.slot_list_iter.plain F.entry_list_iter (by unfold argsOk; kernel_rfl) (znd ⟨_, rfl, rfl, rfl⟩)
 refine zB (zB (I.type.here (L1.here ?_)))
 have hb : bindSpecial (.builtin "list.__iter__") (.ref x) = pure (.builtin "list.__iter__", [.ref x]) := F.slot_list_iter.bind _
 have fin : wpAny (Mo w) A (do return some (← call (.builtin "list.__iter__") [.ref x])) (fun a s' => wpAny (Mo w) A (match a with
   | some it => (do match ← specialOf it "__next__" with
    | none => (do rule "iter.non-iterator"; raiseError "TypeError" s!"iter() returned non-iterator of type '{← typeNameOf it}'")
    | some _ => pure it)
   | none => (do match ← bindSpecialIfBound? (.ref x) "__getitem__" with
    | none => (do rule "iter.not-iterable"; raiseError "TypeError" s!"'{← typeNameOf (.ref x)}' object is not iterable")
    | some _ => (do rule "iter.getitem-fallback"; newFields "iterator" [.ref x, ← mkInt 0]))) Q E s') E ⟨h, g, d, tk, os⟩ := by
  refine zB (zM hcall (fun it s' z => ?_) fun j j z => z)
  obtain rfl := z.1
  obtain rfl := z.2
  refine zP (zB (wpAny_specialOf (T := "list_iterator") ⟨_, zL _ rfl, rfl⟩ slot_listiter_next.lookup (zP hq)))
 refine zB (wpAny_holding (zB ?_))
 refine zB (zB (I.type.here (L1.here ?_)))
 refine zB (wpAny_askSetting ?_)
 split
 ·rw [hb]
  exact zB (zP (zP fin))
 ·rw [hb]
  exact wpAny_tryCatch (zB (zP (zP fin)))
structure GenOut (w : World) (A : Around) (h : Heap) (n : Nat) (F : Nat → Value → Prop) (a' : Nat) (s : Shared) : Prop where
 wk : ∃ fp wr G P St', WalksS Pg w A.in4 a' fp wr G n P St' ∧ (∀ j y, P j y → F j y) ∧ St' 0 s ∧ (∀ i t, St' i t → t.TypeIs (.ref a') "generator") ∧ a' ∈ fp ∧ (∀ b ∈ fp, b < s.heap.objs.size) ∧ (∀ b ∈ wr, h.get? b = none) ∧ (∀ x y, G x y → AllBare x → AllBare y)
theorem zml {elt : Expr} {pa pb pt sp gpos : Pos} {kt : Nat} {scope : Scope} {cl : List (Str × Addr)} {ps : List (Str × Str)} {F' : Str × Str → Value → Prop} {c P : Nat} {odb : Obj} {Q : VP}
  (G : Gd w uu) (S : St uu ww X vv L l ro rw tl h) (hh : A.handled = none) (hroom : A.depth < recursionLimit) (hB : AllBare g)
  (hx : (a, zad ax vs n) ∈ ro ∨ (a, zad ax vs n) ∈ rw) (hd : (ax, odb) ∈ ro ∨ (ax, odb) ∈ rw) (hself : l.lookup (ofString "self") = some (.ref a)) (hp : Prs h vs ps)
  (hcp : (c = 194 ∧ P = 190) ∨ (c = 201 ∧ P = 197)) (hc : env.code = .ref c) (hgl : env.globals = 3) (hbl : env.builtins = 0) (hL : env.locals = L) (hk : env.scope.kind = .function) (hks : env.kindOf (ofString "self") = some .local)
  (hco : scope.isCoroutine = false) (hclos : closureFor scope env = pure cl) (hcell : ∀ y ∈ scope.names, y.2 ≠ .cell) (h0 : scope.names.lookup (".0" : Str) = some NameKind.local)
  (hxa : scope.names.lookup (ofString "fws") = some .local) (hxb : scope.names.lookup (ofString "part") = some .local) (hkind : scope.kind = .function)
  (helt : ∀ (A' : Around) (E' : VP) p t u C code m₂ h₂ g₂ d₂ tk₂ os₂, A'.handled = none → Inv uu h₂ → h₂.Ns C m₂ → m₂ (ofString "fws") = some (.str p.1 t) → m₂ (ofString "part") = some (.str p.2 u) → p ∈ ps →
   wpAny (Mo w) A' (eval elt (genEnv scope cl C code 0 env)) (fun y s₃ => F' p y ∧ Keeps ⟨h₂, g₂, d₂, tk₂, os₂⟩ s₃) E' ⟨h₂, g₂, d₂, tk₂, os₂⟩)
  (hq : ∀ a' h₅ g' tk', (∀ (b : Nat) o, b ≠ P → h.get? b = some o → h₅.get? b = some o) → St uu ww X vv L l ro rw tl h₅ → AllBare g' → GenOut w A h vs.length (fun j y => ∃ p, ps[j]? = some p ∧ F' p y) a' ⟨h₅, g', d, tk', os⟩ → Q (.ref a') ⟨h₅, g', d, tk', os⟩) :
  wpAny (Mo w) A (eval (.GeneratorExp elt [⟨.Tuple [.Name (ofString "fws") pa, .Name (ofString "part") pb] kt pt, .Name (ofString "self") sp, [], 0⟩] scope gpos) env) Q E ⟨h, g, d, tk, os⟩ := by
 have K := G.ks S.inv
 have I := S.inst hx hd (C := 228) rfl rfl rfl
 have isT : za9 P := by
  rcases hcp with ⟨_, rfl⟩ | ⟨_, rfl⟩
  ·exact .inl rfl
  ·exact .inr rfl
 have tI : ∀ {hh : Heap}, Inv uu hh → TabInv hh c P := by
  intro hh I
  rcases hcp with ⟨rfl, rfl⟩ | ⟨rfl, rfl⟩
  ·exact I.t1
  ·exact I.t2
 refine wpAny_GeneratorExp_walksQT hh hco hclos hcell h0 hxa hxb (by decide) hkind hroom ?_ (fun k => rfl)
 refine wpAny_Name (wpAny_loadName_local hk hks (by rw [hL]; exact S.ns) hself ?_) rfl
 refine pyIter_L K I ?_
 have Sp : St uu ww X vv L l ro rw tl (h.push { cls := .type "list_iterator", data := .fields #[.ref a, rawInt 0] }) := S.push _
 refine ⟨G.nolim Sp.inv, ?_⟩
 refine genCode hc (tI Sp.inv) fun code h3 tk3 hx3 ht3 => ?_
 rw [hgl, hbl]
 have k3 : ∀ (b : Nat) o, b ≠ P → h.get? b = some o → h3.get? b = some o := fun b o hb e => hx3 b o hb (zQ _ e)
 have it3 : h3.get? h.objs.size = some { cls := .type "list_iterator", data := .fields #[.ref a, rawInt 0] } := by
  refine hx3 _ _ (fun q => ?_) (zL _ rfl)
  obtain ⟨o, e⟩ := S.inv.tabLow isT
  obtain ⟨o', e'⟩ := S.inv.there e
  exact absurd (ltS e') (by rw [← q]; exact Nat.lt_irrefl _)
 have t1 : TabInv h3 194 190 ∧ TabInv h3 201 197 := by
  have oth : ∀ c' P' : Nat, P' ≠ P → c' ≠ P → TabInv (h.push { cls := .type "list_iterator", data := .fields #[.ref a, rawInt 0] }) c' P' → TabInv h3 c' P' := fun c' P' h1 h2 t => t.keeps (fun o e => hx3 _ o h2 e) (fun o e => hx3 _ o h1 e)
  rcases hcp with ⟨rfl, rfl⟩ | ⟨rfl, rfl⟩
  ·exact ⟨ht3, oth _ _ (by decide) (by decide) Sp.inv.t2⟩
  ·exact ⟨oth _ _ (by decide) (by decide) Sp.inv.t1, ht3⟩
 have S3 : St uu ww X vv L l ro rw tl h3 := S.tabs isT k3 t1.1 t1.2
 refine bltFor G S3.inv ?_
 have e : passing (fun k => true) vs.length 0 = List.range vs.length := by simp [passing]
 have hgA := S.getR hx
 have a3 : h3.get? a = some (zad ax vs n) := S3.getR hx
 have p3 : Prs h3 vs ps := hp.move fun b o eb cb k => k3 b o (fun q => by
  rw [q] at eb
  rcases isT with z | z
  ·obtain ⟨ps, ⟨_, z'⟩, _⟩ := S.inv.t1
   rw [z] at eb; rw [z'] at eb; cases eb; cases cb
  ·obtain ⟨ps, ⟨_, z'⟩, _⟩ := S.inv.t2
   rw [z] at eb; rw [z'] at eb; cases eb; cases cb) eb
 have inT : ∀ T, Value.ref T ∈ vs → h3.get? T ≠ none ∧ T ≠ h.objs.size := by
  intro T hT
  obtain ⟨i, hi, ei⟩ := List.getElem_of_mem hT
  obtain ⟨p, _, T', t, u, e1, e2⟩ := p3.at (zI hi)
  obtain ⟨p', _, T'', t', u', e1', e2'⟩ := hp.at (zI hi)
  rw [ei] at e1 e1'
  cases e1; cases e1'
  exact ⟨(by rw [e2]; exact fun z => nomatch z), Nat.ne_of_lt (ltS e2')⟩
 refine ⟨h.objs.size, h.objs.size :: a :: (List.range h3.objs.size), [h.objs.size], vs.length, (fun i vals => ∃ p t u, ps[i]? = some p ∧ vals = #[.str p.1 t, .str p.2 u]), (fun i h => h.IsListIter _ a i ∧ SeqAt h a vs ∧ Prs h vs ps), (fun i T h => (h.IsListIter _ a (i + 1) ∧ SeqAt h a vs ∧ Prs h vs ps) ∧ T ≠ _), (fun k => true), (fun i y => ∃ p, ps[i]? = some p ∧ F' p y), rfl, fun A' hA' => zgn hA' (.head _) (.tail _ (.head _)) (Nat.ne_of_lt (ltS hgA)) (fun T hT => ⟨.tail _ (.tail _ ?_), (inT T hT).2⟩), ?_, ?_, ?_, ?_, ?_, ?_, ?_⟩
 ·have := (inT T hT).1
  cases q : h3.get? T with
  | none => exact absurd q this
  | some o => exact List.mem_range.mpr (ltS q)
 ·rintro i vals ⟨p, t, u, _, rfl⟩
  exact ⟨_, _, rfl⟩
 ·exact ⟨⟨_, it3, rfl, rfl⟩, ⟨_, _, a3, rfl⟩, p3⟩
 ·intro b hb
  rcases zC hb with rfl | hb
  ·exact ltS it3
  ·rcases zC hb with rfl | hb
   ·exact ltS a3
   ·exact List.mem_range.mp hb
 ·exact G.nolim S3.inv
 ·intro hm
  have : cStatics = h.objs.size := zS hm
  obtain ⟨mc, ⟨o, _, _, ho, _⟩, _⟩ := G.nolim S.inv
  exact absurd (ltS ho) (by rw [this]; exact Nat.lt_irrefl _)
 ·intro href hk4
  have inv2 : ∀ h₂ : Heap, (∀ b ∈ List.range h3.objs.size, b ∉ [h.objs.size] → ∀ o, href.get? b = some o → h₂.get? b = some o) → Inv uu h₂ := by
   intro h₂ hk2
   refine S3.inv.keeps fun b o eb ⟨o', hb⟩ => hk2 b (List.mem_range.mpr (ltS eb)) (fun hm => ?_) o (hk4 b o eb)
   obtain ⟨o'', e''⟩ := S.inv.there hb
   rw [zS hm] at e''
   exact absurd (ltS e'') (Nat.lt_irrefl _)
  refine ⟨?_, ?_⟩
  ·intro A' E' i va vb s₂ m₂ hA' hPt hns hva hvb hk2
   exact zP ⟨rfl, s₂.heap, s₂.toks, rfl, fun k k z => z⟩
  ·intro A' E' i va vb s₂ m₂ hA' hPt hpz hns hva hvb hk2
   obtain ⟨p, t, u, hpi, hvals⟩ := hPt
   have e1 : va = .str p.1 t ∧ vb = .str p.2 u := by simpa using hvals
   obtain rfl := e1.1
   obtain rfl := e1.2
   obtain ⟨h₂, g₂, d₂, tk₂, os₂⟩ := s₂
   exact zM (helt A' E' p t u _ code m₂ h₂ g₂ d₂ tk₂ os₂ hA' (inv2 _ hk2) hns hva hvb (zR hpi)) (fun y s₃ z => ⟨⟨p, hpi, z.1⟩, z.2⟩) fun k k z => z
 ·intro a' h₅ tk5 gs hgs hlt hsz hk5 W hst
  rw [e, List.length_range] at W
  have kk : ∀ (b : Nat) o, b ≠ P → h.get? b = some o → h₅.get? b = some o := fun b o hb eb => hk5 b o (k3 b o hb eb)
  refine hq a' h₅ _ tk5 kk (S3.ext hk5) (hB.push hgs) ⟨_, _, _, _, _, W, ?_, hst, ?_, .head _, ?_, ?_, ?_⟩
  ·rintro j y ⟨i, hi, hF⟩
   have : i = j := by
    have := List.getElem?_eq_some_iff.mp hi
    have hlt := this.1
    have q := this.2
    simpa using q.symm
   subst this; exact hF
  ·rintro i t ⟨⟨o, nm, qn, ho, hcl, _⟩, _⟩
   exact ⟨o, ho, hcl⟩
  ·intro b hb
   simp only [List.mem_cons, List.mem_range] at hb
   rw [hsz]
   rcases hb with rfl | rfl | hb
   ·exact Nat.lt_succ_self _
   ·exact Nat.lt_succ_of_lt hlt
   ·exact Nat.lt_succ_of_lt (Nat.lt_trans hb hlt)
  ·intro b hb
   have szP : h.objs.size < h3.objs.size := ltS it3
   rcases zC hb with rfl | hb
   ·cases q : h.get? h3.objs.size with
    | none => rfl
    | some o => exact absurd (Nat.lt_trans szP (ltS q)) (Nat.lt_irrefl _)
   ·rw [zS hb]; exact getN
  ·intro x y hxy hx; exact hxy.bare hx
end
section
variable {prog : Program} {R : Result → SP} {I : Addr} {fp wr : List Addr} {G : Array GenState → Array GenState → Prop} {n : Nat} {P : Nat → Value → Prop} {St : Nat → SP}
set_option tactic.hygienic true in
theorem sumFrom (W : WalksS prog w A.in1 I fp wr G n P St) (val : Nat → Int) (hval : ∀ i v, P i v → ∃ t, v = .int (val i) t) (c0 : Int) (hfit : ∀ j, j < n → InLong (val j) ∧ InLong (c0 + preSum val (j + 1))) (S : Addr) (hSf : S ∉ fp) :
  ∀ (k i : Nat) (s : Shared) (tA : Tok) (c : Nat), n - i = k → i ≤ n → St i s → s.heap.get? S = some { cls := .type "list", dict := none, data := .seq #[.int (c0 + preSum val i) tA] c, slots := #[] } →
  (∀ s' t', Moved (S :: wr) G s s' → R (.ok (.ret (.int (c0 + preSum val n) t'))) s') → codeAny (model prog w) A (.builtin "sum.loop" ⟨[.ref I, .ref S, rawInt 0, rawInt 0], []⟩) R s := by
 have hSw : S ∉ wr := fun h => hSf (W.sub _ h)
 have hsub : ∀ b ∈ wr, b ∈ S :: wr := fun b hb => List.mem_cons_of_mem _ hb
 intro k
 induction k with
 | zero =>
  intro i s tA c hk hi hst hS hR
  have hin : i = n := by exact om198 hk hi
  subst hin
  refine codeAny_builtin F.entry_sum_loop ?_
  show wpAny _ A.in1 (seqItems? (.ref S) >>= _) _ _ s
  refine zB (wpAny_seqItems hS rfl ?_)
  refine zB (wpAny_tryCatch (W.done s _ _ hst fun s' hm => ?_))
  exact zP (hR s' tA (hm.mono hsub))
 | succ k ih =>
  intro i s tA c hk hi hst hS hR
  have hlt : i < n := by exact om166 hk
  refine codeAny_builtin F.entry_sum_loop ?_
  refine zB (wpAny_seqItems hS rfl ?_)
  refine zB (wpAny_tryCatch (W.item i s _ _ hlt hst fun v s' hP hst' hm => ?_))
  obtain ⟨t, rfl⟩ := hval i v hP
  have hS' := hm.heap S _ hSw hS
  have e3 : c0 + preSum val (i + 1) = c0 + preSum val i + val i := by simp only [preSum]; exact om43
  obtain ⟨⟨f1, f2⟩, f3, f4⟩ := hfit i hlt
  rw [e3] at f3 f4
  have hc : ((decide (-(2 ^ 63) ≤ val i) && decide (val i < 2 ^ 63)) && (decide (-(2 ^ 63) ≤ c0 + preSum val i + val i) && decide (c0 + preSum val i + val i < 2 ^ 63))) = true := by
   simp only [Bool.and_eq_true, decide_eq_true_eq]
   exact ⟨⟨f1, f2⟩, f3, f4⟩
  show wpAny _ A.in1 (if (_ : Bool) = true then (mkInt (c0 + preSum val i + val i) >>= _) else _) _ _ _
  split
  ·refine zB (wpAny_mkInt ?_)
   refine zB ?_
   refine wpAny_updateSeq hS' rfl (zP ⟨plainId_quiet F.plain_sum_loop _, ih (i + 1) _ s'.toks _ (by exact om170 hk) hlt (W.frame _ s' _ _ hst' (by first | exact Ze _ | exact Nat.le_succ _ | omega) fun b hb o e => ?_) (by rw [e3]; exact Heap.get?_update_self _ hS' rfl) fun s'' t'' hm'' => ?_⟩)
   ·exact (Heap.get?_update_other _ _ (fun h : S = b => hSf (by rw [h]; exact hb))).trans e
   ·refine hR s'' t'' (Moved.trans W.gtrans ((hm.mono hsub).then_heap (by first | exact Ze _ | exact Nat.le_succ _ | omega) fun b o hb e => ?_) hm'')
    exact (Heap.get?_update_other _ _ (fun h : S = b => hb (by rw [h]; exact List.mem_cons_self))).trans e
  ·rename_i hneg
   exact absurd hc hneg
theorem o_sum2 {E : VP} {s : Shared} {k : Int} {u : Tok} {val : Nat → Int} {Q : VP} (W : WalksS prog w A.in4 I fp wr G n P St) (hst : St 0 s) (hfp : ∀ b ∈ fp, b < s.heap.objs.size)
  (hval : ∀ i v, P i v → ∃ t, v = .int (val i) t) (hk : -(2 ^ 63) ≤ k ∧ k < 2 ^ 63) (hfit : ∀ j, j < n → InLong (val j) ∧ InLong (k + preSum val (j + 1)))
  (hq : ∀ s' t', Moved wr G s s' → Q (.int (k + preSum val n) t') s') : wpAny (model prog w) A (call (.builtin "sum") [.ref I, .int k u]) Q E s := by
 have W1 := W.in4_1
 refine call_function_tree F.kind_sum F.plain_sum F.entry_sum (by unfold argsOk; kernel_rfl) ?_
 unfold Builtin.«sum»
 simp only [List.length_cons, List.length_nil]
 refine zB (wpAny_of_eq (show Builtin.Builtins.bindParams "sum" ["start"] 0 ⟨[.int k u], []⟩ = pure [some (.int k u)] from rfl) ?_)
 refine zB (W1.self 0 _ _ _ hst ?_)
 dsimp only
 have hc : (decide (-(2 ^ 63) ≤ k) && decide (k < 2 ^ 63)) = true := by
  simp only [Bool.and_eq_true, decide_eq_true_eq]; exact hk
 clear hk
 refine wpAny_ite_true (decide_eq_true (by exact hc)) ?_
 refine zB (wpAny_rule (zB (wpAny_mkInt (zB (zP ?_)))))
 refine zB (zB (zB (wpAny_isInstance (T := "int") (b := false) (typeIs_int _ _ _) PySem.sub_int_str ?_)))
 refine zP (zB (zB (wpAny_isInstance (T := "int") (b := false) (typeIs_int _ _ _) PySem.sub_int_bytes ?_)))
 refine zP (zB (zB (wpAny_isInstance (T := "int") (b := false) (typeIs_int _ _ _) PySem.sub_int_bytearray ?_)))
 refine zP (zP ?_)
 refine zB (wpAny_newObj_type ?_)
 have hSf : s.heap.objs.size ∉ fp := fun hm => Nat.lt_irrefl _ (hfp _ hm)
 refine zP ⟨plainId_quiet F.plain_sum_loop _, sumFrom W1 val hval k hfit s.heap.objs.size hSf n 0 _ s.toks 0 rfl (Nat.zero_le _)
  (W1.frame 0 s _ _ hst (by first | exact Ze _ | exact Nat.le_succ _ | omega) fun b y o e => zQ _ e) (by simpa [preSum] using zL _ rfl) fun s' t' hm => ?_⟩
 exact hq s' t' (hm.drop_new (by first | exact Ze _ | exact Nat.le_succ _ | omega))
end
noncomputable def plen (p : Str × Str) : Nat := p.1.length + p.2.length
noncomputable def plens (ps : List (Str × Str)) : Nat := (ps.map plen).sum
noncomputable def pval (ps : List (Str × Str)) (i : Nat) : Int := ((ps[i]?.map plen).getD 0 : Nat)
theorem zda (ps : List (Str × Str)) : ∀ i, i ≤ ps.length → preSum (pval ps) i = (plens (ps.take i) : Int)
 | 0, _ => rfl
 | i + 1, h => by
  have hlt : i < ps.length := h
  have e : ps.take (i + 1) = ps.take i ++ [ps[i]] := by rw [List.take_add_one, zI hlt]; rfl
  have ih := zda ps i (Nat.le_of_lt hlt)
  simp only [preSum]
  rw [ih, e]
  unfold pval plens
  rw [zI hlt]
  simp only [List.map_append, List.sum_append, List.map_cons, List.map_nil, List.sum_cons, List.sum_nil, Option.map_some, Option.getD_some]
  exact om199
theorem zch {B : Nat} : ∀ {ps : List (Str × Str)}, (∀ p ∈ ps, plen p ≤ B) → plens ps ≤ ps.length * B
 | [], _ => by simp [plens]
 | p :: r, h => by
  have h1 := h p (.head _)
  have h2 := zch (B := B) (ps := r) fun z hz => h z (.tail _ hz)
  have e : plens (p :: r) = plen p + plens r := by simp [plens]
  have : (r.length + 1) * B = r.length * B + B := by rw [Nat.succ_mul]
  exact om200 h1 h2 e this
def zb5 (ps : List (Str × Str)) : Prop := ps.length ≤ 100 ∧ ∀ p ∈ ps, plen p ≤ 10000
section
variable {x C a n : Nat}
theorem c_len {k : Int} {t u : Nat} {Q : VP} (G : Gd w uu) (W : Wd uu vv h) (P : Rm A vv 3) (hB : AllBare g) (r1 : Rd vv h a (zad ax vs n)) (r2 : Rd vv h ax (iniD w t (.int k u))) (hp : Prs h vs ps) (hs : zb5 ps) (hk : 0 ≤ k ∧ k ≤ 1000)
  (hq : ∀ t h' g' tk', RetX uu vv [] h h' → AllBare g' → Q (.int (k + plens ps) t) ⟨h', g', d, tk', os⟩) : wpAny (Mo w) A (call (.ref 195) [.ref a]) Q E ⟨h, g, d, tk, os⟩ := by
 refine zhr (binds := [(ofString "self", .ref a)]) G W P zdd (G.get W.inv (a := 195) rfl) rfl rfl rfl rfl ⟨_, _, _, _, rfl, G.get W.inv (a := 194) rfl, rfl, rfl⟩ rfl (by decide) (zba rfl) (zP ⟨rfl, rfl⟩) ?_
 intro L h₁ tk₁ S0 R
 have S1 := S0.entry r1.1 r1.2.1 List.not_mem_nil r1.2.2 (fun q hq => nomatch hq)
 have S := S1.entry r2.1 r2.2.1 List.not_mem_nil r2.2.2 (fun q hq => nomatch hq)
 have hp1 := hp.keeps S.keep
 have el := hp.length
 refine zjx ?_
 walk_at "All"
 refine zml (a := a) (ax := ax) (vs := vs) (n := n) (c := 194) (P := 190) (cl := []) (F' := fun p y => ∃ t, y = .int (plen p : Nat) t) G S R.handled R.room hB (.inl (.tail _ (.head _))) (.inl (.head _)) (by walk_at "lk") hp1 (.inl ⟨rfl, rfl⟩) rfl rfl rfl rfl rfl rfl rfl rfl (by decide) rfl rfl rfl rfl ?_ ?_
 ·intro A' E' p t u C code m₂ h₂ g₂ d₂ tk₂ os₂ hA' I₂ hns hva hvb hm
  have hl := hs.2 p hm
  unfold plen at hl
  refine wpAny_BinOp (wpAny_Call_NameR ?_)
  refine e_blt G I₂ rfl (by walk_at "bb") ?_
  refine za3 ?_ rfl
  refine zb0 ?_ rfl
  refine wpAny_Name (wpAny_loadName_local rfl rfl hns hva (zdz ?_)) rfl
  refine zb9 (by exact om201 hl) ?_
  refine wpAny_Call_NameR ?_
  refine e_blt G I₂ rfl (by walk_at "bb") ?_
  refine za3 ?_ rfl
  refine zb0 ?_ rfl
  refine wpAny_Name (wpAny_loadName_local rfl rfl hns hvb (zdz ?_)) rfl
  refine zb9 (by exact om202 hl) ?_
  refine zg9 ?_
  exact ⟨⟨_, by unfold plen; simp; rfl⟩, h₂, _, rfl, fun s s z => z⟩
 ·intro a' h₅ g' tk' k5 S5 hB5 O
  walk_at "All"
  refine zmm ?_ (by walk_at "ab")
  walk_at "All"
  refine zly G S5 (.inl (.tail _ (.head _))) (.inl (.head _)) rfl ?_
  walk_at "All"
  obtain ⟨fp, wr, G', P', St', W', hP', qz⟩ := O.wk
  have hst := qz.1
  have hfp := qz.2.2.2.1
  have hwr := qz.2.2.2.2.1
  have hG' := qz.2.2.2.2.2
  have hst' := W'.frame 0 _ h₅ (tk' + 1) hst (Nat.le_succ _) (fun s s s e => e)
  have hfit : ∀ j, j < vs.length → InLong (pval ps j) ∧ InLong (k + preSum (pval ps) (j + 1)) := by
   intro j hj
   have e1 := zda ps (j + 1) (by exact om203 el hj)
   have e2 := zch (B := 10000) (ps := ps.take (j + 1)) (fun p hp => hs.2 p (List.mem_of_mem_take hp))
   have e3 : (ps.take (j + 1)).length ≤ 100 := by have := hs.1; simp; exact om204 this
   have e5 : pval ps j = (plen (ps[j]'(by exact om205 el hj)) : Nat) := by unfold pval; rw [List.getElem?_eq_getElem (by exact om205 el hj)]; rfl
   have e6 := hs.2 (ps[j]'(by exact om205 el hj)) (List.getElem_mem _)
   rw [e1, e5]
   constructor <;> constructor <;> omega
  refine o_sum2 (val := pval ps) W' hst' hfp (fun i v hv => ?_) (by exact om210 hk) hfit fun s' t' hm => ?_
  ·obtain ⟨p, hp, t, rfl⟩ := hP' i v hv
   exact ⟨t, by unfold pval; rw [hp]; rfl⟩
  ·have e7 : preSum (pval ps) vs.length = (plens ps : Int) := by
    rw [zda ps _ (by exact om211 el), Zh (by exact om125 el)]
   refine e7 ▸ ?_
   have kk : ∀ (b : Nat) o, b ≠ 190 → h₁.get? b = some o → s'.heap.get? b = some o := fun b o hb e => hm.heap b o (fun z => by rw [hwr b z] at e; cases e) (k5 b o hb e)
   have kt : ∀ (b : Nat) o', h₁.get? b = some o' → ∀ o, h₅.get? b = some o → s'.heap.get? b = some o := fun b o' e o e' => hm.heap b o (fun z => by rw [hwr b z] at e; cases e) e'
   have th : ∀ b : Nat, (∃ o, uu.get? b = some o) → ∃ o, h₁.get? b = some o := fun b ⟨o, e⟩ => S.inv.there e
   obtain ⟨o1, q1⟩ := th 190 S.inv.b1
   obtain ⟨o2, q2⟩ := th 197 S.inv.b2
   obtain ⟨o3, q3⟩ := th 194 S.inv.b3
   obtain ⟨o4, q4⟩ := th 201 S.inv.b4
   have S6 := S.tabs (P := 190) (.inl rfl) kk (S5.inv.t1.keeps (kt _ _ q3) (kt _ _ q1)) (S5.inv.t2.keeps (kt _ _ q4) (kt _ _ q2))
   obtain ⟨h', g'', d', tk'', os'⟩ := s'
   have e8 : d' = d := hm.drawn
   have e9 : os' = os := hm.os
   subst e8 e9
   exact hq _ _ _ _ S6.retX (hG' _ _ hm.gens hB5)
end
noncomputable def pcat (p : Str × Str) : Str := Txt.join (ofString "") [p.1, p.2]
noncomputable def zar (ps : List (Str × Str)) : Str := Txt.join (ofString "") (ps.map pcat)
theorem pcat_len (p : Str × Str) : (pcat p).length ≤ plen p := by
 have := StrLaws.join_length_le (ofString "") [p.1, p.2]
 have e : (ofString "").length = 0 := rfl
 unfold pcat plen
 exact om212 this
theorem zd5 : ∀ ps : List (Str × Str), ((ps.map pcat).map (·.length)).sum ≤ plens ps
 | [] => Ze _
 | p :: r => by
  have h1 := pcat_len p
  have h2 := zd5 r
  have e : plens (p :: r) = plen p + plens r := by simp [plens]
  exact om213 h1 h2 e
section
variable {x C a n : Nat}
theorem St.genEnd {P : Nat} {wr : List Nat} {G : Array GenState → Array GenState → Prop} {s₅ s' : Shared} (S : St uu ww X vv L l ro rw tl h) (hP : za9 P) (k5 : ∀ (b : Nat) o, b ≠ P → h.get? b = some o → s₅.heap.get? b = some o) (I5 : Inv uu s₅.heap)
  (hwr : ∀ b ∈ wr, h.get? b = none) (hm : Moved wr G s₅ s') : St uu ww X vv L l ro rw tl s'.heap := by
 have kk : ∀ (b : Nat) o, b ≠ P → h.get? b = some o → s'.heap.get? b = some o := fun b o hb e => hm.heap b o (fun z => by rw [hwr b z] at e; cases e) (k5 b o hb e)
 have kt : ∀ (b : Nat) o', h.get? b = some o' → ∀ o, s₅.heap.get? b = some o → s'.heap.get? b = some o := fun b o' e o e' => hm.heap b o (fun z => by rw [hwr b z] at e; cases e) e'
 have th : ∀ b : Nat, (∃ o, uu.get? b = some o) → ∃ o, h.get? b = some o := fun b ⟨o, e⟩ => S.inv.there e
 obtain ⟨o1, q1⟩ := th 190 S.inv.b1
 obtain ⟨o2, q2⟩ := th 197 S.inv.b2
 obtain ⟨o3, q3⟩ := th 194 S.inv.b3
 obtain ⟨o4, q4⟩ := th 201 S.inv.b4
 exact S.tabs hP kk (I5.t1.keeps (kt _ _ q3) (kt _ _ q1)) (I5.t2.keeps (kt _ _ q4) (kt _ _ q2))
theorem zm6 {odb : Obj} {Q : VP} (G : Gd w uu) (W : Wd uu vv h) (P : Rm A vv 3) (hB : AllBare g) (r1 : Rd vv h a (zad ax vs n)) (r2 : Rd vv h ax odb) (hp : Prs h vs ps) (hs : zb5 ps)
  (hq : ∀ t h' g' tk', RetX uu vv [] h h' → AllBare g' → Q (.str (zar ps) t) ⟨h', g', d, tk', os⟩) : wpAny (Mo w) A (call (.ref 202) [.ref a]) Q E ⟨h, g, d, tk, os⟩ := by
 refine zhr (binds := [(ofString "self", .ref a)]) G W P zdd (G.get W.inv (a := 202) rfl) rfl rfl rfl rfl ⟨_, _, _, _, rfl, G.get W.inv (a := 201) rfl, rfl, rfl⟩ rfl (by decide) (zba rfl) (zP ⟨rfl, rfl⟩) ?_
 intro L h₁ tk₁ S0 R
 have S1 := S0.entry r1.1 r1.2.1 List.not_mem_nil r1.2.2 (fun q hq => nomatch hq)
 have S := S1.entry r2.1 r2.2.1 List.not_mem_nil r2.2.2 (fun q hq => nomatch hq)
 have hp1 := hp.keeps S.keep
 have el := hp.length
 refine zjx ?_
 with_reducible refine zeb (x := ofString "") (t := 0) ?_ F.slot_str_join F.type_str_join ?za ?zb ?zc
 case za => walk_at "ab"
 case zb => rfl
 case zc => rfl
 walk_at "All"
 refine ⟨ofString "", _, rfl, ?_⟩
 walk_at "All"
 refine zml (a := a) (ax := ax) (vs := vs) (n := n) (c := 201) (P := 197) (cl := []) (F' := fun p y => ∃ t, y = .str (pcat p) t) G S R.handled R.room hB (.inl (.tail _ (.head _))) (.inl (.head _)) (by walk_at "lk") hp1 (.inr ⟨rfl, rfl⟩) rfl rfl rfl rfl rfl rfl rfl rfl (by decide) rfl rfl rfl rfl ?_ ?_
 ·intro A' E' p t u C code m₂ h₂ g₂ d₂ tk₂ os₂ hA' I₂ hns hva hvb hm
  have hl := hs.2 p hm
  unfold plen at hl
  with_reducible refine zeb (x := ofString "") (t := 0) ?_ F.slot_str_join F.type_str_join ?za ?zb ?zc
  case za => walk_at "ab"
  case zb => rfl
  case zc => rfl
  refine e_glob G I₂ rfl ?_
  refine ⟨ofString "", _, rfl, ?_⟩
  refine za3 ?_ rfl
  refine zb0 ?_ rfl
  refine zdl ?_
  refine zb0 ?_ rfl
  refine wpAny_Name (wpAny_loadName_local rfl rfl hns hva ?_) rfl
  refine zb0 ?_ rfl
  refine wpAny_Name (wpAny_loadName_local rfl rfl hns hvb ?_) rfl
  refine zdz ?_
  refine wpAny_newTuple ?_ (blT rfl)
  refine zdz ?_
  refine join_tupleW (items := #[.str p.1 t, .str p.2 u]) ⟨_, zL _ rfl, rfl, _, rfl⟩ (.cons _ _ (.cons _ _ .nil)) (by decide) (by simp; exact om214 hl) ?_
  intro t' k
  exact ⟨⟨t', rfl⟩, _, k, rfl, fun o o z => zQ _ z⟩
 ·intro a' h₅ g' tk' k5 S5 hB5 O
  walk_at "All"
  obtain ⟨fp, wr, G', P', St', W', hP', hst, hgT, ha', hfp, qz⟩ := O.wk
  have hwr := qz.1
  have hG' := qz.2
  have hsz : vs.length ≤ sizeLine := by have : sizeLine = 16777216 := rfl; have := hs.1; exact om215 el this
  refine SC.joinGen W'.in4_2 hgT hst hfp ha' (fun j v hv => by obtain ⟨p, _, t, rfl⟩ := hP' j v hv; exact ⟨_, _, rfl⟩) (fun s' lt hm hacc => ?_) hsz
  have hl : lt.map (·.1) = ps.map pcat := by
   apply List.ext_getElem?
   intro j
   have hlen : lt.length = vs.length := by simpa [strValues] using hacc.1
   by_cases hj : j < vs.length
   ·have hj' : j < lt.length := hlen ▸ hj
    obtain ⟨p, hpj, t, hv⟩ := hP' j _ (hacc.2 j (.str lt[j].1 lt[j].2) (by simp [strValues, List.getElem?_eq_getElem hj']))
    injection hv with h1 _
    rw [List.getElem?_map, List.getElem?_map, hpj, zI hj']
    simp [h1]
   ·rw [List.getElem?_eq_none (by simp; exact om216 hlen hj), List.getElem?_eq_none (by simp; exact om217 el hj)]
  refine hl ▸ ?_
  have b1 := zd5 ps
  have b2 := zch (B := 10000) hs.2
  have b3 : ps.length * 10000 ≤ 100 * 10000 := Zf _ hs.1
  have b5 : (ofString "").length = 0 := rfl
  refine ⟨joinOk_of (by rw [b5]; simp only [List.length_map]; exact om218 b1 b2 b3), fun t' k => ?_⟩
  have S6 := S.genEnd (P := 197) (.inr rfl) k5 S5.inv hwr hm
  obtain ⟨h', g'', d', tk'', os'⟩ := s'
  have e8 : d' = d := hm.drawn
  have e9 : os' = os := hm.os
  subst e8 e9
  exact hq _ _ _ _ S6.retX (hG' _ _ hm.gens hB5)
end
theorem Prs.snoc {h : Heap} {vs : List Value} {ps : List (Str × Str)} (p : Prs h vs ps) {T t u : Nat} {q : Str × Str} (ho : h.get? T = some (zac [.str q.1 t, .str q.2 u])) : Prs h (vs ++ [.ref T]) (ps ++ [q]) :=
 All2.snoc p ⟨T, t, u, rfl, ho⟩
theorem All2.splitSnoc {α β : Type} {R : α → β → Prop} {l : List α} {m : List β} {b : β} (x : All2 R l (m ++ [b])) : ∃ l' a, l = l' ++ [a] ∧ All2 R l' m ∧ R a b := by
 induction m generalizing l with
 | nil =>
  cases x with
  | cons h t => cases t; exact ⟨[], _, rfl, .nil, h⟩
 | cons c r ih =>
  cases x with
  | cons h t =>
   obtain ⟨l', a, qz⟩ := ih t
   obtain rfl := qz.1
   have q := qz.2.1
   have r := qz.2.2
   exact ⟨_ :: l', a, rfl, .cons h q, r⟩
theorem All2.take {α β : Type} {R : α → β → Prop} {l : List α} {m : List β} (a : All2 R l m) : ∀ n, All2 R (l.take n) (m.take n) := by
 induction a with
 | nil => intro n; simp; exact .nil
 | cons h t ih =>
  intro n
  cases n with
  | zero => exact .nil
  | succ n => simpa using All2.cons h (ih n)
section
variable {x C a n : Nat}
theorem St.newX (S : St uu ww X vv L l ro rw tl h) {b : Nat} {o : Obj} (hm : (b, o) ∈ rw) (hb : b ∉ X) : ww.get? b = none ∧ h.get? b = some o := by
 have qz := S.hrw _ hm
 have a1 := qz.1
 have a5 := qz.2.2.2.2.1
 exact ⟨a5.resolve_left hb, a1⟩
theorem zm7 {q : Str × Str} {t u t1 : Nat} {k : Value} {Q : VP} (G : Gd w uu) (W : Wd uu vv h) (P : Rm A vv 3) (O : Own uu vv h [(a, zad ax vs n)]) (r2 : Rd vv h ax (iniD w t1 k)) (hax : ax ≠ a) (hp : Prs h vs ps) (hs : ps.length ≤ 1000)
  (hq : ∀ v m h' tk', RetX uu vv [a] h h' → h'.get? a = some (zad ax (vs ++ [v]) m) → Prs h' (vs ++ [v]) (ps ++ [q]) → (∃ T, v = .ref T ∧ h.get? T = none) → Q .none ⟨h', g, d, tk', os⟩) :
  codeAny (Mo w) A (.call (.ref 172) ⟨[.ref a, .str q.1 t, .str q.2 u], []⟩) (wants Q E) ⟨h, g, d, tk, os⟩ := by
 refine zkh (binds := [(ofString "self", .ref a), (ofString "fws", .str q.1 t), (ofString "string", .str q.2 u)]) G W P O (G.get W.inv (a := 172) rfl) rfl rfl rfl rfl ⟨_, _, _, _, rfl, G.get W.inv (a := 171) rfl, rfl, rfl⟩ rfl (by decide) (zba rfl) (zP ⟨rfl, rfl⟩) ?_
 intro L h₁ tk₁ S0 R
 have S := S0.entry r2.1 r2.2.1 (by simpa using hax) r2.2.2 (fun q hq => by rw [List.mem_singleton.mp hq]; exact hax)
 have el := hp.length
 refine wpAt_of_wpAny ?_
 refine ziz (zf9 ?_ (by walk_at "ab") rfl rfl) rfl rfl
 walk_at "All"
 refine n_appL G S (.inr (.head _)) (.inl (.head _)) rfl ?_
 refine za3 ?_ (by rfl)
 refine zb0 ?_ (by rfl)
 refine zdl ?_
 refine zb0 ?_ (by rfl)
 refine zij S (by walk_at "lk") ?_
 refine zb0 ?_ (by rfl)
 refine zij S (by walk_at "lk") ?_
 refine zdz ?_
 refine wpAny_newTuple ?_ (blT rfl)
 have hT0 : h.get? h₁.objs.size = none := by
  cases e : h.get? h₁.objs.size with
  | none => rfl
  | some o =>
   obtain ⟨o', e'⟩ := S.keep.there _ _ e
   exact absurd (ltS e') (Nat.lt_irrefl _)
 have S2 := S.allocR (zac [.str q.1 t, .str q.2 u]) rfl
 generalize h₁.objs.size = T at hT0 S2 ⊢
 refine zdz ?_
 refine o_appL (rw' := fun m => [(a, zad ax (vs ++ [.ref T]) m)]) G S2 (fun m => .head) (.inl (.tail _ (.head _))) (by exact om219 hs el) ?_
 intro m h3 S3
 refine ⟨(fun j e => nomatch e), ?_⟩
 walk_at "All"
 exact hq (.ref T) m h3 _ S3.retX (S3.getR (.inr (.head _))) ((hp.keeps S3.keep).snoc (S3.getR (.inl (.head _)))) ⟨T, rfl, hT0⟩
theorem c_push {q : Str × Str} {t u t1 : Nat} {k : Value} {Q : VP} (G : Gd w uu) (W : Wd uu vv h) (P : Rm A vv 3) (O : Own uu vv h [(a, zad ax vs n)]) (r2 : Rd vv h ax (iniD w t1 k)) (hax : ax ≠ a) (hp : Prs h vs ps) (hs : ps.length ≤ 1000)
  (hq : ∀ v m h' tk', RetX uu vv [a] h h' → h'.get? a = some (zad ax (vs ++ [v]) m) → Prs h' (vs ++ [v]) (ps ++ [q]) → (∃ T, v = .ref T ∧ h.get? T = none) → Q .none ⟨h', g, d, tk', os⟩) :
  wpAny (Mo w) A (call (.ref 172) [.ref a, .str q.1 t, .str q.2 u]) Q E ⟨h, g, d, tk, os⟩ := wpAny_call (zm7 G W P O r2 hax hp hs hq)
set_option tactic.hygienic true in
theorem zm8 {i : Nat} {t t1 : Nat} {k : Value} {Q : VP} (G : Gd w uu) (W : Wd uu vv h) (P : Rm A vv 3) (O : Own uu vv h [(a, zad ax vs n)]) (r2 : Rd vv h ax (iniD w t1 k)) (hax : ax ≠ a) (hi : i ≤ vs.length) (hs : vs.length ≤ 1000)
  (hq : ∀ b m m' h' tk', RetX uu vv [a] h h' → h.get? b = none → h'.get? b = some (zaa (vs.drop i) m') → h'.get? a = some (zad ax (vs.take i) m) → Q (.ref b) ⟨h', g, d, tk', os⟩) :
  wpAny (Mo w) A (call (.ref 180) [.ref a, .int i t]) Q E ⟨h, g, d, tk, os⟩ := by
 refine zhr (binds := [(ofString "self", .ref a), (ofString "i", .int i t)]) G W P O (G.get W.inv (a := 180) rfl) rfl rfl rfl rfl ⟨_, _, _, _, rfl, G.get W.inv (a := 179) rfl, rfl, rfl⟩ rfl (by decide) (zba rfl) ?_ ?_
 ·have hdf := G.get W.inv (a := 173) rfl
  repeat (any_goals (first | exact hdf | assumption | wp_step))
  exact ⟨rfl, rfl⟩
 intro L h₁ tk₁ S0 R
 have S := S0.entry r2.1 r2.2.1 (by simpa using hax) r2.2.2 (fun q hq => by rw [List.mem_singleton.mp hq]; exact hax)
 have e1 : kms_lo (some (i : Int)) vs.length = i := by
  unfold kms_lo
  dsimp only
  exact om221 hi
 have e2 : kms_hi none vs.length = vs.length := rfl
 walk_at "All"
 rename_i sl h2 hsl S2
 refine o_sliceL G S2 (.inr (.head _)) (.inl (.head _)) hsl (.int _ _) .none (by exact om222 hs) (us := vs.drop i) (by unfold kms_pick; rw [e1, e2]; exact Zh (by simp)) ?_
 intro b h3 hb S3
 walk_at "All"
 rename_i h4 S4 b2 h5 S5 sl2 h6 hsl2 S6
 refine zfs (vs := vs) (us := []) (zs := vs.take i) (rw' := fun m => [(b2, zaa []), (b, zaa (vs.drop i)), (a, zad ax (vs.take i) m)]) G S6 (fun m => .tail (.tail .head)) (.inl (.head _)) (S6.getR (.inr (.head _))) hsl2 (.int _ _) .none (by simp; exact om223 hs) (by rw [e1, e2]; simp; exact om224) ?_
 intro m h7 S7
 walk_at "All"
 have nd := S7.nd
 simp only [List.map_cons, List.map_nil, List.nodup_cons, List.mem_cons, List.not_mem_nil, or_false, not_or] at nd
 have g1 := S7.newX (b := b) (.tail _ (.head _)) (by simpa using nd.2.1)
 exact hq _ _ _ _ _ S7.retX g1.1 g1.2 (S7.getR (.inr (.tail _ (.tail _ (.head _)))))
end
section
variable {x C a n : Nat}
theorem St.back0 (S : St uu ww X vv L l ro rw tl h) {h' : Heap} (r : RetX uu (env :: vv) [] h h') (hL : env.frame = some L) : St uu ww X vv L l ro rw tl h' := S.call hL r.keep r.inv
theorem Rd.of (S : St uu ww X vv L l ro rw tl h) {o : Obj} (hm : (a, o) ∈ ro ∨ (a, o) ∈ rw) (hL : env.frame = some L) : Rd (env :: vv) h a o := by
 rcases hm with hm | hm
 ·obtain ⟨a1, a2, a3, a4⟩ := S.hro _ hm
  refine ⟨a1, fun z => ?_, a4⟩
  rw [zbl hL] at z
  rcases zC z with z | z
  ·exact a2 z
  ·exact a3 z
 ·obtain ⟨a1, a2, a3, a4, _⟩ := S.hrw _ hm
  refine ⟨a1, fun z => ?_, fun z => ?_⟩
  ·rw [zbl hL] at z
   rcases zC z with z | z
   ·exact a2 z
   ·exact a3 z
  ·obtain ⟨o', e⟩ := S.inv.tabLow z
   dsimp only at a4
   rw [a4] at e; cases e
theorem L_noMod {w : World} : mroIn (KS w) 228 (.type "module") = some false := by rfl
theorem L_cd {w : World} : ∃ cd, clsIn (KS w) 228 = some cd ∧ cd.qualname = ofString "_Accumulator" := ⟨_, rfl, rfl⟩
theorem L_meta {w : World} : typeIn (KS w) (.ref 228) = some (.type "type") := by rfl
noncomputable def sigP : Manifest.Signature := (Manifest.signature? "list.pop").get (by decide +kernel)
theorem znb {Q : Unit → SP} {x : Nat} {ox : Obj} {od : Option Obj} {s : Shared} (K : (KS w).In s.heap) (I : InstAt s.heap x ox 228 od) (hq : Q () s) : wpAny (Mo w) A (checkBoundCall "list.pop" ⟨[.ref x], []⟩) Q E s := by
 have hs : Manifest.signature? "list.pop" = some sigP := by kernel_rfl
 have hc : Bind.checkArgs "list.pop" { sigP with full := s!"{(Str.ofString "_Accumulator").toString}.{Bind.lastOf "list.pop"}" } ⟨[.ref x], []⟩ = pure () := by kernel_rfl
 have hv : Manifest.varargsMethods.contains "list.pop" = false := by decide +kernel
 obtain ⟨cd, qz⟩ := L_cd (w := w)
 have hcd := qz.1
 have hqn := qz.2
 unfold checkBoundCall
 refine hs ▸ ?_
 refine kind_pop ▸ ?_
 dsimp only
 refine zB ((show Looks (Mo w) s.heap (isInstance (.ref x) (.type "module")) false from I.type.andThen (looks_mroIn K L_noMod)).here ?_)
 refine zB ?_
 refine ks_wpAny_isType_inst I.at_ (fun c e => by have := I.no; unfold notCls at this; rw [e] at this; exact Bool.noConfusion this) ?_
 refine zB (I.type.at ?_)
 refine zB ((looks_clsIn K hcd).at ?_)
 refine zB ((looks_typeIn K L_meta).at ?_)
 rw [zH (by decide), hqn]
 exact wpAny_of_eq hc hq
set_option tactic.hygienic true in
theorem c_pop0 {t1 : Nat} {k : Value} {Q : VP} (G : Gd w uu) (W : Wd uu vv h) (P : Rm A vv 4) (r1 : Rd vv h a (zad ax [] n)) (r2 : Rd vv h ax (iniD w t1 k))
  (hq : ∀ T t u h' tk', RetX uu vv [] h h' → h'.get? T = some (zac [.str (ofString "") t, .str (ofString "") u]) → Q (.ref T) ⟨h', g, d, tk', os⟩) :
  wpAny (Mo w) A (call (.ref 188) [.ref a]) Q E ⟨h, g, d, tk, os⟩ := by
 refine zhr (binds := [(ofString "self", .ref a)]) G W P zdd (G.get W.inv (a := 188) rfl) rfl rfl rfl rfl ⟨_, _, _, _, rfl, G.get W.inv (a := 187) rfl, rfl, rfl⟩ rfl (by decide) (zba rfl) (zP ⟨rfl, rfl⟩) ?_
 intro L h₁ tk₁ S0 R
 have S1 := S0.entry r1.1 r1.2.1 List.not_mem_nil r1.2.2 (fun q hq => nomatch hq)
 have S := S1.entry r2.1 r2.2.1 List.not_mem_nil r2.2.2 (fun q hq => nomatch hq)
 refine x_if ?_
 walk_at "All"
 refine zf9 ?_ (by walk_at "ab") rfl rfl
 walk_at "All"
 refine zib G S (.inl (.tail _ (.head _))) (.inl (.head _)) (name := ofString "part_count") (f := 225) rfl rfl rfl ?_
 refine zeh (by rfl) ?_ rfl
 walk_at "All"
 refine ⟨G.ks S.inv, ?_⟩
 refine zio G (S.wd rfl (by intro z; cases z)) R (Rd.of S (.inl (.tail _ (.head _))) rfl) (Rd.of S (.inl (.head _)) rfl) ?_
 intro t2 h2 tk2 r2'
 have S2 := S.back0 r2' rfl
 walk_at "All"
 rw [zH (by decide)]
 walk_at "All"
 rename_i T h3 S3
 exact hq T _ _ h3 _ S3.retX (S3.getR (.inl (.head _)))
theorem c_pop1 {v : Value} {t1 : Nat} {k : Value} {Q : VP} (G : Gd w uu) (W : Wd uu vv h) (P : Rm A vv 4) (O : Own uu vv h [(a, zad ax (vs ++ [v]) n)]) (r2 : Rd vv h ax (iniD w t1 k)) (hax : ax ≠ a) (hs : vs.length ≤ 1000)
  (hq : ∀ m h' tk', RetX uu vv [a] h h' → h'.get? a = some (zad ax vs m) → Q v ⟨h', g, d, tk', os⟩) :
  wpAny (Mo w) A (call (.ref 188) [.ref a]) Q E ⟨h, g, d, tk, os⟩ := by
 refine wpAny_call (zkh (binds := [(ofString "self", .ref a)]) G W P O (G.get W.inv (a := 188) rfl) rfl rfl rfl rfl ⟨_, _, _, _, rfl, G.get W.inv (a := 187) rfl, rfl, rfl⟩ rfl (by decide) (zba rfl) (zP ⟨rfl, rfl⟩) ?_)
 intro L h₁ tk₁ S0 R
 have S := S0.entry r2.1 r2.2.1 (by simpa using hax) r2.2.2 (fun q hq => by rw [List.mem_singleton.mp hq]; exact hax)
 refine ks_wpAt_execs_cons (wpAt_of_wpAny (wpAny_If ?_))
 walk_at "All"
 refine zf9 ?_ (by walk_at "ab") rfl rfl
 walk_at "All"
 refine zib G S (.inr (.head _)) (.inl (.head _)) (name := ofString "part_count") (f := 225) rfl rfl rfl ?_
 refine zeh (by rfl) ?_ rfl
 walk_at "All"
 refine ⟨G.ks S.inv, ?_⟩
 refine zio G (S.wd rfl (by intro z; cases z)) R (Rd.of S (.inr (.head _)) rfl) (Rd.of S (.inl (.head _)) rfl) ?_
 intro t2 h2 tk2 r2'
 have S2 := S.back0 r2' rfl
 walk_at "All"
 rw [zG (by simp; exact om225)]
 walk_at "All"
 refine ks_wpAt_execs_cons (ks_wpAt_Return_some ?_)
 refine zii (a := a) (ax := ax) (vs := vs ++ [v]) (n := n) (odb := iniD w t1 k) (c := 187) G S2 (.inr (.head _)) (.inl (.head _)) (G.get S2.inv (a := 188) rfl) rfl rfl rfl (G.get S2.inv (a := 187) rfl) rfl rfl rfl rfl rfl rfl rfl rfl rfl rfl rfl rfl rfl ?_ rfl
 intro so h3 hso S3
 refine zfv (i := "list.pop") G S3 hso (.inr (.head _)) (.inl (.head _)) rfl rfl F.type_list_pop zd0.lookup (fun x ox od A E Q s K I q => get_md F.type_list_pop zg3 told_pop K I q) ?_
 intro b h4 hb S4
 have K4 := G.ks S4.inv
 have I4 := S4.inst (.inr (.head _)) (.inl (.head _)) (C := 228) rfl rfl rfl
 refine zmt (.inl rfl) hb (zge hb (.inl rfl) F.slot_list_pop.plain F.entry_list_pop (fun Q A q => znb K4 I4 q) (body_pop (v := v) (S4.getR (.inr (.head _))) rfl (by simp) (by have : sizeLine = 16777216 := rfl; simp; exact om226 hs) ⟨_, rfl, ?_⟩))
 obtain ⟨m, em⟩ := S4.chgSeq (f := fun xs => xs.eraseIdxIfInBounds ((vs ++ [v]).toArray.size - 1)) (us := vs) (.head _) (by
  unfold Array.eraseIdxIfInBounds
  simp [List.eraseIdx_append_of_length_le])
 have S5 := S4.chgS (.head (o' := zad ax vs m)) (.update ..) em (fun q => by cases q)
 exact hq m _ _ S5.retX em
end
theorem L_strFn {w : World} : isFn (KS w) (.ref 202) = true := by rfl
theorem L_lenFn {w : World} : typeIn (KS w) (.ref 195) = some (.type "function") := by rfl
section
variable {x C a n : Nat}
theorem zff {Q : VP} (K : (KS w).In s.heap) (I : InstAt s.heap x ox 228 od)
  (h : wpAny (Mo w) A (call (.ref 195) [.ref x]) (fun r s' => ∃ (n : Int) (t : Tok), r = .int n t ∧ (0 ≤ n ∧ n < 2 ^ 63) ∧ Q (.int n s'.toks) { s' with toks := s'.toks + 1 }) E s) :
  wpAny (Mo w) A (Builtin.«len» ⟨[.ref x], []⟩) (fun fin s' => ∃ v, fin = .done (.ret v) ∧ Q v s') E s := by
 refine zB (m := oneArg "len" _) (zP ?_)
 refine zB (m := callSpecial? (.ref x) (ofString "__len__")) (special_fn K I L_len L_lenFn (zM h (fun r s' hr => ?_) fun j j y => y))
 obtain ⟨n, t, rfl, ⟨h0, h1⟩, hq⟩ := hr
 refine zB (wpAny_holding (zP ?_))
 refine zB (wpAny_letGo ?_)
 rw [zG (by exact om227 h0)]
 rw [zG (by exact om228 h1)]
 exact zB (wpAny_mkInt (zP ⟨_, rfl, hq⟩))
theorem instAc {od : Obj} (r1 : Rd vv h a (zad ax vs n)) (r2 : Rd vv h ax od) : InstAt h a (zad ax vs n) 228 (some od) := ⟨r1.1, rfl, rfl, r2.1⟩
theorem o_lenAc {k : Int} {t u : Nat} {Q : VP} (G : Gd w uu) (W : Wd uu vv h) (P : Rm A vv 4) (hB : AllBare g) (r1 : Rd vv h a (zad ax vs n)) (r2 : Rd vv h ax (iniD w t (.int k u))) (hp : Prs h vs ps) (hs : zb5 ps) (hk : 0 ≤ k ∧ k ≤ 1000)
  (hq : ∀ t h' g' tk', RetX uu vv [] h h' → AllBare g' → Q (.int (k + plens ps) t) ⟨h', g', d, tk', os⟩) : wpAny (Mo w) A (call (.builtin "len") [.ref a]) Q E ⟨h, g, d, tk, os⟩ := by
 have b2 := zch (B := 10000) hs.2
 have b3 : ps.length * 10000 ≤ 100 * 10000 := Zf _ hs.1
 refine Calls.call_function_entry PySem.kind_len PySem.plain_len PySem.entry_len (PySem.args_len1 _) (zff (G.ks W.inv) (instAc r1 r2) ?_)
 refine c_len G W P.in1 hB r1 r2 hp hs hk fun t h' g' tk' r b => ⟨_, _, rfl, by exact om229 hk b2 b3, hq _ _ _ _ r b⟩
theorem zj4 {k : Int} {t u : Nat} {Q : Bool → SP} (G : Gd w uu) (W : Wd uu vv h) (P : Rm A vv 4) (hB : AllBare g) (r1 : Rd vv h a (zad ax vs n)) (r2 : Rd vv h ax (iniD w t (.int k u))) (hp : Prs h vs ps) (hs : zb5 ps) (hk : 0 ≤ k ∧ k ≤ 1000)
  (hq : ∀ h' g' tk', RetX uu vv [] h h' → AllBare g' → Q ((k + plens ps : Int) != 0) ⟨h', g', d, tk', os⟩) : wpAny (Mo w) A (truthy (.ref a)) Q E ⟨h, g, d, tk, os⟩ := by
 have b2 := zch (B := 10000) hs.2
 have b3 : ps.length * 10000 ≤ 100 * 10000 := Zf _ hs.1
 have K := G.ks W.inv
 have I : InstAt h a (zad ax vs n) 228 (some (iniD w t (.int k u))) := ⟨r1.1, rfl, rfl, r2.1⟩
 refine zB (m := callSpecial? (.ref a) (ofString "__bool__")) (zB (zB (I.type.here ((looks_findIn K L_bool).here (zP ?_)))))
 refine zB (zB (I.type.here ((looks_findIn K L_len).here ?_)))
 refine zB (wpAny_runValue (codeAny_builtin PySem.entry_len ?_))
 refine zM (zff (Q := fun v s' => ∃ (n : Int) (t : Tok), v = .int n t ∧ Q (n != 0) s') K I ?_) (fun fin s' z => ?_) (fun j j z => z)
 ·exact c_len G W P.in1 hB r1 r2 hp hs hk fun t h' g' tk' r b => ⟨_, _, rfl, by exact om229 hk b2 b3, _, _, rfl, hq _ _ _ r b⟩
 ·obtain ⟨v, rfl, n, t, rfl, z⟩ := z
  exact zP z
theorem zlj {odb : Obj} {Q : VP} (G : Gd w uu) (W : Wd uu vv h) (P : Rm A vv 5) (hB : AllBare g) (r1 : Rd vv h a (zad ax vs n)) (r2 : Rd vv h ax odb) (hp : Prs h vs ps) (hs : zb5 ps)
  (hq : ∀ t h' g' tk', RetX uu vv [] h h' → AllBare g' → Q (.str (zar ps) t) ⟨h', g', d, tk', os⟩) : wpAny (Mo w) A (call (.type "str") [.ref a]) Q E ⟨h, g, d, tk, os⟩ := by
 refine kso_call (K := KS w) (C := 228) P.in1.in1.crm (G.ks W.inv) (instAc r1 r2) L_str L_strFn ?_
 exact zm6 G W P.in1.in1 hB r1 r2 hp hs fun t h' g' tk' r b => hq t h' g' tk' r b
end
theorem znk {w : World} : takerIn (KS w) 228 "_initial_size" = some none := by rfl
theorem ini_put {w : World} {t t2 : Nat} {v v2 : Value} : (putL "_initial_size" (PyData.keyHash w.params "_initial_size") (.str "_initial_size" t2) v2 [ent w "_initial_size" t v], putN "_initial_size" [ent w "_initial_size" t v] 1) = ([ent w "_initial_size" t v2], 1) := rfl
section
variable {x C a n : Nat}
theorem zjb {t : Nat} {v v2 : Value} {Q : Unit → SP} {rw' : LO} (G : Gd w uu) (S : St uu ww X vv L l ro rw tl h) (hx : (a, zad ax vs n) ∈ ro ∨ (a, zad ax vs n) ∈ rw) (hl : Led rw ax (iniD w t v) (iniD w t v2) rw')
  (hq : ∀ h', St uu ww X vv L l ro rw' tl h' → Q () ⟨h', g, d, tk + 2, os⟩) : wpAny (Mo w) A (setAttr (.ref a) "_initial_size" v2) Q E ⟨h, g, d, tk, os⟩ :=
 o_setL G S hx hl rfl rfl rfl znk rfl ini_put (by simp) hq
set_option tactic.hygienic true in
theorem c_reset0 {t : Nat} {v : Value} {Q : VP} (G : Gd w uu) (W : Wd uu vv h) (P : Rm A vv 3) (O : Own uu vv h [(a, zad ax vs n), (ax, iniD w t v)]) (hs : vs.length ≤ 1000)
  (hq : ∀ m u h' tk', RetX uu vv [a, ax] h h' → h'.get? a = some (zad ax [] m) → h'.get? ax = some (iniD w t (.int 0 u)) → Q .none ⟨h', g, d, tk', os⟩) :
  wpAny (Mo w) A (call (.ref 210) [.ref a]) Q E ⟨h, g, d, tk, os⟩ := by
 refine zhr (binds := [(ofString "self", .ref a), (ofString "startval", .none)]) G W P O (G.get W.inv (a := 210) rfl) rfl rfl rfl rfl ⟨_, _, _, _, rfl, G.get W.inv (a := 209) rfl, rfl, rfl⟩ rfl (by decide) (zba rfl) ?_ ?_
 ·have hdf := G.get W.inv (a := 203) rfl
  repeat (any_goals (first | exact hdf | assumption | wp_step))
  exact ⟨rfl, rfl⟩
 intro L h₁ tk₁ S R
 refine x_if ?_
 walk_at "All"
 refine wpAny_is_plain rfl ?_
 walk_at "All"
 rw [zH (by rfl)]
 walk_at "All"
 rename_i b h2 S2 h3 S3 sl h4 hsl S4
 refine zfs (vs := vs) (us := []) (zs := []) (rw' := fun m => [(b, zaa []), (a, zad ax [] m), (ax, iniD w t v)]) G S4 (fun m => .tail .head) (.inr (.tail _ (.tail _ (.head _)))) (S4.getR (.inr (.head _))) hsl .none .none (by simp; exact om223 hs) (by simp [kms_lo, kms_hi]) ?_
 intro m h5 S5
 walk_at "All"
 with_reducible refine zbd ?_ ?zz
 case zz => rfl
 walk_at "All"
 refine zjb (rw' := [(b, zaa []), (a, zad ax [] m), (ax, iniD w t _)]) G S5 (.inr (.tail _ (.head _))) (.tail (.tail .head)) ?_
 intro h6 S6
 walk_at "All"
 exact hq m _ h6 _ S6.retX (S6.getR (.inr (.tail _ (.head _)))) (S6.getR (.inr (.tail _ (.tail _ (.head _)))))
set_option tactic.hygienic true in
theorem c_reset1 {t b mb : Nat} {us : List Value} {v : Value} {Q : VP} (G : Gd w uu) (W : Wd uu vv h) (P : Rm A vv 3) (O : Own uu vv h [(a, zad ax vs n), (ax, iniD w t v)]) (r1 : Rd vv h b (zaa us mb)) (hs : vs.length ≤ 1000) (hs2 : us.length ≤ 1000)
  (hq : ∀ m u h' tk', RetX uu vv [a, ax] h h' → h'.get? a = some (zad ax us m) → h'.get? ax = some (iniD w t (.int 0 u)) → Q .none ⟨h', g, d, tk', os⟩) :
  wpAny (Mo w) A (call (.ref 210) [.ref a, .ref b]) Q E ⟨h, g, d, tk, os⟩ := by
 refine zhr (binds := [(ofString "self", .ref a), (ofString "startval", .ref b)]) G W P O (G.get W.inv (a := 210) rfl) rfl rfl rfl rfl ⟨_, _, _, _, rfl, G.get W.inv (a := 209) rfl, rfl, rfl⟩ rfl (by decide) (zba rfl) ?_ ?_
 ·have hdf := G.get W.inv (a := 203) rfl
  repeat (any_goals (first | exact hdf | assumption | wp_step))
  exact ⟨rfl, rfl⟩
 intro L h₁ tk₁ S0 R
 have nb : b ≠ a ∧ b ≠ ax := by
  refine ⟨fun e => ?_, fun e => ?_⟩
  ·have := (O.at_ _ (.head _)).1
   dsimp only at this
   rw [← e, r1.1] at this; cases this
  ·have := (O.at_ _ (.tail _ (.head _))).1
   dsimp only at this
   rw [← e, r1.1] at this
   exact clsNe (by decide) (congrArg Obj.cls (Option.some.inj this))
 have S := S0.entry r1.1 r1.2.1 (by simpa using nb) r1.2.2 (fun q hq => by
  simp only [List.mem_cons, List.not_mem_nil, or_false] at hq
  rcases hq with rfl | rfl
  ·exact nb.1
  ·exact nb.2)
 refine x_if ?_
 walk_at "All"
 refine wpAny_is_plain rfl ?_
 walk_at "All"
 rw [zG (show ¬ ((Value.ref b == Value.none) = true) from zF)]
 walk_at "All"
 rename_i sl h4 hsl S4
 refine zfs (vs := vs) (us := us) (zs := us) (rw' := fun m => [(a, zad ax us m), (ax, iniD w t v)]) G S4 (fun m => .head) (.inr (.tail _ (.head _))) (S4.getR (.inl (.head _))) hsl .none .none (by exact om230 hs hs2) (by simp [kms_lo, kms_hi]) ?_
 intro m h5 S5
 walk_at "All"
 with_reducible refine zbd ?_ ?zz
 case zz => rfl
 walk_at "All"
 refine zjb (rw' := [(a, zad ax us m), (ax, iniD w t _)]) G S5 (.inr (.head _)) (.tail .head) ?_
 intro h6 S6
 walk_at "All"
 exact hq m _ h6 _ S6.retX (S6.getR (.inr (.head _))) (S6.getR (.inr (.tail _ (.head _))))
end
section
variable {x C a n : Nat}
theorem c_onlyws {k : Int} {t u : Nat} {Q : VP} (G : Gd w uu) (W : Wd uu vv h) (P : Rm A vv 6) (hB : AllBare g) (r1 : Rd vv h a (zad ax vs n)) (r2 : Rd vv h ax (iniD w t (.int k u))) (hp : Prs h vs ps) (hs : zb5 ps) (hk : 0 ≤ k ∧ k ≤ 1000)
  (hno : k ≠ 0 ∨ (0 < plens ps ∧ Txt.isspace (zar ps) = false))
  (hq : ∀ h' g' tk', RetX uu vv [] h h' → AllBare g' → Q (.bool false) ⟨h', g', d, tk', os⟩) : wpAny (Mo w) A (call (.ref 217) [.ref a]) Q E ⟨h, g, d, tk, os⟩ := by
 refine zhr (binds := [(ofString "self", .ref a)]) G W P zdd (G.get W.inv (a := 217) rfl) rfl rfl rfl rfl ⟨_, _, _, _, rfl, G.get W.inv (a := 216) rfl, rfl, rfl⟩ rfl (by decide) (zba rfl) (zP ⟨rfl, rfl⟩) ?_
 intro L h₁ tk₁ S0 R
 have S1 := S0.entry r1.1 r1.2.1 List.not_mem_nil r1.2.2 (fun q hq => nomatch hq)
 have S := S1.entry r2.1 r2.2.1 List.not_mem_nil r2.2.2 (fun q hq => nomatch hq)
 have hp1 := hp.keeps S.keep
 refine zjx (BoolOp_and ?_)
 walk_at "All"
 refine zmm ?_ (by walk_at "ab")
 walk_at "All"
 refine zly G S (.inl (.tail _ (.head _))) (.inl (.head _)) rfl ?_
 walk_at "All"
 by_cases k0 : k = 0
 ·subst k0
  obtain ⟨n1, n2⟩ := hno.resolve_left (by simp)
  refine BoolOp_one (BoolOp_or ?_)
  walk_at "All"
  refine PyProof.Rows.not_of (zj4 G (S.wd rfl (by intro z; cases z)) (R.less (by exact om231)) hB (Rd.of S (.inl (.tail _ (.head _))) rfl) (Rd.of S (.inl (.head _)) rfl) hp1 hs hk ?_)
  intro h2 g2 tk2 r b2
  have S2 := S.back0 r rfl
  have hp2 := hp.keeps S2.keep
  have e1 : ((0 + plens ps : Int) != 0) = true := by simp; exact om8 n1
  rw [e1]
  walk_at "All"
  refine BoolOp_one ?_
  refine zeb (x := ofString "") (t := 0) ?_ F.slot_str_isspace F.type_str_isspace rfl rfl rfl
  walk_at "All"
  refine zlj G (S2.wd rfl (by intro z; cases z)) R b2 (Rd.of S2 (.inl (.tail _ (.head _))) rfl) (Rd.of S2 (.inl (.head _)) rfl) hp2 hs ?_
  intro t3 h3 g3 tk3 r3 b3
  have S3 := S2.back0 r3 rfl
  refine ⟨_, _, rfl, ?_⟩
  walk_at "All"
  refine SC.isspace ?_
  rw [n2]
  exact hq h3 g3 _ S3.retX b3
 ·rw [zG (by simpa using k0)]
  have e2 : (k == 0) = false := by simpa using k0
  rw [e2]
  exact hq _ _ _ S.retX hB
end
theorem L_pushFn {w : World} : fnIn (KS w) 172 = true := by rfl
theorem L_find {w : World} {t : Nat} {v : Value} : findObj (KS w) 228 (some (iniD w t v)) "push" = some (.bind (.builtin "function.__get__") (.ref 172)) := by rfl
section
variable {x C a n : Nat}
theorem n_boundL {t : Nat} {v : Value} {Q : VP} {expr : Bool} (G : Gd w uu) (S : St uu ww X vv L l ro rw tl h)
  (hx : (a, zad ax vs n) ∈ ro ∨ (a, zad ax vs n) ∈ rw) (hd : (ax, iniD w t v) ∈ ro ∨ (ax, iniD w t v) ∈ rw)
  (hq : ∀ b h' tk', h'.get? b = some (methodObj (.ref 172) (.ref a)) → St uu ww X vv L l ro rw tl h' → Q (.ref b) ⟨h', g, d, tk', os⟩) : wpAny (Mo w) A (getAttr (.ref a) "push" expr) Q E ⟨h, g, d, tk, os⟩ := by
 have K := G.ks S.inv
 have I := S.inst hx hd (C := 228) rfl rfl rfl
 have L0 := I.type (M := Mo w)
 have L1 := looks_findIn (M := Mo w) K L_ga
 have L2 := looks_findIn (M := Mo w) K L_gk
 have L3 := looks_find (M := Mo w) K I L_find
 refine zB (wpAny_mkText (wpAny_holding (zB (L0.at (zB (L1.at ?_))))))
 show wpAny _ _ (getAttrByItsOwn _ _ _ _ _ _) _ _ _
 refine zB (L2.at ?_)
 refine zB (wpAny_attempt (wpAny_holding ?_))
 unfold callGetattribute
 have e : (expr && onTheHeap (Value.builtin "list.__getattribute__")) = false := by cases expr <;> rfl
 rw [e, zG zF]
 unfold boundAndCalled
 refine zB (zP ?_)
 refine zfb (n := "__getattribute__") K I (.inl (by decide +kernel)) (by decide +kernel) F.slot_list_getattribute.plain F.entry_list_ga (F.args_list_getattribute_2 _ _) ?_
 refine zB (zP (zB (zP (zB (L0.at (zB (L3.at ?_)))))))
 dsimp only
 refine zB (wpAny_holding ?_)
 have hTf : (⟨h, g, d, tk + 1, os⟩ : Shared).TypeIs (.ref 172) "function" := ⟨_, K 172 _ rfl, rfl⟩
 refine wpAny_call_entry F.ks_slot_function_get hTf F.ks_entry_function_get ?_ (F.ks_getArgs_function _ _ _)
 refine zB (zP ?_)
 refine zB (wpAny_newObj_type (zP ⟨_, rfl, zP ⟨_, rfl, ?_⟩⟩))
 show wpAny _ _ (handedOut _) _ _ _
 refine zP ?_
 exact hq _ _ _ (zL _ rfl) (S.push _)
theorem e_mcallS {o : Expr} {args : List Expr} {Q : VP} {s : Shared}
  (h : wpAny (Mo w) A (eval o env) (fun ov s₁ => wpAny (Mo w) A (getAttr ov name true) (fun f s₂ => wpAny (Mo w) A (callWith pos f [] (backTo pos (starEach args env)) []) Q E s₂) E s₁) E s)
  (hb : attributeBase o name env (eval o env) = eval o env)
  (hform : methodCallForm (args.length + ([] : List Keyword).length) (backTo pos (starEach args env)) (backToKw pos (keywordEach [] env)) = false) :
  wpAny (Mo w) A (eval (.Call (.Attribute o name apos) args [] pos) env) Q E s := by
 rw [arm_eval_Call, hb]
 refine zB (zM h (fun ov s₁ h₁ => zB (wpAny_standAt ?_)) fun j j x => x)
 have hpos : methodCallPos false o env apos pos = pure pos := by unfold methodCallPos; simp
 unfold methodCall
 rw [hform]
 refine zB (wpAny_holding ?_)
 unfold calleeOf
 refine zB (zM h₁ (fun f s₂ h₂ => zP ?_) fun j j x => x)
 exact zB (wpAny_of_eq hpos h₂)
theorem cw_star {b f T : Nat} {e : Expr} {sp : Pos} {ws : List Value} {Q : VP} (K : (KS w).In h) (hf : fnIn (KS w) f = true) (hb : h.get? b = some (methodObj (.ref f) (.ref a)))
  (he : wpAny (Mo w) A (eval e env) (fun v s₁ => v = .ref T ∧ s₁ = ⟨h, g, d, tk, os⟩) E ⟨h, g, d, tk, os⟩) (hT : h.get? T = some (zac ws)) (hz : ws.length ≤ 1000)
  (hq : ∀ h', (∀ (b : Nat) o, h.get? b = some o → h'.get? b = some o) → codeAny (Mo w) A (.call (.ref f) ⟨.ref a :: ws, []⟩) (wants Q E) ⟨h', g, d, tk, os⟩)
  (hs : starEach [.Starred e sp] env = [(true, eval e env)]) : wpAny (Mo w) A (callWith pos (.ref b) [] (backTo pos (starEach [.Starred e sp] env)) []) Q E ⟨h, g, d, tk, os⟩ := by
 refine ks_call (P := MethP (KS w) b f (.ref a)) rfl (fun h' X => keeps_M hf h' X) (ks_lone (zM he (fun v s₁ q => ?_) fun j j z => z))
 obtain ⟨rfl, rfl⟩ := q
 have hTT : (⟨h, g, d, tk, os⟩ : Shared).TypeIs (.ref T) "tuple" := ⟨_, hT, rfl⟩
 refine zB (wpAny_specialOf hTT PySem.F.slot_tuple_iter.lookup (zP ⟨rfl, ?_⟩))
 refine wpAny_collect_seq T (.inr rfl) hT rfl rfl (fun h' hk => ?_) (by have : sizeLine = 16777216 := rfl; simp; exact om222 hz)
 refine ⟨⟨hk _ _ hb, K.keeps hk⟩, ?_⟩
 refine wpAny_call (ks_codeAny_call_bound (hk _ _ hb) ?_)
 exact hq h' hk
end
open PySem.Sre (M)
noncomputable def pat1 : Array Nat := #[14, 4, 0, 1, 4294967295, 17, 0, 7, 14, 24, 10, 1, 4294967295, 13, 5, 22, 48, 57, 0, 1, 15, 17, 15, 13, 11, 9, 0, 26624, 2147483648, 0, 0, 0, 0, 0, 0, 15, 2, 0, 17, 1, 1]
noncomputable def pat2 : Array Nat := #[14, 4, 0, 1, 4294967295, 17, 0, 24, 11, 1, 4294967295, 13, 6, 16, 32, 16, 9, 0, 1, 17, 1, 1]
@[reducible] noncomputable def mkM (C text : Array Nat) (lim start pc pos handed : Nat) (om : Bool) (a b : Option Nat) (lm li : Int) (fr : List Sre.Frame) (wt : Nat) (ans : Option Bool) (seen : Sre.Seen) : M :=
 { code := C, text := text, lim := lim, start := start, lastStart := lim, pc := pc, pos := pos, handed := handed, outermost := om, marks := #[a, b], lastmark := lm, lastindex := li, frames := fr, weight := wt, answer := ans, seen := seen }
def Goes (m : M) (k : Nat) (P : M → Prop) : Prop := ∃ m', P m' ∧ ∀ n, M.runFor (k + n) m = M.runFor n m'
theorem Goes.zero {m : M} {P : M → Prop} (h : P m) : Goes m 0 P := ⟨m, h, fun n => by rw [Nat.zero_add]⟩
theorem Goes.step {m : M} {k : Nat} {P : M → Prop} (m' : M) (e : M.step m = m') (ho : m.outcome.isSome = false) (h : Goes m' k P) : Goes m (k + 1) P := by
 obtain ⟨m'', qz⟩ := h
 have hp := qz.1
 have hr := qz.2
 refine ⟨m'', hp, fun n => ?_⟩
 have : k + 1 + n = (k + n) + 1 := by exact om152
 rw [this, M.runFor, ho, zG zF, e]
 exact hr n
theorem Goes.trans {m : M} {k j : Nat} {P R : M → Prop} (h : Goes m k P) (h2 : ∀ m', P m' → Goes m' j R) : Goes m (k + j) R := by
 obtain ⟨m', qz⟩ := h
 have hp := qz.1
 have hr := qz.2
 obtain ⟨m'', qz⟩ := h2 m' hp
 have hp2 := qz.1
 have hr2 := qz.2
 exact ⟨m'', hp2, fun n => by rw [Nat.add_assoc, hr, hr2]⟩
@[reducible] noncomputable def zah (s : Nat) (first : Bool) : Sre.Frame := { wait := .nextStart, pc := 5, pos := s, outermost := first }
@[reducible] noncomputable def zaj (alt s : Nat) (first : Bool) : Sre.Frame := { wait := .nextBranch, pc := alt, pos := s, outermost := first, kept := { lastmark := 0, lastindex := -1 } }
@[reducible] noncomputable def zkc (pc p : Nat) (first : Bool) (n : Nat) : Sre.Frame := { wait := .giveBack, pc := pc, pos := p, outermost := first, count := n, kept := { lastmark := 0, lastindex := -1 } }
@[reducible] noncomputable def atS (C text : Array Nat) (lim s : Nat) (first : Bool) (a b : Option Nat) (seen : Sre.Seen) : M := mkM C text lim s 5 s s first a b (-1) (-1) [zah s first] 1 none seen
section
variable {text : Array Nat} {lim s : Nat} {first : Bool} {a b : Option Nat} {seen : Sre.Seen}
theorem zir : M.step (atS pat1 text lim s first a b seen) = mkM pat1 text lim s 7 s s first (some s) b 0 (-1) [zah s first] 1 none (seen.add 17) := by rfl
theorem zek : M.step (mkM pat1 text lim s 7 s s first (some s) b 0 (-1) [zah s first] 1 none seen) = mkM pat1 text lim s 9 s s first (some s) b 0 (-1) [zaj 8 s first, zah s first] 2 none (seen.add 7) := by rfl
noncomputable def figB (c : Nat) : Bool := 48 ≤ c && c ≤ 57
noncomputable def sepB (c : Nat) : Bool := c == 43 || c == 45 || c == 46 || c == 95
noncomputable def spcB (c : Nat) : Bool := c == 32 || c == 9
theorem acc_fig (c : Nat) (seen : Sre.Seen) : ∃ seen', Sre.accepts pat1 13 c seen = .ok (figB c, seen') := by
 have e : Sre.accepts pat1 13 c seen = (if (48 ≤ c && c ≤ 57) = true then .ok (true, seen.add 22) else .ok (false, (seen.add 22).add 0)) := by rfl
 refine e ▸ ?_
 unfold figB
 by_cases h : (decide (48 ≤ c) && decide (c ≤ 57)) = true
 ·rw [zH h, h]; exact ⟨_, rfl⟩
 ·rw [zG h]
  have : (decide (48 ≤ c) && decide (c ≤ 57)) = false := by simpa using h
  exact this ▸ ⟨_, rfl⟩
theorem acc_spc (c : Nat) (seen : Sre.Seen) : ∃ seen', Sre.accepts pat2 11 c seen = .ok (spcB c, seen') := by
 have e : Sre.accepts pat2 11 c seen = (if (c == 32) = true then .ok (true, seen.add 16) else if (c == 9) = true then .ok (true, (seen.add 16).add 16) else .ok (false, ((seen.add 16).add 16).add 0)) := by rfl
 refine e ▸ ?_
 unfold spcB
 by_cases h : (c == 32) = true
 ·rw [zH h, h]; exact ⟨_, rfl⟩
 ·rw [zG h]
  have h' : (c == 32) = false := by simpa using h
  rw [h']
  by_cases h2 : (c == 9) = true
  ·rw [zH h2, h2]; exact ⟨_, rfl⟩
  ·rw [zG h2]
   have h2' : (c == 9) = false := by simpa using h2
   rw [h2']; exact ⟨_, rfl⟩
theorem sep_bits : ∀ c : Nat, c < 128 → (decide (c < 256) && (pat1.getD (25 + (1 + c / 32)) 0).testBit (c % 32)) = sepB c := by decide +kernel
theorem zni {c : Nat} (hc : c < 128) (seen : Sre.Seen) : ∃ seen', Sre.accepts pat1 23 c seen = .ok (sepB c, seen') := by
 have e : Sre.accepts pat1 23 c seen = (if (decide (c < 256) && (pat1.getD (25 + (1 + c / 32)) 0).testBit (c % 32)) = true then .ok (true, seen.add 9) else .ok (false, (seen.add 9).add 0)) := by rfl
 rw [e, sep_bits c hc]
 by_cases h : sepB c = true
 ·rw [zH h, h]; exact ⟨_, rfl⟩
 ·rw [zG h]
  have h' : sepB c = false := by simpa using h
  rw [h']; exact ⟨_, rfl⟩
noncomputable def runLen (P : Nat → Bool) (text : Array Nat) : Nat → Nat → Nat
 | 0, _ => 0
 | n + 1, p => if P (text.getD p 0) then runLen P text n (p + 1) + 1 else 0
theorem zk6 {C : Array Nat} {i : Nat} {P : Nat → Bool} (ha : ∀ c seen, ∃ seen', Sre.accepts C i c seen = .ok (P c, seen')) (text : Array Nat) : ∀ n p found seen, ∃ seen', Sre.run C text i n p found seen = .ok (found + runLen P text n p, seen')
 | 0, p, found, seen => ⟨seen, rfl⟩
 | n + 1, p, found, seen => by
  obtain ⟨s1, e1⟩ := ha (text.getD p 0) seen
  unfold Sre.run runLen
  rw [e1]
  by_cases h : P (text.getD p 0) = true
  ·obtain ⟨s2, e2⟩ := zk6 ha text n (p + 1) (found + 1) s1
   refine ⟨s2, ?_⟩
   show (if P (text.getD p 0) = true then Sre.run C text i n (p + 1) (found + 1) s1 else pure (found, s1)) = _
   rw [zH h, zH h, e2]
   congr 2; exact om107
  ·refine ⟨s1, ?_⟩
   show (if P (text.getD p 0) = true then Sre.run C text i n (p + 1) (found + 1) s1 else pure (found, s1)) = _
   rw [zG h, zG h]; rfl
theorem zd4 (P : Nat → Bool) (text : Array Nat) : ∀ n p, runLen P text n p ≤ n
 | 0, _ => Ze _
 | n + 1, p => by
  unfold runLen
  split
  ·have := zd4 P text n (p + 1); exact om153 this
  ·exact om154
theorem zki (h : lim ≤ s) : M.step (mkM pat1 text lim s 9 s s first (some s) b 0 (-1) [zaj 8 s first, zah s first] 2 none seen) = mkM pat1 text lim s 9 s s first (some s) b 0 (-1) [zaj 8 s first, zah s first] 2 (some false) (seen.add 24) := by
 have e : M.step (mkM pat1 text lim s 9 s s first (some s) b 0 (-1) [zaj 8 s first, zah s first] 2 none seen) = (mkM pat1 text lim s 9 s s first (some s) b 0 (-1) [zaj 8 s first, zah s first] 2 none seen).exec := by rfl
 show (if ((1 : Nat) : Int) > (lim : Int) - (s : Int) then _ else _) = _
 rw [zH (by exact om155 h)]
 rfl
theorem c1_rep (h : s < lim) (hb : lim ≤ 100000) : ∃ seen', M.step (mkM pat1 text lim s 9 s s first (some s) b 0 (-1) [zaj 8 s first, zah s first] 2 none seen) =
  if runLen figB text (lim - s) s < 1 then mkM pat1 text lim s 9 s s first (some s) b 0 (-1) [zaj 8 s first, zah s first] 2 (some false) seen'
  else mkM pat1 text lim s 20 (s + runLen figB text (lim - s) s) (s + runLen figB text (lim - s) s) first (some s) b 0 (-1) [zkc 9 (s + runLen figB text (lim - s) s) first (runLen figB text (lim - s) s), zaj 8 s first, zah s first] 3 none seen' := by
 have e : M.step (mkM pat1 text lim s 9 s s first (some s) b 0 (-1) [zaj 8 s first, zah s first] 2 none seen) =
  (if ((1 : Nat) : Int) > (lim : Int) - (s : Int) then (mkM pat1 text lim s 9 s s first (some s) b 0 (-1) [zaj 8 s first, zah s first] 2 none (seen.add 24)).say false else
  match Sre.run pat1 text 13 (min 4294967295 ((lim : Int) - (s : Int)).toNat) s 0 ((seen.add 24).add 13) with
  | .error why => (mkM pat1 text lim s 9 s s first (some s) b 0 (-1) [zaj 8 s first, zah s first] 2 none (seen.add 24)).stick why
  | .ok (n, seen) => if n < 1 then (mkM pat1 text lim s 9 s s first (some s) b 0 (-1) [zaj 8 s first, zah s first] 2 none seen).say false
   else (mkM pat1 text lim s 9 (s + n) s first (some s) b 0 (-1) [zaj 8 s first, zah s first] 2 none seen).afterRun .giveBack n ((mkM pat1 text lim s 9 (s + n) s first (some s) b 0 (-1) [zaj 8 s first, zah s first] 2 none seen).keep false)) := by rfl
 refine e ▸ ?_
 refine (zG (by exact om156 h)) ▸ ?_
 have em : min 4294967295 ((lim : Int) - (s : Int)).toNat = lim - s := by exact om157 hb
 rw [em]
 obtain ⟨s2, e2⟩ := zk6 acc_fig text (lim - s) s 0 ((seen.add 24).add 13)
 rw [e2, Nat.zero_add]
 refine ⟨s2, ?_⟩
 generalize runLen figB text (lim - s) s = n
 by_cases hn : n < 1
 ·rw [zH hn]
  show (if n < 1 then _ else _) = _
  rw [zH hn]; rfl
 ·rw [zG hn]
  show (if n < 1 then _ else _) = _
  rw [zG hn]; rfl
def zhy (s e : Nat) (m : M) : Prop := m.outcome = some .matched ∧ m.start = s ∧ m.handed = e ∧ m.lastmark = 1 ∧ m.marks = #[some s, some e]
theorem zj2 {m : M} {f : Sre.Frame} (h : f.wait = .giveBack ∨ f.wait = .nextBranch ∨ f.wait = .nextStart) : M.resume m f true = m.say true := by
 unfold M.resume
 rcases h with h | h | h <;> rw [h] <;> rfl
theorem zkq {s e : Nat} : ∀ (fr : List Sre.Frame) (m : M), (∀ f ∈ fr, f.wait = .giveBack ∨ f.wait = .nextBranch ∨ f.wait = .nextStart) → m.frames = fr → m.answer = some true → m.outcome = none → m.start = s → m.handed = e → m.lastmark = 1 → m.marks = #[some s, some e] → Goes m (fr.length + 1) (zhy s e)
 | [], m, _, h1, h2, h3, h4, h5, h6, h7 => by
  refine Goes.step { m with outcome := some .matched } ?_ (by rw [h3]; rfl) (.zero ⟨rfl, h4, h5, h6, h7⟩)
  unfold M.step
  rw [h3, h2, h1]; rfl
 | f :: r, m, hw, h1, h2, h3, h4, h5, h6, h7 => by
  refine Goes.step (k := r.length + 1) (({ m with answer := none, frames := r, weight := m.weight - (1 + f.kept.marks.size), pc := f.pc, pos := f.pos, outermost := f.outermost } : M).say true) ?_ (by rw [h3]; rfl) ?_
  ·unfold M.step
   rw [h3, h2, h1]
   exact zj2 (hw f (.head _))
  ·exact zkq r _ (fun f' hf => hw f' (.tail _ hf)) rfl rfl h3 h4 h5 h6 h7
theorem zna {e hd : Nat} {fr : List Sre.Frame} {wt : Nat} {pc : Nat} (hpc : pc = 20 ∨ pc = 35) (hfr : ∀ f ∈ fr, f.wait = .giveBack ∨ f.wait = .nextBranch ∨ f.wait = .nextStart) :
  Goes (mkM pat1 text lim s pc e hd first (some s) b 0 (-1) fr wt none seen) (fr.length + 4) (zhy s e) := by
 refine Goes.step (mkM pat1 text lim s 38 e hd first (some s) b 0 (-1) fr wt none (seen.add 15)) (by rcases hpc with rfl | rfl <;> rfl) rfl ?_
 refine Goes.step (mkM pat1 text lim s 40 e hd first (some s) (some e) 1 ((1 / 2 + 1 : Nat) : Int) fr wt none ((seen.add 15).add 17)) (by rfl) rfl ?_
 refine Goes.step (mkM pat1 text lim s 40 e e first (some s) (some e) 1 ((1 / 2 + 1 : Nat) : Int) fr wt (some true) (((seen.add 15).add 17).add 1)) (by cases first <;> rfl) rfl ?_
 exact zkq fr _ hfr rfl rfl rfl rfl rfl rfl rfl
theorem c1_figs (h : s < lim) (hb : lim ≤ 100000) (hn : 1 ≤ runLen figB text (lim - s) s) : Goes (atS pat1 text lim s first a b seen) 10 (zhy s (s + runLen figB text (lim - s) s)) := by
 obtain ⟨s3, e3⟩ := c1_rep (text := text) (first := first) (b := b) (seen := (seen.add 17).add 7) h hb
 rw [zG (by exact om158 hn)] at e3
 refine Goes.step _ zir rfl (Goes.step _ zek rfl (Goes.step _ e3 rfl ?_))
 refine zna (fr := [zkc 9 _ first _, zaj 8 s first, zah s first]) (.inl rfl) ?_
 intro f hf
 simp only [List.mem_cons, List.not_mem_nil, or_false] at hf
 rcases hf with rfl | rfl | rfl
 ·exact .inl rfl
 ·exact .inr (.inl rfl)
 ·exact .inr (.inr rfl)
theorem zcv (hb : lim ≤ 100000) (hn : s < lim → runLen figB text (lim - s) s = 0) : ∃ seen', Goes (atS pat1 text lim s first a b seen) 4 (fun m => m = mkM pat1 text lim s 23 s s first (some s) b 0 (-1) [zaj 22 s first, zah s first] 2 none seen') := by
 by_cases h : s < lim
 ·obtain ⟨s3, e3⟩ := c1_rep (text := text) (first := first) (b := b) (seen := (seen.add 17).add 7) h hb
  rw [zH (by rw [hn h]; decide)] at e3
  exact ⟨s3, Goes.step _ zir rfl (Goes.step _ zek rfl (Goes.step _ e3 rfl (Goes.step _ rfl rfl (.zero rfl))))⟩
 ·exact ⟨_, Goes.step _ zir rfl (Goes.step _ zek rfl (Goes.step _ (zki (by exact om159 h)) rfl (Goes.step _ rfl rfl (.zero rfl))))⟩
theorem step23 (h : s < lim) : M.step (mkM pat1 text lim s 23 s s first (some s) b 0 (-1) [zaj 22 s first, zah s first] 2 none seen) =
  (match Sre.accepts pat1 23 (text.getD s 0) (seen.add 13) with
   | .error why => (mkM pat1 text lim s 23 s s first (some s) b 0 (-1) [zaj 22 s first, zah s first] 2 none (seen.add 13)).stick why
   | .ok (false, seen) => mkM pat1 text lim s 23 s s first (some s) b 0 (-1) [zaj 22 s first, zah s first] 2 (some false) seen
   | .ok (true, seen) => mkM pat1 text lim s 35 (s + 1) s first (some s) b 0 (-1) [zaj 22 s first, zah s first] 2 none seen) := by
 have e : M.step (mkM pat1 text lim s 23 s s first (some s) b 0 (-1) [zaj 22 s first, zah s first] 2 none seen) =
  (if s ≥ lim then (mkM pat1 text lim s 23 s s first (some s) b 0 (-1) [zaj 22 s first, zah s first] 2 none (seen.add 13)).say false else
   match Sre.accepts pat1 23 (text.getD s 0) (seen.add 13) with
   | .error why => (mkM pat1 text lim s 23 s s first (some s) b 0 (-1) [zaj 22 s first, zah s first] 2 none (seen.add 13)).stick why
   | .ok (false, seen) => mkM pat1 text lim s 23 s s first (some s) b 0 (-1) [zaj 22 s first, zah s first] 2 (some false) seen
   | .ok (true, seen) => mkM pat1 text lim s 35 (s + 1) s first (some s) b 0 (-1) [zaj 22 s first, zah s first] 2 none seen) := by rfl
 rw [e, zG (by exact om160 h)]
theorem step23e (h : lim ≤ s) : M.step (mkM pat1 text lim s 23 s s first (some s) b 0 (-1) [zaj 22 s first, zah s first] 2 none seen) =
  mkM pat1 text lim s 23 s s first (some s) b 0 (-1) [zaj 22 s first, zah s first] 2 (some false) (seen.add 13) := by
 have e : M.step (mkM pat1 text lim s 23 s s first (some s) b 0 (-1) [zaj 22 s first, zah s first] 2 none seen) =
  (if s ≥ lim then mkM pat1 text lim s 23 s s first (some s) b 0 (-1) [zaj 22 s first, zah s first] 2 (some false) (seen.add 13) else
   match Sre.accepts pat1 23 (text.getD s 0) (seen.add 13) with
   | .error why => (mkM pat1 text lim s 23 s s first (some s) b 0 (-1) [zaj 22 s first, zah s first] 2 none (seen.add 13)).stick why
   | .ok (false, seen) => mkM pat1 text lim s 23 s s first (some s) b 0 (-1) [zaj 22 s first, zah s first] 2 (some false) seen
   | .ok (true, seen) => mkM pat1 text lim s 35 (s + 1) s first (some s) b 0 (-1) [zaj 22 s first, zah s first] 2 none seen) := by rfl
 rw [e, zH h]
theorem stepNo : M.step (mkM pat1 text lim s 23 s s first (some s) b 0 (-1) [zaj 22 s first, zah s first] 2 (some false) seen) = mkM pat1 text lim s 22 s s first (some s) b 0 (-1) [zah s first] 1 (some false) seen := by rfl
theorem zi4 {pc lm li} {C : Array Nat} (hC : M.hasFirstSet (mkM C text lim s 5 s s first (some s) b lm li [] 0 none seen) = false) (h : s < lim) : M.step (mkM C text lim s pc s s first (some s) b lm li [zah s first] 1 (some false) seen) = atS C text lim (s + 1) false (some s) b seen := by
 have e : M.step (mkM C text lim s pc s s first (some s) b lm li [zah s first] 1 (some false) seen) = (if s < lim then (mkM C text lim s 5 s s first (some s) b lm li [] 0 none seen).attemptFrom (s + 1) false else (mkM C text lim s 5 s s first (some s) b lm li [] 0 none seen).say false) := by rfl
 rw [e, zH h]
 unfold M.attemptFrom
 rw [hC]
 rfl
theorem zi5 {pc lm li} {C : Array Nat} (h : lim ≤ s) : M.step (mkM C text lim s pc s s first (some s) b lm li [zah s first] 1 (some false) seen) = mkM C text lim s 5 s s first (some s) b lm li [] 0 (some false) seen := by
 have e : M.step (mkM C text lim s pc s s first (some s) b lm li [zah s first] 1 (some false) seen) = (if s < lim then (mkM C text lim s 5 s s first (some s) b lm li [] 0 none seen).attemptFrom (s + 1) false else (mkM C text lim s 5 s s first (some s) b lm li [] 0 none seen).say false) := by rfl
 rw [e, zG (by exact om161 h)]; rfl
theorem c1_sep (h : s < lim) (hb : lim ≤ 100000) (hc : text.getD s 0 < 128) (hn : runLen figB text (lim - s) s = 0) (hs : sepB (text.getD s 0) = true) : Goes (atS pat1 text lim s first a b seen) 11 (zhy s (s + 1)) := by
 obtain ⟨s4, g4⟩ := zcv (text := text) (s := s) (first := first) (a := a) (b := b) (seen := seen) hb (fun y => hn)
 refine Goes.trans (j := 7) g4 fun m hm => ?_
 subst hm
 obtain ⟨s5, e5⟩ := zni hc (s4.add 13)
 have e := step23 (text := text) (first := first) (b := b) (seen := s4) h
 rw [e5, hs] at e
 refine Goes.step _ e rfl ?_
 refine zna (fr := [zaj 22 s first, zah s first]) (.inr rfl) ?_
 intro f hf
 simp only [List.mem_cons, List.not_mem_nil, or_false] at hf
 rcases hf with rfl | rfl
 ·exact .inr (.inl rfl)
 ·exact .inr (.inr rfl)
theorem c1_next (h : s < lim) (hb : lim ≤ 100000) (hc : text.getD s 0 < 128) (hn : runLen figB text (lim - s) s = 0) (hs : sepB (text.getD s 0) = false) : Goes (atS pat1 text lim s first a b seen) 7 (fun m => ∃ seen', m = atS pat1 text lim (s + 1) false (some s) b seen') := by
 obtain ⟨s4, g4⟩ := zcv (text := text) (s := s) (first := first) (a := a) (b := b) (seen := seen) hb (fun y => hn)
 refine Goes.trans (j := 3) g4 fun m hm => ?_
 subst hm
 obtain ⟨s5, e5⟩ := zni hc (s4.add 13)
 have e := step23 (text := text) (first := first) (b := b) (seen := s4) h
 rw [e5, hs] at e
 exact Goes.step _ e rfl (Goes.step _ stepNo rfl (Goes.step _ (zi4 rfl h) rfl (.zero ⟨_, rfl⟩)))
theorem c1_over (h : lim ≤ s) (hb : lim ≤ 100000) : Goes (atS pat1 text lim s first a b seen) 8 (fun m => m.outcome = some .failed) := by
 obtain ⟨s4, g4⟩ := zcv (text := text) (s := s) (first := first) (a := a) (b := b) (seen := seen) hb (fun z => by omega)
 refine Goes.trans (j := 4) g4 fun m hm => ?_
 subst hm
 exact Goes.step _ (step23e h) rfl (Goes.step _ stepNo rfl (Goes.step _ (zi5 h) rfl (Goes.step _ rfl rfl (.zero rfl))))
theorem ziq : M.step (atS pat2 text lim s first a b seen) = mkM pat2 text lim s 7 s s first (some s) b 0 (-1) [zah s first] 1 none (seen.add 17) := by rfl
theorem zjt : M.step (mkM pat2 text lim s 7 s s first (some s) b 0 (-1) [zah s first] 1 none seen) =
  (if ((1 : Nat) : Int) > (lim : Int) - (s : Int) then (mkM pat2 text lim s 7 s s first (some s) b 0 (-1) [zah s first] 1 none (seen.add 24)).say false else
  match Sre.run pat2 text 11 (min 4294967295 ((lim : Int) - (s : Int)).toNat) s 0 ((seen.add 24).add 13) with
  | .error why => (mkM pat2 text lim s 7 s s first (some s) b 0 (-1) [zah s first] 1 none (seen.add 24)).stick why
  | .ok (n, seen) => if n < 1 then (mkM pat2 text lim s 7 s s first (some s) b 0 (-1) [zah s first] 1 none seen).say false
   else (mkM pat2 text lim s 7 (s + n) s first (some s) b 0 (-1) [zah s first] 1 none seen).afterRun .giveBack n ((mkM pat2 text lim s 7 (s + n) s first (some s) b 0 (-1) [zah s first] 1 none seen).keep false)) := by rfl
theorem c2_rep (h : s < lim) (hb : lim ≤ 100000) : ∃ seen', M.step (mkM pat2 text lim s 7 s s first (some s) b 0 (-1) [zah s first] 1 none seen) =
  if runLen spcB text (lim - s) s < 1 then mkM pat2 text lim s 7 s s first (some s) b 0 (-1) [zah s first] 1 (some false) seen'
  else mkM pat2 text lim s 19 (s + runLen spcB text (lim - s) s) (s + runLen spcB text (lim - s) s) first (some s) b 0 (-1) [zkc 7 (s + runLen spcB text (lim - s) s) first (runLen spcB text (lim - s) s), zah s first] 2 none seen' := by
 rw [zjt, zG (by exact om156 h)]
 have em : min 4294967295 ((lim : Int) - (s : Int)).toNat = lim - s := by exact om157 hb
 rw [em]
 obtain ⟨s2, e2⟩ := zk6 acc_spc text (lim - s) s 0 ((seen.add 24).add 13)
 rw [e2, Nat.zero_add]
 refine ⟨s2, ?_⟩
 generalize runLen spcB text (lim - s) s = n
 by_cases hn : n < 1
 ·rw [zH hn]
  show (if n < 1 then _ else _) = _
  rw [zH hn]; rfl
 ·rw [zG hn]
  show (if n < 1 then _ else _) = _
  rw [zG hn]; rfl
theorem c2_some (h : s < lim) (hb : lim ≤ 100000) (hn : 1 ≤ runLen spcB text (lim - s) s) : Goes (atS pat2 text lim s first a b seen) 7 (zhy s (s + runLen spcB text (lim - s) s)) := by
 obtain ⟨s3, e3⟩ := c2_rep (text := text) (first := first) (b := b) (seen := seen.add 17) h hb
 rw [zG (by exact om158 hn)] at e3
 refine Goes.step _ ziq rfl (Goes.step _ e3 rfl ?_)
 generalize runLen spcB text (lim - s) s = n
 refine Goes.step (mkM pat2 text lim s 21 (s + n) (s + n) first (some s) (some (s + n)) 1 ((1 / 2 + 1 : Nat) : Int) [zkc 7 (s + n) first n, zah s first] 2 none (s3.add 17)) rfl rfl ?_
 refine Goes.step (mkM pat2 text lim s 21 (s + n) (s + n) first (some s) (some (s + n)) 1 ((1 / 2 + 1 : Nat) : Int) [zkc 7 (s + n) first n, zah s first] 2 (some true) ((s3.add 17).add 1)) (by cases first <;> rfl) rfl ?_
 refine zkq [zkc 7 (s + n) first n, zah s first] _ ?_ rfl rfl rfl rfl rfl rfl rfl
 intro f hf
 simp only [List.mem_cons, List.not_mem_nil, or_false] at hf
 rcases hf with rfl | rfl
 ·exact .inl rfl
 ·exact .inr (.inr rfl)
theorem c2_next (h : s < lim) (hb : lim ≤ 100000) (hn : runLen spcB text (lim - s) s = 0) : Goes (atS pat2 text lim s first a b seen) 3 (fun m => ∃ seen', m = atS pat2 text lim (s + 1) false (some s) b seen') := by
 obtain ⟨s3, e3⟩ := c2_rep (text := text) (first := first) (b := b) (seen := seen.add 17) h hb
 rw [zH (by exact om163 hn)] at e3
 exact Goes.step _ ziq rfl (Goes.step _ e3 rfl (Goes.step _ (zi4 rfl h) rfl (.zero ⟨_, rfl⟩)))
theorem c2_over (h : lim ≤ s) : Goes (atS pat2 text lim s first a b seen) 4 (fun m => m.outcome = some .failed) := by
 refine Goes.step _ ziq rfl (Goes.step (mkM pat2 text lim s 7 s s first (some s) b 0 (-1) [zah s first] 1 (some false) ((seen.add 17).add 24)) ?_ rfl (Goes.step _ (zi5 h) rfl (Goes.step _ rfl rfl (.zero rfl))))
 rw [zjt, zH (by exact om155 h)]; rfl
end
noncomputable def end1 (text : Array Nat) (s : Nat) : Option Nat := if 1 ≤ runLen figB text (text.size - s) s then some (s + runLen figB text (text.size - s) s) else if sepB (text.getD s 0) then some (s + 1) else none
noncomputable def end2 (text : Array Nat) (s : Nat) : Option Nat := if 1 ≤ runLen spcB text (text.size - s) s then some (s + runLen spcB text (text.size - s) s) else none
noncomputable def seek (R : Nat → Option Nat) : Nat → Nat → Option (Nat × Nat)
 | 0, _ => none
 | n + 1, s => match R s with | some e => some (s, e) | none => seek R n (s + 1)
def Ends (r : Option (Nat × Nat)) (m : M) : Prop := match r with | some (s, e) => zhy s e m | none => m.outcome = some .failed
theorem zk4 {text : Array Nat} (hb : text.size ≤ 100000) (hc : ∀ s, text.getD s 0 < 128) : ∀ n s first a b seen, text.size - s = n → ∃ k, k ≤ 11 * (n + 1) ∧ Goes (atS pat1 text text.size s first a b seen) k (Ends (seek (end1 text) n s))
 | 0, s, first, a, b, seen, h => ⟨8, by exact om164, c1_over (by exact om165 h) hb⟩
 | n + 1, s, first, a, b, seen, h => by
  have hs : s < text.size := by exact om166 h
  unfold seek end1
  by_cases h1 : 1 ≤ runLen figB text (text.size - s) s
  ·rw [zH h1]
   exact ⟨10, by exact om167, c1_figs hs hb h1⟩
  ·rw [zG h1]
   by_cases h2 : sepB (text.getD s 0) = true
   ·rw [zH h2]
    exact ⟨11, by exact om168, c1_sep hs hb (hc s) (by exact om169 h1) h2⟩
   ·rw [zG h2]
    obtain ⟨m', ⟨seen', rfl⟩, hr⟩ := c1_next (text := text) (s := s) (first := first) (a := a) (b := b) (seen := seen) hs hb (hc s) (by exact om169 h1) (by simpa using h2)
    obtain ⟨k, qz⟩ := zk4 hb hc n (s + 1) false (some s) b seen' (by exact om170 h)
    have hk := qz.1
    have g := qz.2
    refine ⟨7 + k, by exact om171 hk, Goes.trans ⟨_, rfl, hr⟩ fun m hm => ?_⟩
    subst hm; exact g
theorem zk3 {text : Array Nat} (hb : text.size ≤ 100000) : ∀ n s first a b seen, text.size - s = n → ∃ k, k ≤ 11 * (n + 1) ∧ Goes (atS pat2 text text.size s first a b seen) k (Ends (seek (end2 text) n s))
 | 0, s, first, a, b, seen, h => ⟨4, by exact om172, c2_over (by exact om165 h)⟩
 | n + 1, s, first, a, b, seen, h => by
  have hs : s < text.size := by exact om166 h
  unfold seek end2
  by_cases h1 : 1 ≤ runLen spcB text (text.size - s) s
  ·rw [zH h1]
   exact ⟨7, by exact om173, c2_some hs hb h1⟩
  ·rw [zG h1]
   obtain ⟨m', ⟨seen', rfl⟩, hr⟩ := c2_next (text := text) (s := s) (first := first) (a := a) (b := b) (seen := seen) hs hb (by exact om169 h1)
   obtain ⟨k, qz⟩ := zk3 hb n (s + 1) false (some s) b seen' (by exact om170 h)
   have hk := qz.1
   have g := qz.2
   refine ⟨3 + k, by exact om174 hk, Goes.trans ⟨_, rfl, hr⟩ fun m hm => ?_⟩
   subst hm; exact g
theorem forS {C : Array Nat} {text : Array Nat} {p : Nat} (hC : C = pat1 ∨ C = pat2) (h : p < text.size) : Sre.forSearch C text 1 p text.size false = atS C text text.size p true none none (({} : Sre.Seen).add 14) := by
 have hd : (decide (p > text.size) || decide (text.size - p < 1)) = false := by simp; exact om175 h
 rcases hC with rfl | rfl
 ·show (if (decide (p > text.size) || decide (text.size - p < 1)) = true then _ else _) = _
  rw [hd, zG zF]; rfl
 ·show (if (decide (p > text.size) || decide (text.size - p < 1)) = true then _ else _) = _
  rw [hd, zG zF]; rfl
theorem forE {C : Array Nat} {text : Array Nat} {p : Nat} (hC : C = pat1 ∨ C = pat2) (h : text.size ≤ p) : Goes (Sre.forSearch C text 1 p text.size false) 1 (fun m => m.outcome = some .failed) := by
 have hd : (decide (p > text.size) || decide (text.size - p < 1)) = true := by simp; exact om176 h
 rcases hC with rfl | rfl
 ·show Goes (if (decide (p > text.size) || decide (text.size - p < 1)) = true then _ else _) _ _
  rw [hd, zH rfl]
  exact Goes.step _ rfl rfl (.zero rfl)
 ·show Goes (if (decide (p > text.size) || decide (text.size - p < 1)) = true then _ else _) _ _
  rw [hd, zH rfl]
  exact Goes.step _ rfl rfl (.zero rfl)
def ziy (C text : Array Nat) (R : Nat → Option Nat) : Prop := ∀ p, ∃ k, k ≤ 2 ^ 60 ∧ Goes (Sre.forSearch C text 1 p text.size false) k (Ends (seek R (text.size - p) p))
theorem finds1 {text : Array Nat} (hb : text.size ≤ 100000) (hc : ∀ s, text.getD s 0 < 128) : ziy pat1 text (end1 text) := fun p => by
 by_cases h : p < text.size
 ·obtain ⟨k, hk, g⟩ := zk4 hb hc _ p true none none (({} : Sre.Seen).add 14) rfl
  exact ⟨k, by exact om177 hb hk, by rw [forS (.inl rfl) h]; exact g⟩
 ·have e : text.size - p = 0 := by exact om178 h
  refine e ▸ ?_
  exact ⟨1, by decide, forE (.inl rfl) (by exact om159 h)⟩
theorem finds2 {text : Array Nat} (hb : text.size ≤ 100000) : ziy pat2 text (end2 text) := fun p => by
 by_cases h : p < text.size
 ·obtain ⟨k, hk, g⟩ := zk3 hb _ p true none none (({} : Sre.Seen).add 14) rfl
  exact ⟨k, by exact om177 hb hk, by rw [forS (.inr rfl) h]; exact g⟩
 ·have e : text.size - p = 0 := by exact om178 h
  refine e ▸ ?_
  exact ⟨1, by decide, forE (.inr rfl) (by exact om159 h)⟩
theorem zct {m : M} (h : m.outcome.isSome = true) : ∀ n, M.runFor n m = m
 | 0 => rfl
 | n + 1 => by rw [M.runFor, h, zH rfl]
theorem zey : ∀ (k n : Nat) (m : M), M.runFor (k + n) m = M.runFor n (M.runFor k m)
 | 0, n, m => by rw [Nat.zero_add]; rfl
 | k + 1, n, m => by
  have e : k + 1 + n = (k + n) + 1 := by exact om152
  rw [e, M.runFor, M.runFor]
  by_cases h : m.outcome.isSome = true
  ·rw [zH h, zH h, zct h]
  ·rw [zG h, zG h, zey k n]
section
variable {M' : Model}
theorem drive {Q : M → SP} : ∀ (t : Nat) (m : M), (M.runFor (4 * t) m).outcome.isSome = true → 1 ≤ t → Q (M.runFor (4 * t) m) s → wpAny M' A (Builtin.Re.reDrive t m) Q E s
 | 0, _, _, h, _ => by omega
 | t + 1, m, ho, _, hq => by
  have e : 4 * (t + 1) = 4 + 4 * t := by exact om179
  rw [e, zey] at ho hq
  show wpAny M' A (if (M.runFor 4 m).outcome.isSome = true then pure (M.runFor 4 m) else _) Q E s
  by_cases h : (M.runFor 4 m).outcome.isSome = true
  ·rw [zH h]
   rw [zct h] at hq
   exact zP hq
  ·rw [zG h]
   have ht : 1 ≤ t := by
    cases t with
    | zero => exact absurd ho h
    | succ t => exact om180
   exact zB (wpAny_rule (drive t _ ho ht hq))
theorem zfn {seen : Sre.Seen} {Q : PUnit → SP} : ∀ (l : List Nat), Q .unit s → wpAny M' A (forIn l PUnit.unit fun i j => if seen.has i = true then do rule (Sre.names.getD i ""); pure (ForInStep.yield PUnit.unit) else pure (ForInStep.yield PUnit.unit)) Q E s
 | [], hq => by rw [List.forIn_nil]; exact zP hq
 | i :: r, hq => by
  rw [List.forIn_cons]
  refine zB ?_
  by_cases h : seen.has i = true
  ·rw [zH h]
   exact zB (wpAny_rule (zP (zfn r hq)))
  ·rw [zG h]
   exact zP (zfn r hq)
set_option tactic.hygienic true in
theorem found_go {C text : Array Nat} {R : Nat → Option Nat} {p : Nat} (F : ziy C text R) {t : Builtin.Re.ReTarget} (h1 : t.code = C) (h2 : t.text = text) (h3 : t.groups = 1) (h4 : t.lim = text.size) {Q : Option M → SP}
  (hn : seek R (text.size - p) p = none → Q none s) (hf : ∀ b e m, seek R (text.size - p) p = some (b, e) → zhy b e m → Q (some m) s) : wpAny M' A (Builtin.Re.reNextFound t p false) Q E s := by
 unfold Builtin.Re.reNextFound Builtin.Re.reRunToEnd
 rw [h1, h2, h3, h4]
 obtain ⟨k, hk, m', qz⟩ := F p
 have hm' := qz.1
 have hr := qz.2
 have ho : m'.outcome.isSome = true := by
  unfold Ends at hm'
  split at hm'
  ·rw [hm'.1]; rfl
  ·rw [hm']; rfl
 have e : M.runFor (4 * 2 ^ 64) (Sre.forSearch C text 1 p text.size false) = m' := by
  obtain ⟨n, hn⟩ : ∃ n, 4 * 2 ^ 64 = k + n := ⟨4 * 2 ^ 64 - k, by exact om181 hk⟩
  rw [hn, hr, zct ho]
 refine zB (drive (2 ^ 64) _ (by rw [e]; exact ho) (by decide) ?_)
 refine e ▸ ?_
 refine zB (zfn _ ?_)
 unfold Ends at hm'
 split at hm'
 ·rename_i b e' hs
  rw [hm'.1]
  exact zP (hf b e' m' hs hm')
 ·rename_i hs
  refine hm' ▸ ?_
  exact zP (hn hs)
end
theorem zbk : Slot "map" "__next__" "map.__next__" :=
 .of (owner := "map") (n := "__next__") (by rw [typeLookup_type, builtinLookup_eq_fast]; kernel_rfl) (by decide +kernel) (by decide +kernel) (by decide +kernel)
  (by first | exact .inl (by decide +kernel) | exact .inr (by decide +kernel)) (by rw [isSubtype_type]; kernel_rfl)
theorem zc0 : Slot "map" "__iter__" "map.__iter__" :=
 .of (owner := "map") (n := "__iter__") (by rw [typeLookup_type, builtinLookup_eq_fast]; kernel_rfl) (by decide +kernel) (by decide +kernel) (by decide +kernel)
  (by first | exact .inl (by decide +kernel) | exact .inr (by decide +kernel)) (by rw [isSubtype_type]; kernel_rfl)
theorem zc1 : Slot "map" "__init__" "object.__init__" :=
 .of (owner := "object") (n := "__init__") (by rw [typeLookup_type, builtinLookup_eq_fast]; kernel_rfl) (by decide +kernel) (by decide +kernel) (by decide +kernel)
  (by first | exact .inl (by decide +kernel) | exact .inr (by decide +kernel)) (by rw [isSubtype_type]; kernel_rfl)
theorem zeu : entryFor table "map.__next__" = some Builtin.«map.__next__» := entryFor_of_tree (by kernel_rfl)
theorem zf8 : entryFor table "map.__new__" = some Builtin.«map.__new__» := entryFor_of_tree (by kernel_rfl)
theorem zev : entryFor table "map.__iter__" = some Builtin.«dict_keyiterator.__iter__» :=
 entryFor_alias (id' := "dict_keyiterator.__iter__") ((fastTable_eq_tree _).trans (by kernel_rfl)) (by first | rfl | decide +kernel) (by rw [Fast.canonicalQ_eq]; kernel_rfl) ((fastTable_eq_tree _).trans (by kernel_rfl))
theorem zl0 : mroOf (.type "map") = pure [.type "map", .type "object"] := by rw [mroOf_type]; kernel_rfl
theorem zes : typeLookup (.type "map") "__new__" = pure (some (.builtin "map.__new__")) := by rw [typeLookup_type, builtinLookup_eq_fast]; kernel_rfl
theorem zdm : TypeCalled "map" "map.__new__" "object.__init__" :=
 ⟨by decide +kernel, by decide +kernel, ⟨_, _, zl0⟩, madeBy_type zl0 zes (by decide +kernel), by decide +kernel, by rw [isSubtype_type]; kernel_rfl, zc1⟩
theorem zeo (a b : Value) : checkTypeCall "map" ⟨[a, b], []⟩ = pure () := by rw [Fast.te11612656972197000677]; kernel_rfl
theorem zfu (a b : Value) : checkBuiltinCall "map.__new__" ⟨[.type "map", a, b], []⟩ = pure () := by rw [Fast.te10254737850608025244]; kernel_rfl
theorem sub_map : isSubtype (.type "map") (.type "map") = pure true := by rw [isSubtype_type]; kernel_rfl
theorem zj9 : typeLookup (.type "map") (ofString "__len__") = pure none := by rw [typeLookup_type, builtinLookup_eq_fast]; kernel_rfl
theorem zic : typeLookup (.type "map") (ofString "__length_hint__") = pure none := by rw [typeLookup_type, builtinLookup_eq_fast]; kernel_rfl
theorem zg2 : Manifest.owners.lookup (String.ofList ['p', 'a', 'm'].reverse) = some Manifest.sig_map := by kernel_rfl
theorem zgh (a : Value) : argsOk "map.__next__" ⟨[a], []⟩ := by
 unfold argsOk; rw [signature?_of (id := "map.__next__") (n := ['_', '_', 't', 'x', 'e', 'n', '_', '_']) (o := ['p', 'a', 'm']) (by kernel_rfl) zg2]; kernel_rfl
theorem zgi (a : Value) : argsOk "map.__iter__" ⟨[a], []⟩ := by
 unfold argsOk; rw [signature?_of (id := "map.__iter__") (n := ['_', '_', 'r', 'e', 't', 'i', '_', '_']) (o := ['p', 'a', 'm']) (by kernel_rfl) zg2]; kernel_rfl
@[reducible] noncomputable def za8 (T : Nat) (f : Value) : Obj := { cls := .type "map", dict := none, data := .fields #[.ref T, f] }
section
theorem slotC {self : Value} {T : String} {name : Str} {id : String} {Q : Option Value → SP} {M : Model} (hT : s.TypeIs self T) (h : Slot T name id)
  (hc : wpC M A (call (.builtin id) [self]) (fun v => Q (some v)) E s) : wpC M A (callSpecial? self name) Q E s := by
 simp only [callSpecial?]
 refine zw (zy (wpAny_specialOf hT h.lookup ?_))
 simp only [h.bind]
 exact wpC.holding (zw (zy (zP (zw (hc.mono (fun v s' h' => zy (zP h')) fun j j h' => h')))))
theorem entryC {T : String} {name : Str} {id : String} {b : Builtin} {self : Value} {rest : List Value} (h : Slot T name id) (hT : s.TypeIs self T) (hb : entryFor table id = some b)
  (hc : wpC (Mo w) A.in1 (b ⟨self :: rest, []⟩) (fun fin s' => ∃ v, fin = .done (.ret v) ∧ Q v s') E s) (ha : argsOk id ⟨self :: rest, []⟩) :
  wpC (Mo w) A (call (.builtin id) (self :: rest)) Q E s := by
 refine wpC.call (codeC.tree ?_)
 show wpC _ A.in1 (do checkBuiltinCall id ⟨self :: rest, []⟩; again (.builtin id ⟨self :: rest, []⟩)) _ _ s
 refine zw (zy (h.check _ _ _ _ _ _ _ _ hT ha (zy (zP ⟨plainId_quiet h.plain _, codeC.builtin hb ?_⟩))))
 rw [Around.under_plainId h.plain _]
 refine hc.mono (fun fin s' q => ?_) fun j j z => z
 obtain ⟨v, rfl, q⟩ := q
 exact q
theorem zc6 {f it : Value} {M T : Nat} (hM : s.heap.get? M = some (za8 T f)) (hT : s.heap.get? T = some (zac [it]))
  (hn : wpC (Mo w) A.in1 (Builtin.SmallTypes.nextOf it) (fun v s₁ => s₁.heap.get? M = some (za8 T f) ∧ wpC (Mo w) A.in1 (call f [v]) Q E s₁) E s) : wpC (Mo w) A (call (.builtin "map.__next__") [.ref M]) Q E s := by
 refine entryC zbk ⟨_, hM, rfl⟩ zeu ?_ (zgh _)
 show wpC _ _ (field (.ref M) 0 >>= _) _ _ s
 refine zw (zy (wpAny_field hM rfl (x := .ref T) rfl ?_))
 refine zw (zy (wpAny_seqItems hT rfl ?_))
 dsimp only
 simp only [List.forIn_toArray, List.forIn_cons, List.forIn_nil]
 refine zw (zw (zw (wpC.holding (hn.mono (fun v s₁ q => ?_) fun j j z => z))))
 refine zy (zP (zy (zP (zw (zy (wpAny_field q.1 rfl (x := f) rfl ?_))))))
 refine zw (wpC.holding (q.2.mono (fun r s₂ q2 => ?_) fun j j z => z))
 exact zw (zy (wpAny_letGo (zy (zP ⟨_, rfl, q2⟩))))
end
section
theorem nx_list {it a i : Nat} {vs : List Value} {v : Value} {io : Obj} {s : Shared} (ho : s.heap.get? it = some io) (hi : IsIt a i io) (hl : s.heap.IsList a vs.toArray) (hv : vs[i]? = some v)
  (hq : ∀ h' io', h'.get? it = some io' → IsIt a (i + 1) io' → Heap.SameBut it s.heap h' → Q v { s with heap := h' }) : wpAny (Mo w) A (Builtin.SmallTypes.nextOf (.ref it)) Q E s := by
 have hit : s.heap.IsListIter it a i := ⟨io, ho, hi.1, hi.2⟩
 obtain ⟨ol, hol, _, nl, hdl⟩ := hl
 have hc := hi.1
 have hd := hi.2
 unfold Builtin.SmallTypes.nextOf
 refine zB (wpAny_callSpecial?_slot (name := ofString "__next__") hit.typeIs slot_listiter_next (wpAny_call_entry slot_listiter_next hit.typeIs entry_listiter_next ?_ (args_listiter_next _)))
 show wpAny _ _ (field (.ref it) 0 >>= _) _ _ s
 refine zB (wpAny_field ho hd (x := .ref a) rfl ?_)
 show wpAny _ _ (if (Value.ref a == Value.none) = true then _ else _) _ _ s
 rw [zG (show ¬ ((Value.ref a == Value.none) = true) from zF)]
 show wpAny _ _ (field (.ref it) 1 >>= _) _ _ s
 refine zB (wpAny_field ho hd (x := .int i 0) rfl ?_)
 show wpAny _ _ (seqItems? (.ref a) >>= _) _ _ s
 refine zB (wpAny_seqItems hol hdl ?_)
 have hv' : vs.toArray[i]? = some v := by simpa using hv
 simp only [Int.toNat_natCast, hv']
 refine zB (wpAny_setField ho hd (by simp) (zP ⟨v, rfl, zP (hq _ _ (Heap.get?_update_self _ ho (Obj.isFreed_of_fields (Obj.data_mapFields hd _))) ⟨(Obj.cls_mapFields ..).trans hc, ?_⟩ (Heap.SameBut.update ..))⟩))
 rw [Obj.data_mapFields hd]; simp [rawInt]
theorem nx_end {it a i : Nat} {vs : List Value} {io : Obj} {s : Shared} (hh : A.handled = none) (ho : s.heap.get? it = some io) (hi : IsIt a i io) (hl : s.heap.IsList a vs.toArray) (hv : vs[i]? = none)
  (hq : ∀ h' e, h'.get? e ≠ none → Shared.TypeIs { s with heap := h' } (.ref e) "StopIteration" → Heap.ExtBut it s.heap h' → E (.ref e) { s with heap := h' }) : wpAny (Mo w) A (Builtin.SmallTypes.nextOf (.ref it)) Q E s := by
 have hit : s.heap.IsListIter it a i := ⟨io, ho, hi.1, hi.2⟩
 obtain ⟨ol, hol, _, nl, hdl⟩ := hl
 have hc := hi.1
 have hd := hi.2
 unfold Builtin.SmallTypes.nextOf
 refine zB (wpAny_callSpecial?_slot (name := ofString "__next__") hit.typeIs slot_listiter_next (wpAny_call_entry slot_listiter_next hit.typeIs entry_listiter_next ?_ (args_listiter_next _)))
 show wpAny _ _ (field (.ref it) 0 >>= _) _ _ s
 refine zB (wpAny_field ho hd (x := .ref a) rfl ?_)
 show wpAny _ _ (if (Value.ref a == Value.none) = true then _ else _) _ _ s
 rw [zG (show ¬ ((Value.ref a == Value.none) = true) from zF)]
 show wpAny _ _ (field (.ref it) 1 >>= _) _ _ s
 refine zB (wpAny_field ho hd (x := .int i 0) rfl ?_)
 show wpAny _ _ (seqItems? (.ref a) >>= _) _ _ s
 refine zB (wpAny_seqItems hol hdl ?_)
 have hv' : vs.toArray[i]? = none := by simpa using hv
 simp only [Int.toNat_natCast, hv']
 refine zB (wpAny_rule (zB (wpAny_setField ho hd (by simp) ?_)))
 show wpAny _ _ (newExc (.type "StopIteration") [] >>= _) _ _ _
 refine zB ?_
 simp only [newExc, newTuple]
 refine zB (wpAny_newObj_type ?_ (by size_fits))
 refine zB (m := firstArgMember _ _) (wpAny_of_eq (a := Value.none) (by first | rfl | (simp only [firstArgMember]; rfl)) ?_)
 refine wpAny_newObj_type ?_ (by size_fits)
 simp only [raiseNew]
 refine zB (wpAny_handled ?_)
 rw [show A.in1.handled = none from hh]
 refine zB (zP (wpAny_throw ?_))
 refine hq _ _ ?_ ⟨_, zL _ rfl, rfl⟩ (((Heap.SameBut.update ..).extBut.push _).push _)
 rw [zL _ rfl]; exact fun z => nomatch z
end
structure Fx where
 uu : Heap
 ww : Heap
 X : List Nat
 vv : List Env
 L : Nat
 g : Array GenState
 d : Drawn
 os : OsState
structure At (F : Fx) (l : LS) (ro rw : LO) (tl : LT) (tk : Nat) (P : SP) : Prop where
 go : ∀ h, St F.uu F.ww F.X F.vv F.L l ro rw tl h → P ⟨h, F.g, F.d, tk, F.os⟩
theorem At.run {uu ww h : Heap} {X : List Nat} {vv : List Env} {L : Nat} {l : LS} {ro rw : LO} {tl : LT} {g : Array GenState} {d : Drawn} {tk : Nat} {os : OsState} {P : SP}
  (S : St uu ww X vv L l ro rw tl h) (k : At ⟨uu, ww, X, vv, L, g, d, os⟩ l ro rw tl tk P) : P ⟨h, g, d, tk, os⟩ := k.go h S
section
variable {F : Fx} {M : Model} {P P' : SP}
theorem At.lift (f : ∀ s, P s → P' s) (k : At F l ro rw tl tk P) : At F l ro rw tl tk P' := .mk fun h S => f _ (k.go h S)
theorem At.drop {ro' rw' : LO} (a : ro'.Sublist ro) (b : rw'.Sublist rw) (k : At F l ro' rw' tl tk P) : At F l ro rw tl tk P := .mk fun h S => k.go h (S.drop a b)
def Br (P P' : SP) (b : Bool) (s : Shared) : Prop := if b = true then P s else P' s
theorem At.iteT (k : At F l ro rw tl tk P) : At F l ro rw tl tk (Br P P' true) := .mk fun h S => by unfold Br; rw [if_pos rfl]; exact k.go h S
theorem At.iteF (k : At F l ro rw tl tk P') : At F l ro rw tl tk (Br P P' false) := .mk fun h S => by unfold Br; rw [if_neg Bool.false_ne_true]; exact k.go h S
theorem At.ite {c : Prop} [Decidable c] (t : c → At F l ro rw tl tk P) (f : ¬ c → At F l ro rw tl tk P') : At F l ro rw tl tk (Br P P' (decide c)) := by
 by_cases hc : c
 ·rw [decide_eq_true hc]; exact .iteT (t hc)
 ·rw [decide_eq_false hc]; exact .iteF (f hc)
variable {kk : Nat}
theorem At.str {x : Str} (k : At F l ro rw tl (tk + 1) (Q (.str x tk))) : At F l ro rw tl tk (wpAny (Mo w) A (eval (.Constant (.str x) kk pos) env) Q E) := .mk fun h S => k_str (k.go h S)
theorem At.int {i : Int} (k : At F l ro rw tl (tk + 1) (Q (.int i tk))) : At F l ro rw tl tk (wpAny (Mo w) A (eval (.Constant (.int i) kk pos) env) Q E) := .mk fun h S => k_int (k.go h S)
theorem At.loc {x : Str} {v : Value} (hv : l.lookup x = some v) (k : At F l ro rw tl tk (Q v))
  (hk : env.scope.kind = .function := by rfl) (hl : env.kindOf x = some .local := by rfl) (hL : env.locals = F.L := by rfl) (hd : (x == ("__debug__" : Str)) = false := by rfl) : At F l ro rw tl tk (wpAny (Mo w) A (eval (.Name x pos) env) Q E) := .mk fun h S => zij S hv (k.go h S) hk hl hL hd
theorem At.glob {x : Str} {v : Value} (G : Gd w F.uu) (hv : nsIn (KK w) mainGlobals x = some (some v)) (k : At F l ro rw tl tk (Q v))
  (hk : env.scope.kind = .function := by rfl) (hl : env.kindOf x = some .globalImplicit := by rfl) (hG : env.globals = 3 := by rfl) (hd : (x == ("__debug__" : Str)) = false := by rfl) : At F l ro rw tl tk (wpAny (Mo w) A (eval (.Name x pos) env) Q E) := .mk fun h S => e_glob G S.inv hv (k.go h S) hk hl hG hd
theorem At.blt {x : Str} {v : Value} (G : Gd w F.uu) (hv : nsIn (KK w) mainGlobals x = some none) (hb : bootBuiltins x = some v) (k : At F l ro rw tl tk (Q v))
  (hk : env.scope.kind = .function := by rfl) (hl : env.kindOf x = some .globalImplicit := by rfl) (hG : env.globals = 3 := by rfl) (hB : env.builtins = 0 := by rfl) (hd : (x == ("__debug__" : Str)) = false := by rfl) (hn : (x == ("__name__" : Str)) = false := by rfl) : At F l ro rw tl tk (wpAny (Mo w) A (eval (.Name x pos) env) Q E) := .mk fun h S => e_blt G S.inv hv hb (k.go h S) hk hl hG hB hd hn
theorem At.st {x : Str} {v : Value} {Q : Unit → SP} (k : At F ((x, v) :: l) ro rw tl (tk + 1) (Q ()))
  (hk : env.scope.kind = .function := by rfl) (hl : env.kindOf x = some .local := by rfl) (hL : env.locals = F.L := by rfl) : At F l ro rw tl tk (wpAny (Mo w) A (storeName env x v) Q E) := .mk fun h S => zcm S (fun h' S' => k.go h' S') hk hl hL
theorem At.list {vs : List Value} (k : ∀ a, At F l ro ((a, zaa vs) :: rw) tl tk (Q (.ref a))) (hsz : vs.length ≤ sizeLine) : At F l ro rw tl tk (wpAny (Mo w) A (newList vs) Q E) := .mk fun h S => n_list S (fun a h' S' => (k a).go h' S') hsz
theorem At.tup {vs : List Value} (k : ∀ a, At F l ((a, zac vs) :: ro) rw tl tk (Q (.ref a))) (hsz : vs.length ≤ sizeLine) : At F l ro rw tl tk (wpAny (Mo w) A (newTuple vs) Q E) := .mk fun h S => n_tup S (fun a h' S' => (k a).go h' S') hsz
theorem At.ext {P : SP} (k : At F l ro rw tl tk P) : At F l ro rw tl tk (fun s => ExtS s P) := .mk fun h S => ExtS.go S fun h' S' => k.go h' S'
@[reducible] noncomputable def zex (lv uv : Value) : Obj := { cls := .type "slice", data := .fields #[lv, uv, .none] }
theorem At.slice {lv uv : Value} (k : ∀ sl, At F l ((sl, zex lv uv) :: ro) rw tl tk (Q (.ref sl))) : At F l ro rw tl tk (fun s => SlNew lv uv Q s) := .mk fun h S => (k _).go _ (S.allocR (zex lv uv) rfl)
theorem At.lenL {a n : Nat} {vs : List Value} (hm : (a, zaa vs n) ∈ ro ∨ (a, zaa vs n) ∈ rw) (hs : (vs.length : Int) < 2 ^ 63) (k : At F l ro rw tl (tk + 1 + 1) (Q (.int vs.length (tk + 1)))) : At F l ro rw tl tk (wpAny (Mo w) A (call (.builtin "len") [.ref a]) Q E) := .mk fun h S => zdf S hm hs (k.go h S)
theorem At.lenS {x : Str} {t : Nat} (hs : (x.length : Int) < 9223372036854775808) (k : At F l ro rw tl (tk + 1 + 1) (Q (.int x.length (tk + 1)))) : At F l ro rw tl tk (wpAny (Mo w) A (call (.builtin "len") [.str x t]) Q E) := .mk fun h S => zb9 hs (k.go h S)
theorem At.item {value slice : Expr} {a n : Nat} {vs : List Value} {i : Int} {t j : Nat} {v : Value} (hm : (a, zaa vs n) ∈ ro ∨ (a, zaa vs n) ∈ rw) (hj : (i = j) ∨ (i < 0 ∧ i + vs.length = j)) (hv : vs[j]? = some v) (hs : vs.length ≤ sizeLine) (k : At F l ro rw tl tk (Q v))
  (hsub : subscripted slice false (.ref a) (.int i t) = operate [.ref a, .int i t] (getItem (.ref a) (.int i t)) := by rfl) : At F l ro rw tl tk (wpAny (Mo w) A (subscriptTail value slice (.ref a) (.int i t)) Q E) := .mk fun h S => zjd S hm hj hv hs (k.go h S) hsub
theorem At.sliceL {value slice : Expr} {a sl n : Nat} {vs us : List Value} {vl vu : Value} {lo hi : Option Int} (hm : (a, zaa vs n) ∈ ro ∨ (a, zaa vs n) ∈ rw) (hsl : (sl, zex vl vu) ∈ ro) (pl : IsPart vl lo) (pu : IsPart vu hi) (hs : vs.length ≤ sizeLine) (he : (slicePick vs.toArray lo hi none).toList = us)
  (k : ∀ b, At F l ((b, zaa us) :: ro) rw tl tk (Q (.ref b))) (hsub : ∃ ops, subscripted slice false (.ref a) (.ref sl) = operate ops (getItem (.ref a) (.ref sl)) := by exact ⟨_, rfl⟩) : At F l ro rw tl tk (wpAny (Mo w) A (subscriptTail value slice (.ref a) (.ref sl)) Q E) :=
 .mk fun h S => zja S hm ⟨_, (S.hro _ hsl).1, rfl, rfl⟩ pl pu hs he (fun b h' S' => (k b).go h' S') hsub
theorem At.cat {a b n m : Nat} {us vs : List Value} (ha : (a, zaa us n) ∈ ro ∨ (a, zaa us n) ∈ rw) (hb : (b, zaa vs m) ∈ ro ∨ (b, zaa vs m) ∈ rw) (hs : us.length + vs.length ≤ sizeLine) (k : ∀ c, At F l ((c, zaa (us ++ vs)) :: ro) rw tl tk (Q (.ref c))) : At F l ro rw tl tk (wpAny (Mo w) A (binaryOp .Add (.ref a) (.ref b)) Q E) :=
 .mk fun h S => concatR S ha hb hs fun c h' S' => (k c).go h' S'
theorem At.mulS {x : Str} {n : Int} {t u : Nat} (hm : MulOk x n) (k : ∀ t' tk', At F l ro rw tl tk' (Q (.str (Txt.mul x n) t'))) : At F l ro rw tl tk (wpAny (Mo w) A (binaryOp .Mult (.str x t) (.int n u)) Q E) := .mk fun h S => zg7 hm fun t' tk' => (k t' tk').go h S
theorem At.addS {x y : Str} {t u : Nat} (k : ∀ t' tk', At F l ro rw tl tk' (Q (.str (x ++ y) t'))) (hs : x.length + y.length ≤ sizeLine) : At F l ro rw tl tk (wpAny (Mo w) A (binaryOp .Add (.str x t) (.str y u)) Q E) := .mk fun h S => zc3 (fun t' tk' => (k t' tk').go h S) hs
theorem At.addI {a b : Int} {t u : Nat} (k : At F l ro rw tl (tk + 1) (Q (.int (a + b) tk))) : At F l ro rw tl tk (wpAny (Mo w) A (binaryOp .Add (.int a t) (.int b u)) Q E) := .mk fun h S => zg9 (k.go h S)
theorem At.subI {a b : Int} {t u : Nat} (k : At F l ro rw tl (tk + 1) (Q (.int (a - b) tk))) : At F l ro rw tl tk (wpAny (Mo w) A (binaryOp .Sub (.int a t) (.int b u)) Q E) := .mk fun h S => zli (k.go h S)
theorem At.negI {a : Int} {t : Nat} (k : At F l ro rw tl (tk + 1) (Q (.int (-a) tk))) : At F l ro rw tl tk (wpAny (Mo w) A (unaryOp .USub (.int a t)) Q E) := .mk fun h S => o_neg (k.go h S)
@[reducible] def KRs (M : Model) (A : Around) (E : VP) (env : Env) (rest : List Stmt) (R : Flow → SP) (u : Unit) : SP := wpAny M A (execs rest env) R E
def KSt (M : Model) (A : Around) (E : VP) (env : Env) (x : Str) (rest : List Stmt) (Q : Flow → SP) (v : Value) : SP := wpAny M A (storeName env x v) (KRs M A E env rest Q) E
@[reducible] def KRet (Q : Flow → SP) (v : Value) : SP := Q (.ret v)
@[reducible] def KBin2 (M : Model) (A : Around) (E : VP) (op : Operator) (Q : VP) (a b : Value) : SP := wpAny M A (binaryOp op a b) Q E
@[reducible] def KBin1 (M : Model) (A : Around) (E : VP) (env : Env) (op : Operator) (r : Expr) (Q : VP) (a : Value) : SP := wpAny M A (eval r env) (KBin2 M A E op Q a) E
@[reducible] def KUn (M : Model) (A : Around) (E : VP) (op : UnaryOp) (Q : VP) (v : Value) : SP := wpAny M A (unaryOp op v) Q E
@[reducible] def KSub2 (M : Model) (A : Around) (E : VP) (value slice : Expr) (Q : VP) (o i : Value) : SP := wpAny M A (subscriptTail value slice o i) Q E
@[reducible] def KSub1 (M : Model) (A : Around) (E : VP) (env : Env) (value slice : Expr) (Q : VP) (o : Value) : SP := wpAny M A (eval slice env) (KSub2 M A E value slice Q o) E
@[reducible] def KTru (M : Model) (A : Around) (E : VP) (Q : Bool → SP) (c : Value) : SP := wpAny M A (truthy c) Q E
@[reducible] def KCmp2 (M : Model) (A : Around) (E : VP) (op : CmpOp) (Q : Bool → SP) (a b : Value) : SP := wpAny M A (compareOp op a b) (KTru M A E Q) E
@[reducible] def KCmp1 (M : Model) (A : Around) (E : VP) (env : Env) (op : CmpOp) (r : Expr) (Q : Bool → SP) (a : Value) : SP := wpAny M A (eval r env) (KCmp2 M A E op Q a) E
@[reducible] def KSp2 (Q : List Value → SP) (v : Value) (vs : List Value) : SP := Q (v :: vs)
@[reducible] def KSp1 (M : Model) (A : Around) (E : VP) (env : Env) (pos : Pos) (rest : List Expr) (Q : List Value → SP) (v : Value) : SP := wpAny M A (spliced (backTo pos (starEach rest env))) (KSp2 Q v) E
def zix (M : Model) (A : Around) (E : VP) (env : Env) (pos : Pos) (args : List Expr) (Q : VP) (f : Value) (s : Shared) : Prop := wpAny M A (callWith pos f [] (backTo pos (starEach args env)) []) Q E s
@[reducible] def KApp (M : Model) (A : Around) (E : VP) (id : String) (first : List Value) (Q : VP) (vs : List Value) : SP := wpAny M A (call (.builtin id) (first ++ vs)) Q E
@[reducible] def KList (M : Model) (A : Around) (E : VP) (Q : VP) (vs : List Value) : SP := wpAny M A (newList vs) Q E
@[reducible] def KTup (M : Model) (A : Around) (E : VP) (Q : VP) (vs : List Value) : SP := wpAny M A (newTuple vs) Q E
@[reducible] def KAnd (M : Model) (A : Around) (E : VP) (env : Env) (rest : List Expr) (Q : Bool → SP) (b : Bool) : SP := Br (wpAny M A (allTrue .And rest env) Q E) (Q false) b
@[reducible] def KOr (M : Model) (A : Around) (E : VP) (env : Env) (rest : List Expr) (Q : Bool → SP) (b : Bool) : SP := Br (Q true) (wpAny M A (allTrue .Or rest env) Q E) b
@[reducible] def KIf (M : Model) (A : Around) (E : VP) (env : Env) (body orelse : List Stmt) (Q : Flow → SP) (b : Bool) : SP := Br (wpAny M A (execs body env) Q E) (wpAny M A (execs orelse env) Q E) b
@[reducible] def KIfE (M : Model) (A : Around) (E : VP) (env : Env) (body orelse : Expr) (Q : VP) (b : Bool) : SP := Br (wpAny M A (eval body env) Q E) (wpAny M A (eval orelse env) Q E) b
def KSl2 (Q : VP) (lv uv : Value) (s : Shared) : Prop := SlNew lv uv Q s
@[reducible] def KSl1 (M : Model) (A : Around) (E : VP) (env : Env) (upper : Option Expr) (Q : VP) (lv : Value) : SP := wpAny M A (evalPart upper env) (KSl2 Q lv) E
def KAp1 (w : World) (A : Around) (E : VP) (env : Env) (e : Expr) (rest : List Stmt) (Q : Flow → SP) (ov : Value) (s : Shared) : Prop := OnList s ov fun a => wpAny (Mo w) A (eval e env) (fun v s₂ => AppS w A E a v (fun s₃ => wpAny (Mo w) A (execs rest env) Q E s₃) s₂) E s
def KAp2 (w : World) (A : Around) (E : VP) (env : Env) (rest : List Stmt) (Q : Flow → SP) (a : Nat) (v : Value) (s : Shared) : Prop := AppS w A E a v (fun s₃ => wpAny (Mo w) A (execs rest env) Q E s₃) s
section
variable {x : Str} {rest body orelse : List Stmt} {value slice r e : Expr} {elts args : List Expr} {a b o v f : Value} {first : List Value} {pos' : Pos} {whole : Sem Value} {R : Flow → SP} {B : Bool → SP} {T : List Value → SP}
theorem At.asg (k : At F l ro rw tl tk (wpAny M A (eval value env) (KSt M A E env x rest R) E)) (hs : swapsWith value (some (.Name x pos')) pos.line env = pure false) : At F l ro rw tl tk (wpAny M A (execs (.Assign [.Name x pos'] value pos :: rest) env) R E) := .mk fun h S => zby (k.go h S) hs
theorem At.kst (k : At F ((x, v) :: l) ro rw tl (tk + 1) (wpAny (Mo w) A (execs rest env) R E)) (hk : env.scope.kind = .function := by rfl) (hl : env.kindOf x = some .local := by rfl) (hL : env.locals = F.L := by rfl) : At F l ro rw tl tk (KSt (Mo w) A E env x rest R v) := .mk fun h S => zcm S (fun h' S' => k.go h' S') hk hl hL
theorem At.ret (k : At F l ro rw tl tk (wpAny M A (eval e env) (KRet R) E)) : At F l ro rw tl tk (wpAny M A (execs (.Return (some e) pos :: rest) env) R E) := .mk fun h S => zjx (k.go h S)
theorem At.nil (k : At F l ro rw tl tk (R .next)) : At F l ro rw tl tk (wpAny M A (execs [] env) R E) := .mk fun h S => x_nil (k.go h S)
theorem At.bin {op : Operator} (k : At F l ro rw tl tk (wpAny M A (eval e env) (KBin1 M A E env op r Q) E)) : At F l ro rw tl tk (wpAny M A (eval (.BinOp e op r pos) env) Q E) := .mk fun h S => wpAny_BinOp (k.go h S)
theorem At.un {op : UnaryOp} (k : At F l ro rw tl tk (wpAny M A (eval e env) (KUn M A E op Q) E)) : At F l ro rw tl tk (wpAny M A (eval (.UnaryOp op e pos) env) Q E) := .mk fun h S => wpAny_UnaryOp (k.go h S)
theorem At.sub (k : At F l ro rw tl tk (wpAny M A (eval value env) (KSub1 M A E env value slice Q) E)) : At F l ro rw tl tk (wpAny M A (eval (.Subscript value slice pos) env) Q E) := .mk fun h S => Subscript_ (k.go h S)
theorem At.cmp {op : CmpOp} (k : At F l ro rw tl tk (wpAny M A (eval e env) (KCmp1 M A E env op r B) E)) (hs : behindInMarks op r = false) : At F l ro rw tl tk (wpAny M A (PySem.isTrue (.Compare e [op] [r] pos) env whole) B E) := .mk fun h S => wpAny_isTrue_Compare1 (k.go h S) hs
theorem At.sp0 (k : At F l ro rw tl tk (T [])) : At F l ro rw tl tk (wpAny M A (spliced (backTo pos (starEach [] env))) T E) := .mk fun h S => zdz (k.go h S)
theorem At.sp (k : At F l ro rw tl tk (wpAny M A (eval e env) (KSp1 M A E env pos elts T) E)) (he : starEach (e :: elts) env = (false, eval e env) :: starEach elts env) : At F l ro rw tl tk (wpAny M A (spliced (backTo pos (starEach (e :: elts) env))) T E) := .mk fun h S => zb0 (k.go h S) he
theorem At.callN {id : Str} {p : Pos} (k : At F l ro rw tl tk (wpAny M A (eval (.Name id p) env) (zix M A E env pos args Q) E)) : At F l ro rw tl tk (wpAny M A (eval (.Call (.Name id p) args [] pos) env) Q E) := .mk fun h S => wpAny_Call_NameR (k.go h S)
theorem At.kcallB {id : String} (k : At F l ro rw tl tk (wpAny M A (spliced (backTo pos (starEach args env))) (KApp M A E id [] Q) E)) (hp : (backTo pos (starEach args env)).any (·.1) = false) : At F l ro rw tl tk (zix M A E env pos args Q (.builtin id)) := .mk fun h S => za3 (k.go h S) hp
theorem At.elist (k : At F l ro rw tl tk (wpAny M A (spliced (backTo pos (starEach elts env))) (KList M A E Q) E)) : At F l ro rw tl tk (wpAny M A (eval (.List elts pos) env) Q E) := .mk fun h S => e_list (k.go h S)
theorem At.etup {n : Nat} (k : At F l ro rw tl tk (wpAny M A (spliced (backTo pos (starEach elts env))) (KTup M A E Q) E)) : At F l ro rw tl tk (wpAny M A (eval (.Tuple elts n pos) env) Q E) := .mk fun h S => zdl (k.go h S)
theorem At.and1 (k : At F l ro rw tl tk (wpAny M A (PySem.isTrue e env (eval e env)) (KAnd M A E env elts B) E)) : At F l ro rw tl tk (wpAny M A (allTrue .And (e :: elts) env) B E) := .mk fun h S => wpAny_allTrue_And_cons (k.go h S)
theorem At.or1 (k : At F l ro rw tl tk (wpAny M A (PySem.isTrue e env (eval e env)) (KOr M A E env elts B) E)) : At F l ro rw tl tk (wpAny M A (allTrue .Or (e :: elts) env) B E) := .mk fun h S => wpAny_allTrue_Or_cons (k.go h S)
theorem At.ife {t y n : Expr} (k : At F l ro rw tl tk (wpAny M A (PySem.isTrue t env (eval t env)) (KIfE M A E env y n Q) E)) : At F l ro rw tl tk (wpAny M A (eval (.IfExp t y n pos) env) Q E) := .mk fun h S => wpAny_IfExp (k.go h S)
theorem At.slc {lo hi : Option Expr} (k : At F l ro rw tl tk (wpAny M A (evalPart lo env) (KSl1 M A E env hi Q) E)) : At F l ro rw tl tk (wpAny M A (eval (.Slice lo hi none pos) env) Q E) := .mk fun h S => zlp (k.go h S)
theorem At.ksl2 (k : ∀ sl, At F l ((sl, zex a b) :: ro) rw tl tk (Q (.ref sl))) : At F l ro rw tl tk (KSl2 Q a b) := At.slice k
theorem At.apnd {apos : Pos} (k : At F l ro rw tl tk (wpAny (Mo w) A (eval e env) (KAp1 w A E env r rest R) E)) (h1 : attributeBase e (ofString "append") env (eval e env) = eval e env) (h3 : (apos.endLine == pos.line) = true)
  (h4 : starEach [r] env = [(false, eval r env)]) (h5 : interactive env = false) (h6 : swapsWith (.Call (.Attribute e (ofString "append") apos) [r] [] pos) none pos'.line env = pure false) : At F l ro rw tl tk (wpAny (Mo w) A (execs (.Expr (.Call (.Attribute e (ofString "append") apos) [r] [] pos) pos' :: rest) env) R E) := .mk fun h S => x_append (k.go h S) h1 h3 h4 h5 h6
theorem At.kap1 {a n : Nat} (hm : (a, zaa vs n) ∈ ro ∨ (a, zaa vs n) ∈ rw) (k : At F l ro rw tl tk (wpAny (Mo w) A (eval e env) (KAp2 w A E env rest R a) E)) : At F l ro rw tl tk (KAp1 w A E env e rest R (.ref a)) := .mk fun h S => OnList.go S hm (k.go h S)
theorem At.kap2 {a n : Nat} {rw' : LO} (hl : Led rw a (zaa vs n) (zaa (vs ++ [v]) (n + 1)) rw') (hs : vs.length ≤ sizeLine) (k : At F l ro rw' tl tk (wpAny (Mo w) A (execs rest env) R E)) : At F l ro rw tl tk (KAp2 w A E env rest R a v) := .mk fun h S => AppS.go S hl hs fun h' S' => k.go h' S'
end
def EndT (F : Fx) (l : LS) (ro rw : LO) (tl : LT) (R : Bool → Prop) (b : Bool) (s : Shared) : Prop := ∃ tk h, R b ∧ s = ⟨h, F.g, F.d, tk, F.os⟩ ∧ St F.uu F.ww F.X F.vv F.L l ro rw tl h
theorem At.endT {R : Bool → Prop} {b : Bool} (h : R b) : At F l ro rw tl tk (EndT F l ro rw tl R b) := .mk fun h' S => ⟨_, _, h, rfl, S⟩
theorem At.test (R : Bool → Prop) {t : Sem Bool} {Q : Bool → SP} (k : At F l ro rw tl tk (wpAny M A t (EndT F l ro rw tl R) E)) (q : ∀ b tk, R b → At F l ro rw tl tk (Q b)) : At F l ro rw tl tk (wpAny M A t Q E) :=
 .mk fun h S => zM (k.go h S) (fun b s z => by obtain ⟨tk, h, r, rfl, S⟩ := z; exact (q b tk r).go h S) fun j j z => z
def EndJ (F : Fx) (J : LS → LO → LO → LT → Nat → Prop) (s : Shared) : Prop := ∃ l ro rw tl tk h, J l ro rw tl tk ∧ s = ⟨h, F.g, F.d, tk, F.os⟩ ∧ St F.uu F.ww F.X F.vv F.L l ro rw tl h
def FlJ (F : Fx) (J : LS → LO → LO → LT → Nat → Prop) (f : Flow) (s : Shared) : Prop := f = .next ∧ EndJ F J s
theorem At.endJ {J : LS → LO → LO → LT → Nat → Prop} (h : J l ro rw tl tk) : At F l ro rw tl tk (FlJ F J .next) := .mk fun h' S => ⟨rfl, _, _, _, _, _, _, h, rfl, S⟩
theorem At.ifJ {test : Expr} {body orelse rest : List Stmt} {Q : Flow → SP} (J : LS → LO → LO → LT → Nat → Prop)
  (k : At F l ro rw tl tk (wpAny M A (PySem.isTrue test env (eval test env)) (KIf M A E env body orelse (FlJ F J)) E))
  (hr : ∀ l ro rw tl tk, J l ro rw tl tk → At F l ro rw tl tk (wpAny M A (execs rest env) Q E)) : At F l ro rw tl tk (wpAny M A (execs (.If test body orelse pos :: rest) env) Q E) :=
 .mk fun h S => x_ifJ (EndJ F J) (k.go h S) (fun s q => by obtain ⟨l, ro, rw, tl, tk, h, a, rfl, S⟩ := q; exact (hr _ _ _ _ _ a).go h S)
def EndW (F : Fx) (ro : LO) (P : CT) (m : Nat) (s : Shared) : Prop := EndWh F.uu F.ww F.X F.vv F.L ro F.g F.d F.os P m s
def FlW (F : Fx) (ro : LO) (P : CT) (m : Nat) (B : SP) (Q : Flow → SP) (f : Flow) (s : Shared) : Prop := FlWh (EndW F ro P m) B Q f s
theorem At.endW {C : CT} {m m' : Nat} {B : SP} {Q : Flow → SP} (hm : m' < m) (h : C m' l rw tl) : At F l ro rw tl tk (FlW F ro C m B Q .next) := .mk fun h' S => EndWh.mk hm h S
def KWh (w : World) (A : Around) (E : VP) (env : Env) (body rest : List Stmt) (F : Fx) (ro : LO) (C : CT) (m : Nat) (Q : Flow → SP) (b : Bool) (s : Shared) : Prop :=
 if b = true then wpAny (Mo w) A (execs body env) (FlW F ro C m (wpAny (Mo w) A (execs rest env) Q E) Q) (fun j j => False) s else wpAny (Mo w) A (execs rest env) Q E s
theorem At.kwh {body rest : List Stmt} {C : CT} {m : Nat} {Q : Flow → SP} {b : Bool} {ro' : LO} {F' : Fx} (k : At F l ro rw tl tk (Br (wpAny (Mo w) A (execs body env) (FlW F' ro' C m (wpAny (Mo w) A (execs rest env) Q E) Q) (fun j j => False)) (wpAny (Mo w) A (execs rest env) Q E) b)) : At F l ro rw tl tk (KWh w A E env body rest F' ro' C m Q b) := k
theorem At.while {test : Expr} {body rest : List Stmt} {Q : Flow → SP} (C : CT) (m : Nat) (h0 : C m l rw tl)
  (turn : ∀ m l rw tl tk, C m l rw tl → At F l ro rw tl tk (wpAny (Mo w) A (PySem.isTrue test env (eval test env)) (KWh w A E env body rest F ro C m Q) (fun j j => False))) :
  At F l ro rw tl tk (wpAny (Mo w) A (execs (.While test body [] pos :: rest) env) Q E) := .mk fun h S => x_while C m S h0 fun m l rw tl h tk a S => (turn m l rw tl tk a).go h S
end
section
variable {F : Fx} {M : Model} {kk a b : Nat} {x y : Int} {u v : Str} {c d : Bool} {B : Bool → SP} {e : Expr} {op : BoolOp} {es : List Expr} {whole : Sem Value}
theorem At.cnone (k : At F l ro rw tl tk (Q .none)) : At F l ro rw tl tk (wpAny (Mo w) A (eval (.Constant .none kk pos) env) Q E) := .mk fun h S => k_none (k.go h S)
theorem At.cbool (k : At F l ro rw tl tk (Q (.bool c))) : At F l ro rw tl tk (wpAny (Mo w) A (eval (.Constant (.bool c) kk pos) env) Q E) := .mk fun h S => k_bool (k.go h S)
theorem At.pN (k : At F l ro rw tl tk (Q .none)) : At F l ro rw tl tk (wpAny M A (evalPart none env) Q E) := .mk fun h S => wpAny_evalPart_none (k.go h S)
theorem At.pS (k : At F l ro rw tl tk (wpAny M A (eval e env) Q E)) : At F l ro rw tl tk (wpAny M A (evalPart (some e) env) Q E) := .mk fun h S => wpAny_evalPart_some (k.go h S)
theorem At.bop (k : At F l ro rw tl tk (wpAny M A (allTrue op es env) B E)) : At F l ro rw tl tk (wpAny M A (PySem.isTrue (.BoolOp op es pos) env whole) B E) := .mk fun h S => wpAny_isTrue_BoolOp (k.go h S)
theorem At.and0 (k : At F l ro rw tl tk (B true)) : At F l ro rw tl tk (wpAny M A (allTrue .And [] env) B E) := .mk fun h S => wpAny_allTrue_And_nil (k.go h S)
theorem At.or0 (k : At F l ro rw tl tk (B false)) : At F l ro rw tl tk (wpAny M A (allTrue .Or [] env) B E) := .mk fun h S => wpAny_allTrue_Or_nil (k.go h S)
theorem At.gtI (k : At F l ro rw tl tk (Q (.bool (decide (y < x))))) : At F l ro rw tl tk (wpAny (Mo w) A (compareOp .Gt (.int x a) (.int y b)) Q E) := .mk fun h S => PyProof.Rows.gt_int (k.go h S)
theorem At.ltI (k : At F l ro rw tl tk (Q (.bool (decide (x < y))))) : At F l ro rw tl tk (wpAny (Mo w) A (compareOp .Lt (.int x a) (.int y b)) Q E) := .mk fun h S => PyProof.Rows.lt_int (k.go h S)
theorem At.geI (k : At F l ro rw tl tk (Q (.bool (decide (y ≤ x))))) : At F l ro rw tl tk (wpAny (Mo w) A (compareOp .GtE (.int x a) (.int y b)) Q E) := .mk fun h S => PyProof.Rows.ge_int (k.go h S)
theorem At.leI (k : At F l ro rw tl tk (Q (.bool (decide (x ≤ y))))) : At F l ro rw tl tk (wpAny (Mo w) A (compareOp .LtE (.int x a) (.int y b)) Q E) := .mk fun h S => PyProof.Rows.le_int (k.go h S)
theorem At.eqI (k : At F l ro rw tl tk (Q (.bool (x == y)))) : At F l ro rw tl tk (wpAny (Mo w) A (compareOp .Eq (.int x a) (.int y b)) Q E) := .mk fun h S => PyProof.Rows.eq_int (k.go h S)
theorem At.eqS (k : At F l ro rw tl tk (Q (.bool (u == v)))) : At F l ro rw tl tk (wpAny (Mo w) A (compareOp .Eq (.str u a) (.str v b)) Q E) := .mk fun h S => PyProof.Rows.eq_str (k.go h S)
theorem At.neS (k : At F l ro rw tl tk (Q (.bool (u != v)))) : At F l ro rw tl tk (wpAny (Mo w) A (compareOp .NotEq (.str u a) (.str v b)) Q E) := .mk fun h S => PyProof.Rows.ne_str (k.go h S)
theorem At.tru (k : At F l ro rw tl tk (B c)) : At F l ro rw tl tk (wpAny M A (truthy (.bool c)) B E) := .mk fun h S => wpAny_truthy_bool (k.go h S)
end
structure Part where
 sp : Str
 val : Option Int
 gap : Int
noncomputable def Part.sc (p : Part) : List Scal := [.str p.sp, (match p.val with | none => .none | some i => .int i), .int p.gap]
structure Wst where
 pre : List Str
 last : Str
 gaps : List Int
noncomputable def wstep (s : Wst) (p : Part) : Wst :=
 if 0 < p.gap then ⟨s.pre ++ [s.last ++ ofString "."], ofString "" ++ p.sp, s.gaps ++ [p.gap]⟩ else ⟨s.pre, (s.last ++ ofString ".") ++ p.sp, s.gaps⟩
noncomputable def wfold (first : Str) (ps : List Part) : Wst := ps.foldl wstep ⟨[], first, [0]⟩
theorem All2.get {α β : Type} {R : α → β → Prop} {l : List α} {m : List β} (a : All2 R l m) : ∀ {i : Nat} {x : α}, l[i]? = some x → ∃ y, m[i]? = some y ∧ R x y := by
 induction a with
 | nil => intro i x e; simp at e
 | cons h _ ih =>
  intro i x e
  cases i with
  | zero => simp at e; subst e; exact ⟨_, rfl, h⟩
  | succ i => simpa using ih (by simpa using e)
theorem All2.length {α β : Type} {R : α → β → Prop} {l : List α} {m : List β} (a : All2 R l m) : l.length = m.length := by
 induction a with
 | nil => rfl
 | cons _ _ ih => simp [ih]
theorem All2.drop {α β : Type} {R : α → β → Prop} {l : List α} {m : List β} (a : All2 R l m) : ∀ n, All2 R (l.drop n) (m.drop n) := by
 induction a with
 | nil => intro n; simp; exact .nil
 | cons h t ih =>
  intro n
  cases n with
  | zero => exact .cons h t
  | succ n => simpa using ih n
section
theorem zj6 {value slice : Expr} {a n : Nat} {vs : List Value} {t : Nat} {v : Value} (S : St uu ww X vv L l ro rw tl h) (hm : (a, zaa (vs ++ [v]) n) ∈ rw) (hs : vs.length + 1 ≤ sizeLine) (hq : Q v ⟨h, g, d, tk, os⟩)
  (hsub : subscripted slice false (.ref a) (.int (-1) t) = operate [.ref a, .int (-1) t] (getItem (.ref a) (.int (-1) t)) := by rfl) :
  wpAny (Mo w) A (subscriptTail value slice (.ref a) (.int (-1) t)) Q E ⟨h, g, d, tk, os⟩ :=
 zjd S (.inr hm) (j := vs.length) (.inr ⟨by decide, by simp; exact om339⟩) (by simp) (by simpa using hs) hq hsub
theorem zlm {a n : Nat} {vs : List Value} {v x : Value} {t : Nat} (S : St uu ww X vv L l ro rw tl h) {rw' : LO} (hl : Led rw a (zaa (vs ++ [x]) n) (zaa (vs ++ [v]) n) rw') (hs : vs.length + 1 ≤ sizeLine) {Q : Unit → SP} (hq : ∀ h', St uu ww X vv L l ro rw' tl h' → Q () ⟨h', g, d, tk, os⟩) :
  wpAny (Mo w) A (setItem (.ref a) (.int (-1) t) v) Q E ⟨h, g, d, tk, os⟩ :=
 o_set S (j := vs.length) (by
  have : (vs ++ [x]).set vs.length v = vs ++ [v] := by simp
  rw [this]; exact hl) (.inr ⟨by decide, by simp; exact om339⟩) (by simp) (by simpa using hs) hq
end
theorem zcs (vs : List Value) : (slicePick vs.toArray (some 1) none none).toList = vs.drop 1 := by
 rw [kms_pick_eq]
 show (kms_pick vs (some 1) none) = vs.drop 1
 unfold kms_pick
 have e1 : kms_lo (some 1) vs.length = min 1 vs.length := rfl
 have e2 : kms_hi none vs.length = vs.length := rfl
 rw [e1, e2]
 cases vs with
 | nil => rfl
 | cons a r => simp
theorem Sc.str {v : Value} {x : Str} (h : Sc v (.str x)) : ∃ t, v = .str x t := by
 cases v <;> first | exact False.elim h | exact ⟨_, congrArg (Value.str · _) h⟩
theorem Sc.int {v : Value} {x : Int} (h : Sc v (.int x)) : ∃ t, v = .int x t := by
 cases v <;> first | exact False.elim h | exact ⟨_, congrArg (Value.int · _) h⟩
theorem Sc.none {v : Value} (h : Sc v .none) : v = .none := by
 cases v <;> first | exact False.elim h | rfl
theorem zdc {vs : List Value} {q : Part} (h : All2 Sc vs q.sc) : ∃ t1 v2 t3, vs = [.str q.sp t1, v2, .int q.gap t3] ∧ ((q.val = none ∧ v2 = .none) ∨ ∃ i t, q.val = some i ∧ v2 = .int i t) := by
 cases h with
 | cons a h =>
 cases h with
 | cons b h =>
 cases h with
 | cons c h =>
 cases h
 obtain ⟨t1, rfl⟩ := a.str
 obtain ⟨t3, rfl⟩ := c.int
 refine ⟨t1, _, t3, rfl, ?_⟩
 cases hv : q.val with
 | none => rw [hv] at b; exact .inl ⟨rfl, b.none⟩
 | some i => rw [hv] at b; obtain ⟨t, rfl⟩ := b.int; exact .inr ⟨i, t, rfl, rfl⟩
section
end
section
theorem St.addTupIn (S : St uu ww X vv L l ro rw tl h) {t : Nat} {us : List Value} (hm : ∃ e ∈ tl, Value.ref t ∈ e.1) (ht : h.get? t = some (zac us)) : St uu ww X vv L l ((t, zac us) :: ro) rw tl h := by
 refine ⟨S.inv, S.fr, S.keep, S.above, S.low, S.based, S.ns, ?_, S.hrw, S.nd, ?_, S.htl⟩
 ·intro p hp
  rcases zC hp with rfl | hp
  ·refine ⟨ht, ?_, ?_, ?_⟩
   ·rintro rfl
    obtain ⟨o, es, ep, e, hd, _⟩ := S.ns
    rw [ht] at e; cases e; cases hd
   ·intro hb
    obtain ⟨o, es, ep, _, e, hd⟩ := S.fr.mem hb
    rw [ht] at e; cases e; cases hd
   ·rintro (q | q)
    ·obtain ⟨ps, ⟨_, e⟩, _⟩ := S.inv.t1
     dsimp only at q; rw [q] at ht; rw [ht] at e; cases e
    ·obtain ⟨ps, ⟨_, e⟩, _⟩ := S.inv.t2
     dsimp only at q; rw [q] at ht; rw [ht] at e; cases e
  ·exact S.hro p hp
 ·intro p hp q hq
  rcases zC hp with rfl | hp
  ·intro e
   dsimp only at e
   obtain ⟨a1, _, _, _, _, a6⟩ := S.hrw q hq
   rcases a6 with a6 | ⟨a6, _⟩
   ·rw [← e, ht] at a1
    exact a6 (by rw [← Option.some.inj a1])
   ·obtain ⟨x, hx, hin⟩ := hm
    exact a6 x hx (by rw [← e]; exact hin)
  ·exact S.sep p hp q hq
end
def KFor (w : World) (A : Around) (E : VP) (env : Env) (target : Expr) (body rest : List Stmt) (Q : Flow → SP) (x : Value) (s : Shared) : Prop := wpAny (Mo w) A (pyIter x) (fun it s₂ => codeAny (Mo w) A (.forLoop target it body [] env) (fun r s' => match r with | .ok .next => wpAny (Mo w) A (execs rest env) Q E s' | .ok f => Q f s' | .error _ => False) s₂) E s
def FlF (F : Fx) (ro : LO) (p : Nat × Obj) (C : CT) (i : Nat) (B : SP) (Q : Flow → SP) (f : Flow) (s : Shared) : Prop := match f with
 | .next | .cont => ∃ h tk l rw tl, s = ⟨h, F.g, F.d, tk, F.os⟩ ∧ C (i + 1) l rw tl ∧ St F.uu F.ww F.X F.vv F.L l ro (p :: rw) tl h
 | .brk => B s
 | .ret v => Q (.ret v) s
@[reducible] def znn (M : Model) (A : Around) (env : Env) (body : List Stmt) (Q : Flow → SP) (u : Unit) : SP := wpAny M A (execs body env) Q (fun _ _ => False)
@[reducible] def KSi3 (M : Model) (A : Around) (E : VP) (env : Env) (rest : List Stmt) (Q : Flow → SP) (v ov iv : Value) : SP := wpAny M A (setItem ov iv v) (KRs M A E env rest Q) E
@[reducible] def KSi2 (M : Model) (A : Around) (E : VP) (env : Env) (i : Expr) (rest : List Stmt) (Q : Flow → SP) (v ov : Value) : SP := wpAny M A (eval i env) (KSi3 M A E env rest Q v ov) E
@[reducible] def KSi1 (M : Model) (A : Around) (E : VP) (env : Env) (o i : Expr) (rest : List Stmt) (Q : Flow → SP) (v : Value) : SP := wpAny M A (eval o env) (KSi2 M A E env i rest Q v) E
def FlN (M : Model) (A : Around) (E : VP) (env : Env) (rest : List Stmt) (Q : Flow → SP) (f : Flow) (s : Shared) : Prop := match f with
 | .next => wpAny M A (execs rest env) Q E s
 | f => Q f s
section
variable {F : Fx} {M : Model} {P P' : SP}
variable {pos' : Pos} {kk : Nat} {R : Flow → SP} {B : Bool → SP} {U : Unit → SP} {body rest orelse : List Stmt}
theorem At.forL {target iter : Expr} (k : At F l ro rw tl tk (wpAny (Mo w) A (eval iter env) (KFor w A E env target body rest R) E)) (hs : ∀ x, foldedSetIterable iter env x = pure x := by intro _; rfl) : At F l ro rw tl tk (wpAny (Mo w) A (execs (.For target iter body [] pos :: rest) env) R E) := .mk fun h S => zgl (k.go h S) hs
theorem At.kfor {target : Expr} {a n : Nat} {vs : List Value} (hh : A.handled = none) (C : CT) (hX : ∀ x, x ∉ F.X) (hm : (a, zaa vs n) ∈ ro) (h0 : C 0 l rw tl)
  (turn : ∀ i v l rw tl tk p, vs[i]? = some v → C i l rw tl → At F l ro (p :: rw) tl tk (wpAny (Mo w) A (assign target env v) (znn (Mo w) A env body (FlF F ro p C i (wpAny (Mo w) A (execs rest env) R E) R)) (fun j j => False)))
  (stop : ∀ l rw tl tk, C vs.length l rw tl → At F l ro rw tl tk (wpAny (Mo w) A (execs rest env) R E)) : At F l ro rw tl tk (KFor w A E env target body rest R (.ref a)) :=
 .mk fun h S => zea S (.inl hm) fun it h' io hio j j S' => zf7 (zh4 (a := a)) hh C (hX it) (fun j j j j j S => (S.hro _ hm).1) hio S' h0
  (fun i v l rw tl h tk io j hv c S => zM ((turn i v l rw tl tk (it, io) hv c).go h S) (fun j s q => zM q (fun f s₃ q => by cases f <;> exact q) fun j j z => z) fun j j z => z) fun l rw tl h tk c S => x_nil ((stop l rw tl tk c).go h S)
theorem At.endF {C : CT} {i : Nat} {Z : SP} {p : Nat × Obj} (h : C (i + 1) l rw tl) : At F l ro (p :: rw) tl tk (FlF F ro p C i Z R .next) := .mk fun h' S => ⟨_, _, _, _, _, rfl, h, S⟩
theorem At.ifN {test : Expr} (k : At F l ro rw tl tk (wpAny M A (PySem.isTrue test env (eval test env)) (KIf M A E env body orelse (FlN M A E env rest R)) E)) : At F l ro rw tl tk (wpAny M A (execs (.If test body orelse pos :: rest) env) R E) :=
 .mk fun h S => x_if (zM (k.go h S) (fun b s q => by
  unfold KIf Br at q
  cases b with
  | true => rw [zH rfl] at q ⊢; exact zM q (fun f s q => by cases f <;> exact q) fun j j z => z
  | false => rw [zG zF] at q ⊢; exact zM q (fun f s q => by cases f <;> exact q) fun j j z => z) fun j j z => z)
theorem At.fln (k : At F l ro rw tl tk (wpAny M A (execs rest env) R E)) : At F l ro rw tl tk (FlN M A E env rest R .next) := k
theorem At.openT {vs : List Value} {xss : List (List Scal)} {i : Nat} {v : Value} (ht : (vs, xss) ∈ tl) (hv : vs[i]? = some v) (k : ∀ t us xs, v = .ref t → xss[i]? = some xs → All2 Sc us xs → At F l ((t, zac us) :: ro) rw tl tk P) : At F l ro rw tl tk P := .mk fun h S => by
 obtain ⟨xs, hx, t, us, rfl, ho, hs⟩ := (S.htl _ ht).get hv
 exact (k t us xs rfl hx hs).go h (S.addTupIn ⟨_, ht, zR hv⟩ ho)
theorem At.tuple3 {x y z : Str} {px py pz : Pos} {n t : Nat} {v1 v2 v3 : Value} (hh : A.handled = none) (hm : (t, zac [v1, v2, v3]) ∈ ro) (k : At F ((z, v3) :: (y, v2) :: (x, v1) :: l) ro rw tl (tk + 1 + 1 + 1) (U ()))
  (hk : env.scope.kind = .function := by rfl) (hx : env.kindOf x = some .local := by rfl) (hy : env.kindOf y = some .local := by rfl) (hz : env.kindOf z = some .local := by rfl) (hL : env.locals = F.L := by rfl) :
  At F l ro rw tl tk (wpAny (Mo w) A (assign (.Tuple [.Name x px, .Name y py, .Name z pz] n pos) env (.ref t)) U E) :=
 .mk fun h S => zjv hh S (S.hro _ hm).1 fun h' S' => zcm S' (fun j S' => zcm S' (fun j S' => zcm S' (fun h' S' => k.go h' S') hk hz hL) hk hy hL) hk hx hL
theorem At.setitem {o i value : Expr} (k : At F l ro rw tl tk (wpAny M A (eval value env) (KSi1 M A E env o i rest R) E)) (h1 : swapsWith value (some (.Subscript o i pos')) pos.line env = pure false) : At F l ro rw tl tk (wpAny M A (execs (.Assign [.Subscript o i pos'] value pos :: rest) env) R E) := .mk fun h S => zkn (k.go h S) h1
theorem At.setLast {a n t : Nat} {vs : List Value} {v x : Value} {rw' : LO} (hl : Led rw a (zaa (vs ++ [x]) n) (zaa (vs ++ [v]) n) rw') (hs : vs.length + 1 ≤ sizeLine) (k : At F l ro rw' tl tk (wpAny (Mo w) A (execs rest env) R E)) : At F l ro rw tl tk (KSi3 (Mo w) A E env rest R v (.ref a) (.int (-1) t)) :=
 .mk fun h S => zlm S hl hs fun h' S' => k.go h' S'
theorem At.itemLast {value slice : Expr} {a n t : Nat} {vs : List Value} {v : Value} (hm : (a, zaa (vs ++ [v]) n) ∈ rw) (hs : vs.length + 1 ≤ sizeLine) (k : At F l ro rw tl tk (Q v)) (hsub : subscripted slice false (.ref a) (.int (-1) t) = operate [.ref a, .int (-1) t] (getItem (.ref a) (.int (-1) t)) := by rfl) :
  At F l ro rw tl tk (wpAny (Mo w) A (subscriptTail value slice (.ref a) (.int (-1) t)) Q E) := .mk fun h S => zj6 S hm hs (k.go h S) hsub
theorem At.strI {a : Int} {t : Nat} (hh : A.handled = none) (G : Gd w F.uu) (hs : a.natAbs < 10 ^ 9) (k : At F l ro rw tl (tk + 1) (Q (.str (ofString (toString a)) tk))) : At F l ro rw tl tk (wpAny (Mo w) A (call (.type "str") [.int a t]) Q E) := .mk fun h S => zdr hh G S.inv hs (k.go h S)
theorem At.modI {a b : Int} {t u : Nat} (hb : b ≠ 0) (k : At F l ro rw tl (tk + 1) (Q (.int (a.fmod b) tk))) : At F l ro rw tl tk (wpAny (Mo w) A (binaryOp .Mod (.int a t) (.int b u)) Q E) := .mk fun h S => zlo hb (k.go h S)
theorem At.fdivI {a b : Int} {t u : Nat} (hb : b ≠ 0) (hs : b.natAbs < 2 ^ 30) (k : At F l ro rw tl (tk + 1) (Q (.int (a.fdiv b) tk))) : At F l ro rw tl tk (wpAny (Mo w) A (binaryOp .FloorDiv (.int a t) (.int b u)) Q E) := .mk fun h S => zj7 hb hs (k.go h S)
theorem At.itemT {value slice : Expr} {t : Nat} {us : List Value} {i : Int} {u j : Nat} {v : Value} (hm : (t, zac us) ∈ ro) (hi : i = j) (hv : us[j]? = some v) (hs : us.length < 1000) (k : At F l ro rw tl tk (Q v)) (hsub : subscripted slice false (.ref t) (.int i u) = operate [.ref t, .int i u] (getItem (.ref t) (.int i u)) := by rfl) :
  At F l ro rw tl tk (wpAny (Mo w) A (subscriptTail value slice (.ref t) (.int i u)) Q E) := .mk fun h S => o_itemT S hm hi hv hs (k.go h S) hsub
theorem At.grow {t : Nat} {vs us : List Value} {xss : List (List Scal)} {xs : List Scal} (hm : (t, zac us) ∈ ro) (hx : All2 Sc us xs) (k : At F l ro rw ((vs ++ [.ref t], xss ++ [xs]) :: tl) tk P) : At F l ro rw ((vs, xss) :: tl) tk P := .mk fun h S => k.go h (S.growTl hm hx)
theorem At.catW {a b n m : Nat} {us vs : List Value} (ha : (a, zaa us n) ∈ ro ∨ (a, zaa us n) ∈ rw) (hb : (b, zaa vs m) ∈ ro ∨ (b, zaa vs m) ∈ rw) (hs : us.length + vs.length ≤ sizeLine) (k : ∀ c, At F l ro ((c, zaa (us ++ vs)) :: rw) tl tk (Q (.ref c))) : At F l ro rw tl tk (wpAny (Mo w) A (binaryOp .Add (.ref a) (.ref b)) Q E) :=
 .mk fun h S => zmx S ha hb hs fun c h' S' => (k c).go h' S'
theorem At.tl0 (hr : ∀ p ∈ rw, p.2.cls ≠ .type "tuple") (k : At F l ro rw [([], [])] tk P) : At F l ro rw tl tk P := .mk fun h S => k.go h (S.setTl hr fun t ht => by rw [zS ht]; exact .nil)
@[reducible] def KAppT (M : Model) (A : Around) (E : VP) (T : String) (first : List Value) (Q : VP) (vs : List Value) : SP := wpAny M A (call (.type T) (first ++ vs)) Q E
theorem At.kcallT {T : String} {args : List Expr} (k : At F l ro rw tl tk (wpAny M A (spliced (backTo pos (starEach args env))) (KAppT M A E T [] Q) E)) (hp : (backTo pos (starEach args env)).any (·.1) = false) : At F l ro rw tl tk (zix M A E env pos args Q (.type T)) := .mk fun h S => cw_type (k.go h S) hp
end
theorem At.asgN {F : Fx} {w : World} {A : Around} {E : VP} {env : Env} {l : LS} {ro rw : LO} {tl : LT} {tk : Nat} {U : Unit → SP} {x : Str} {px : Pos} {v : Value} (k : At F ((x, v) :: l) ro rw tl (tk + 1) (U ())) (hk : env.scope.kind = .function := by rfl) (hl : env.kindOf x = some .local := by rfl) (hL : env.locals = F.L := by rfl) :
  At F l ro rw tl tk (wpAny (Mo w) A (assign (.Name x px) env v) U E) := .mk fun h S => wpAny_assign_Name (zcm S (fun h' S' => k.go h' S') hk hl hL)
section
variable {F : Fx} {M : Model} {P P' : SP}
variable {pos' : Pos} {kk : Nat} {R : Flow → SP} {B : Bool → SP} {U : Unit → SP} {body rest orelse : List Stmt}
theorem At.kforS {target : Expr} {x : Str} {t : Nat} (hh : A.handled = none) (C : CT) (hX : ∀ x, x ∉ F.X) (ha : (x.cps.all fun c => decide (c < 128)) = true) (h0 : C 0 l rw tl)
  (turn : ∀ i c tc l rw tl tk p, i < x.cps.size → x.cps[i]? = some c → C i l rw tl → At F l ro (p :: rw) tl tk (wpAny (Mo w) A (assign target env (.str ⟨#[c]⟩ tc)) (znn (Mo w) A env body (FlF F ro p C i (wpAny (Mo w) A (execs rest env) R E) R)) (fun j j => False)))
  (stop : ∀ l rw tl tk, C x.cps.size l rw tl → At F l ro rw tl tk (wpAny (Mo w) A (execs rest env) R E)) : At F l ro rw tl tk (KFor w A E env target body rest R (.str x t)) :=
 .mk fun h S => zlx S ha fun it h' io hio j S' => zf7 zky hh C (hX it) (fun j j j j j j => trivial) hio S' h0
  (fun i v l rw tl h tk io hlt hv c S => by
   obtain ⟨ch, tc, hc, rfl⟩ := hv
   exact zM ((turn i ch tc l rw tl tk (it, io) hlt hc c).go h S) (fun j s q => zM q (fun f s₃ q => by cases f <;> exact q) fun j j z => z) fun j j z => z) fun l rw tl h tk c S => x_nil ((stop l rw tl tk c).go h S)
theorem At.truS {x : Str} {t : Nat} (hs : (x.length : Int) < 9223372036854775808) (k : At F l ro rw tl (tk + 1 + 1) (B ((x.length : Int) != 0))) : At F l ro rw tl tk (KTru (Mo w) A E B (.str x t)) := .mk fun h S => zbr hs (k.go h S)
end
noncomputable def evC : Const → Nat → Option (Value × Nat)
 | .str x, tk => some (.str x tk, tk + 1)
 | .int i, tk => some (.int i tk, tk + 1)
 | .none, tk => some (.none, tk)
 | .bool b, tk => some (.bool b, tk)
 | _, _ => none
noncomputable def evN (k : Option NameKind) (b : Bool) (v : Option Value) (tk : Nat) : Option (Value × Nat) := match k with
 | some .local => (match b with
  | false => v.map fun v => (v, tk)
  | true => none)
 | _ => none
noncomputable def asI : Option (Value × Nat) → Option (Int × Nat)
 | some (.int x _, t) => some (x, t)
 | _ => none
noncomputable def evI (o : Int → Int → Int) (a : Option (Value × Nat)) (g : Nat → Option (Value × Nat)) : Option (Value × Nat) := match asI a with
 | some (x, t) => (match asI (g t) with
  | some (y, u) => some (.int (o x y) u, u + 1)
  | none => none)
 | none => none
noncomputable def evB (op : Operator) (a : Option (Value × Nat)) (g : Nat → Option (Value × Nat)) : Option (Value × Nat) := match op with
 | .Add => evI (· + ·) a g
 | .Sub => evI (· - ·) a g
 | _ => none
noncomputable def evU (op : UnaryOp) (a : Option (Value × Nat)) : Option (Value × Nat) := match op with
 | .USub => (match asI a with
  | some (x, t) => some (.int (-x) t, t + 1)
  | none => none)
 | _ => none
noncomputable def ev1 (env : Env) (l : LS) (f : Expr → Nat → Option (Value × Nat)) : Expr → Nat → Option (Value × Nat)
 | .Constant c _ _, tk => evC c tk
 | .Name x _, tk => evN (env.kindOf x) (x == ("__debug__" : Str)) (l.lookup x) tk
 | .BinOp a op b _, tk => evB op (f a tk) (f b)
 | .UnaryOp op a _, tk => evU op (f a tk)
 | _, _ => none
theorem nn {α : Type} {a : α} {P : Prop} (h : none = some a) : P := by cases h
theorem zgg {a : Option (Value × Nat)} {p : Int × Nat} (h : asI a = some p) : ∃ u, a = some (.int p.1 u, p.2) := by
 cases a with
 | none => exact nn h
 | some q =>
  obtain ⟨v, t⟩ := q
  cases v with
  | int x u => cases h; exact ⟨_, rfl⟩
  | _ => exact nn h
theorem zjn {o : Int → Int → Int} {a : Option (Value × Nat)} {g : Nat → Option (Value × Nat)} {r : Value × Nat} (h : evI o a g = some r) : ∃ x u t1 y u2 t2, a = some (.int x u, t1) ∧ g t1 = some (.int y u2, t2) ∧ r = (.int (o x y) t2, t2 + 1) := by
 unfold evI at h
 cases h1 : asI a with
 | none => rw [h1] at h; exact nn h
 | some p =>
  rw [h1] at h
  cases h2 : asI (g p.2) with
  | none => simp only [h2] at h; exact nn h
  | some q =>
   simp only [h2] at h
   obtain ⟨u, e1⟩ := zgg h1
   obtain ⟨u2, e2⟩ := zgg h2
   exact ⟨_, _, _, _, _, _, e1, e2, (Option.some.inj h).symm⟩
noncomputable def evE (env : Env) (l : LS) : Nat → Expr → Nat → Option (Value × Nat)
 | 0 => fun _ _ => none
 | n + 1 => ev1 env l (evE env l n)
noncomputable def evL (env : Env) (l : LS) (n : Nat) : List Expr → Nat → Option (List Value × Nat)
 | [], tk => some ([], tk)
 | e :: es, tk => (evE env l n e tk).bind fun p => (evL env l n es p.2).bind fun q => some (p.1 :: q.1, q.2)
theorem evE_star {env : Env} {l : LS} {a : Expr} {p : Pos} {tk : Nat} : ∀ {n : Nat}, evE env l n (.Starred a p) tk = none
 | 0 => rfl
 | _ + 1 => rfl
structure Fn (env : Env) (F : Fx) : Prop where
 hk : env.scope.kind = .function
 hL : env.locals = F.L
 hG : env.globals = 3
 hB : env.builtins = 0
section
variable {F : Fx}
theorem At.ev (N : Fn env F) : ∀ {n : Nat} {e : Expr} {tk : Nat} {v : Value} {tk' : Nat} {Q : VP}, evE env l n e tk = some (v, tk') → At F l ro rw tl tk' (Q v) → At F l ro rw tl tk (wpAny (Mo w) A (eval e env) Q E) := by
 intro n
 induction n with
 | zero => intro e tk v tk' Q h; exact nn h
 | succ n ih =>
  intro e tk v tk' Q h k
  cases e with
  | Constant c kk pos => cases c with
   | str x => cases h; exact At.str k
   | int i => cases h; exact At.int k
   | none => cases h; exact At.lift (fun j => k_none) k
   | bool b => cases h; exact At.lift (fun j => k_bool) k
   | _ => exact nn h
  | Name x pos =>
   have h : evN (env.kindOf x) (x == ("__debug__" : Str)) (l.lookup x) tk = some (v, tk') := h
   cases e1 : env.kindOf x with
   | none => rw [e1] at h; exact nn h
   | some kd =>
    rw [e1] at h
    cases kd with
    | «local» =>
     cases e2 : (x == ("__debug__" : Str)) with
     | true => rw [e2] at h; exact nn h
     | false =>
      rw [e2] at h
      cases e3 : l.lookup x with
      | none => rw [e3] at h; exact nn h
      | some v' => rw [e3] at h; cases h; exact At.loc e3 k N.hk e1 N.hL e2
    | _ => exact nn h
  | BinOp a op b pos => cases op with
   | Add =>
    obtain ⟨x, u, t1, y, u2, t2, e1, e2, e⟩ := zjn h
    cases e; exact At.bin (ih e1 (ih e2 (At.addI k)))
   | Sub =>
    obtain ⟨x, u, t1, y, u2, t2, e1, e2, e⟩ := zjn h
    cases e; exact At.bin (ih e1 (ih e2 (At.subI k)))
   | _ => exact nn h
  | UnaryOp op a pos => cases op with
   | USub =>
    have h : (match asI (evE env l n a tk) with
     | some (x, t) => some (Value.int (-x) t, t + 1)
     | none => none) = some (v, tk') := h
    cases h1 : asI (evE env l n a tk) with
    | none => rw [h1] at h; exact nn h
    | some p =>
     rw [h1] at h
     obtain ⟨u, e1⟩ := zgg h1
     cases h; exact At.un (ih e1 (At.negI k))
   | _ => exact nn h
  | _ => exact nn h
theorem At.evL (N : Fn env F) {n : Nat} {pos : Pos} : ∀ {es : List Expr} {tk : Nat} {vs : List Value} {tk' : Nat} {T : List Value → SP}, Mine.evL env l n es tk = some (vs, tk') → At F l ro rw tl tk' (T vs) → At F l ro rw tl tk (wpAny (Mo w) A (spliced (backTo pos (starEach es env))) T E) := by
 intro es
 induction es with
 | nil => intro tk vs tk' T h k; cases h; exact At.sp0 k
 | cons e es ih =>
  intro tk vs tk' T h k
  obtain ⟨p, e1, h⟩ := Option.bind_eq_some_iff.mp h
  obtain ⟨q, e2, h⟩ := Option.bind_eq_some_iff.mp h
  cases h
  refine At.sp (At.ev N e1 (ih e2 k)) ?_
  cases e <;> first | rfl | exact nn (evE_star.symm.trans e1)
variable {t1 t2 n : Nat} {pos' : Pos} {R : Flow → SP} {B : Bool → SP} {T : List Value → SP} {e a b value slice : Expr} {v v1 v2 : Value} {rest : List Stmt} {args elts : List Expr} {x : Str} {c : Bool} {op : CmpOp}
theorem At.ev12 (N : Fn env F) (h : evE env l 12 e tk = some (v, t1)) (k : At F l ro rw tl t1 (Q v)) : At F l ro rw tl tk (wpAny (Mo w) A (eval e env) Q E) := At.ev N h k
theorem At.evL12 (N : Fn env F) (h : Mine.evL env l 12 elts tk = some (vs, t1)) (k : At F l ro rw tl t1 (T vs)) : At F l ro rw tl tk (wpAny (Mo w) A (spliced (backTo pos (starEach elts env))) T E) := At.evL N h k
theorem At.asgE (N : Fn env F) (h : evE env l 12 e tk = some (v, t1)) (hl : env.kindOf x = some .local) (hs : swapsWith e (some (.Name x pos')) pos.line env = pure false) (k : At F ((x, v) :: l) ro rw tl (t1 + 1) (wpAny (Mo w) A (execs rest env) R E)) : At F l ro rw tl tk (wpAny (Mo w) A (execs (.Assign [.Name x pos'] e pos :: rest) env) R E) :=
 At.asg (At.ev N h (At.kst k N.hk hl N.hL)) hs
theorem At.fn {M : Model} {ss : List Stmt} (hk : env.scope.kind = .function) (hL : env.locals = F.L) (hG : env.globals = 3) (hB : env.builtins = 0) (k : Fn env F → At F l ro rw tl tk (wpAny M A (execs ss env) R E)) : At F l ro rw tl tk (wpAny M A (execs ss env) R E) := k ⟨hk, hL, hG, hB⟩
theorem At.kstE (N : Fn env F) (h : env.kindOf x = some .local) (k : At F ((x, v) :: l) ro rw tl (tk + 1) (wpAny (Mo w) A (execs rest env) R E)) : At F l ro rw tl tk (KSt (Mo w) A E env x rest R v) := At.kst k N.hk h N.hL
theorem At.ksp1E (N : Fn env F) (h : Mine.evL env l 12 elts tk = some (vs, t1)) (k : At F l ro rw tl t1 (T (v :: vs))) : At F l ro rw tl tk (KSp1 (Mo w) A E env pos elts T v) := At.evL N h k
theorem At.subE (N : Fn env F) (h1 : evE env l 12 value tk = some (v1, t1)) (h2 : evE env l 12 slice t1 = some (v2, t2)) (k : At F l ro rw tl t2 (wpAny (Mo w) A (subscriptTail value slice v1 v2) Q E)) : At F l ro rw tl tk (wpAny (Mo w) A (eval (.Subscript value slice pos) env) Q E) := At.sub (At.ev N h1 (At.ev N h2 k))
end
def KMs (w : World) (A : Around) (E : VP) (env : Env) (pos : Pos) (id : String) (args : List Expr) (Q : VP) (ov : Value) (s : Shared) : Prop := ∃ x t, ov = .str x t ∧ wpAny (Mo w) A (callWith pos (.builtin id) [ov] (backTo pos (starEach args env)) []) Q E s
section
variable {F : Fx} {M : Model} {n : Nat} {pos' : Pos} {args : List Expr} {P P' : SP} {c : Bool} {R : Flow → SP} {rest : List Stmt}
theorem At.brF (h : c = false) (k : At F l ro rw tl tk P') : At F l ro rw tl tk (Br P P' c) := by subst h; exact At.iteF k
theorem At.brT (h : c = true) (k : At F l ro rw tl tk P) : At F l ro rw tl tk (Br P P' c) := by subst h; exact At.iteT k
theorem At.ifF (h : c = false) (k : At F l ro rw tl tk P') : At F l ro rw tl tk (fun s => if c = true then P s else P' s) := .mk fun hh S => by subst h; exact k.go hh S
theorem At.ifT (h : c = true) (k : At F l ro rw tl tk P) : At F l ro rw tl tk (fun s => if c = true then P s else P' s) := .mk fun hh S => by subst h; exact k.go hh S
def EndP (F : Fx) (l : LS) (ro rw : LO) (tl : LT) (R : Value → Prop) (v : Value) (s : Shared) : Prop := ∃ tk h, R v ∧ s = ⟨h, F.g, F.d, tk, F.os⟩ ∧ St F.uu F.ww F.X F.vv F.L l ro rw tl h
theorem At.val {t : Sem Value} (R : Value → Prop) (k : At F l ro rw tl tk (wpAny M A t (EndP F l ro rw tl R) E)) (q : ∀ v tk, R v → At F l ro rw tl tk (Q v)) : At F l ro rw tl tk (wpAny M A t Q E) :=
 .mk fun h S => zM (k.go h S) (fun v s z => by obtain ⟨tk, h, a, rfl, S⟩ := z; exact (q _ _ a).go h S) fun j j z => z
theorem At.endP {R : Value → Prop} {v : Value} (h : R v) : At F l ro rw tl tk (EndP F l ro rw tl R v) := .mk fun h' S => ⟨_, _, h, rfl, S⟩
def EndR (F : Fx) (l : LS) (ro rw : LO) (tl : LT) (R : Obj → Prop) (v : Value) (s : Shared) : Prop := ∃ a o tk h, R o ∧ v = .ref a ∧ s = ⟨h, F.g, F.d, tk, F.os⟩ ∧ St F.uu F.ww F.X F.vv F.L l ((a, o) :: ro) rw tl h
theorem At.valR {t : Sem Value} (R : Obj → Prop) (k : At F l ro rw tl tk (wpAny M A t (EndR F l ro rw tl R) E)) (q : ∀ a o tk, R o → At F l ((a, o) :: ro) rw tl tk (Q (.ref a))) : At F l ro rw tl tk (wpAny M A t Q E) :=
 .mk fun h S => zM (k.go h S) (fun v s z => by obtain ⟨a, o, tk, h, r, rfl, rfl, S⟩ := z; exact (q _ _ _ r).go h S) fun j j z => z
theorem At.endR {R : Obj → Prop} {a : Nat} {o : Obj} (h : R o) : At F l ((a, o) :: ro) rw tl tk (EndR F l ro rw tl R (.ref a)) := .mk fun h' S => ⟨_, _, _, _, h, rfl, rfl, S⟩
theorem At.mstr {o : Expr} {name : Str} {id : String} (hs : Slot "str" name id) (ht : typeOf (.builtin id) = pure (.type "method_descriptor")) (k : At F l ro rw tl tk (wpAny (Mo w) A (eval o env) (KMs w A E env pos id args Q) E)) (h1 : attributeBase o name env (eval o env) = eval o env)
  (h2 : ((backTo pos (starEach args env)).all (fun x => !x.1) && (backToKw pos (keywordEach [] env)).all (fun x => x.1.isSome) && decide (args.length + ([] : List Keyword).length + (if ([] : List Keyword).isEmpty then 0 else 1) < 30)) = true) (h3 : (apos.endLine == pos.line) = true) :
  At F l ro rw tl tk (wpAny (Mo w) A (eval (.Call (.Attribute o name apos) args [] pos) env) Q E) := .mk fun h S => zeb (x := name) (t := 0) (k.go h S) hs ht h1 h2 h3
theorem At.kms {x : Str} {t : Nat} {id : String} (k : At F l ro rw tl tk (wpAny (Mo w) A (spliced (backTo pos (starEach args env))) (KApp (Mo w) A E id [.str x t] Q) E)) (hp : (backTo pos (starEach args env)).any (·.1) = false) : At F l ro rw tl tk (KMs w A E env pos id args Q (.str x t)) := .mk fun h S => ⟨_, _, rfl, za3 (k.go h S) hp⟩
def KXt1 (w : World) (A : Around) (E : VP) (env : Env) (e : Expr) (rest : List Stmt) (R : Flow → SP) (ov : Value) (s : Shared) : Prop := OnList s ov fun a => wpAny (Mo w) A (eval e env) (fun v s₂ => wpAny (Mo w) A (call (.builtin "list.extend") [.ref a, v]) (fun r s₃ => r = .none ∧ wpAny (Mo w) A (execs rest env) R E s₃) E s₂) E s
def KXt2 (w : World) (A : Around) (E : VP) (env : Env) (rest : List Stmt) (R : Flow → SP) (a : Nat) (v : Value) (s : Shared) : Prop := wpAny (Mo w) A (call (.builtin "list.extend") [.ref a, v]) (fun r s₃ => r = .none ∧ wpAny (Mo w) A (execs rest env) R E s₃) E s
theorem At.xtnd {o e : Expr} (k : At F l ro rw tl tk (wpAny (Mo w) A (eval o env) (KXt1 w A E env e rest R) E)) (h1 : attributeBase o (ofString "extend") env (eval o env) = eval o env) (h3 : (apos.endLine == pos.line) = true) (h4 : starEach [e] env = [(false, eval e env)]) (h5 : interactive env = false)
  (h6 : swapsWith (.Call (.Attribute o (ofString "extend") apos) [e] [] pos) none pos'.line env = pure false) : At F l ro rw tl tk (wpAny (Mo w) A (execs (.Expr (.Call (.Attribute o (ofString "extend") apos) [e] [] pos) pos' :: rest) env) R E) := .mk fun h S => x_extend (k.go h S) h1 h3 h4 h5 h6
theorem At.kxt1 {e : Expr} {a m : Nat} {vs : List Value} (hm : (a, zaa vs m) ∈ ro ∨ (a, zaa vs m) ∈ rw) (k : At F l ro rw tl tk (wpAny (Mo w) A (eval e env) (KXt2 w A E env rest R a) E)) : At F l ro rw tl tk (KXt1 w A E env e rest R (.ref a)) := .mk fun h S => OnList.go S hm (k.go h S)
theorem At.kxt2 {a b n m : Nat} {us vs : List Value} {rw' : LO} (hl : Led rw a (zaa us n) (zaa (us ++ vs) (n + 1)) rw') (hb : (b, zaa vs m) ∈ ro ∨ (b, zaa vs m) ∈ rw) (hne : vs ≠ []) (hs : us.length + vs.length ≤ 1000000) (k : At F l ro rw' tl tk (wpAny (Mo w) A (execs rest env) R E)) : At F l ro rw tl tk (KXt2 w A E env rest R a (.ref b)) :=
 .mk fun h S => o_extend S hl hb hne hs fun h' S' => ⟨rfl, k.go h' S'⟩
theorem At.index {x y : Str} {t u : Nat} {i : Int} (hh : A.handled = none) (hk : Txt.find x y = i) (h0 : 0 ≤ i) (k : At F l ro rw tl (tk + 1) (Q (.int i tk))) : At F l ro rw tl tk (wpAny (Mo w) A (call (.builtin "str.index") [.str x t, .str y u]) Q E) := .mk fun h S => o_index hh hk h0 (k.go h S)
theorem At.itemS {value slice : Expr} {x : Str} {t u c : Nat} (hc : x.cps[0]? = some c) (hs : x.length ≤ 1000000) (k : At F l ro rw tl (tk + 1) (Q (.str ⟨#[c]⟩ tk)))
  (h1 : subscripted slice false (.str x t) (.int 0 u) = operate [.str x t, .int 0 u] (getItem (.str x t) (.int 0 u)) := by rfl) (h2 : ∀ r, letTemporaryGo value (.str x t) r = pure () := by intro _; rfl) : At F l ro rw tl tk (wpAny (Mo w) A (subscriptTail value slice (.str x t) (.int 0 u)) Q E) := .mk fun h S => o_itemS hc hs (k.go h S) h1 h2
end
theorem At.hide {w : World} {A : Around} {E : VP} {env : Env} {l : LS} {ro rw : LO} {tl : LT} {tk n : Nat} {uu ww h : Heap} {X : List Nat} {vv : List Env} {L : Nat} {g : Array GenState} {d : Drawn} {os : OsState} {ss : List Stmt} {R0 : Flow → SP}
  (S : St uu ww X vv L l ro rw tl h) (G : Gd w uu) (P : Rm A (env :: vv) n) (hk : env.scope.kind = .function) (hL : env.locals = L) (hG : env.globals = 3) (hB : env.builtins = 0)
  (k : ∀ (F : Fx) (A' : Around) (R : Flow → SP), F = ⟨uu, ww, X, vv, L, g, d, os⟩ → R = R0 → Gd w F.uu → Fn env F → Rm A' (env :: F.vv) n → At F l ro rw tl tk (wpAny (Mo w) A' (execs ss env) R E)) :
  wpAny (Mo w) A (execs ss env) R0 E ⟨h, g, d, tk, os⟩ := (k _ _ _ rfl rfl G ⟨hk, hL, hG, hB⟩ P).go h S
section
variable {F : Fx} {v : Value} {U : Unit → SP}
theorem At.stN {x : Str} (N : Fn env F) (hl : env.kindOf x = some .local) (k : At F ((x, v) :: l) ro rw tl (tk + 1) (U ())) : At F l ro rw tl tk (wpAny (Mo w) A (storeName env x v) U E) := .mk fun h S => zcm S (fun h' S' => k.go h' S') N.hk hl N.hL
theorem At.asn {x : Str} {px : Pos} (hl : env.kindOf x = some .local) (N : Fn env F) (k : At F ((x, v) :: l) ro rw tl (tk + 1) (U ())) : At F l ro rw tl tk (wpAny (Mo w) A (assign (.Name x px) env v) U E) := .mk fun h S => wpAny_assign_Name (zcm S (fun h' S' => k.go h' S') N.hk hl N.hL)
theorem At.locN {x : Str} (N : Fn env F) (hv : l.lookup x = some v) (k : At F l ro rw tl tk (Q v)) (hl : env.kindOf x = some .local) (hd : (x == ("__debug__" : Str)) = false) : At F l ro rw tl tk (wpAny (Mo w) A (eval (.Name x pos) env) Q E) := .mk fun h S => zij S hv (k.go h S) N.hk hl N.hL hd
end
theorem At.isN {F : Fx} {M : Model} {A : Around} {E : VP} {env : Env} {l : LS} {ro rw : LO} {tl : LT} {tk : Nat} {pos : Pos} {x : Str} {whole : Sem Value} {B : Bool → SP} (k : At F l ro rw tl tk (wpAny M A whole (KTru M A E B) E)) : At F l ro rw tl tk (wpAny M A (PySem.isTrue (.Name x pos) env whole) B E) := .mk fun h S => wpAny_isTrue_value (k.go h S)
inductive WC (ps : List Part) (vs : List Value) (first : Str) : CT
 | mk {l : LS} (i aW aG : Nat) (vp : List Value) (t : Nat) (vg : List Value) (nW nG : Nat) (k1 : l.lookup (ofString "words") = some (.ref aW)) (k2 : l.lookup (ofString "gaps") = some (.ref aG))
  (hpre : StrsAre vp (wfold first ((ps.drop 1).take i)).pre) (hgaps : IntsAre vg (wfold first ((ps.drop 1).take i)).gaps) (b1 : (wfold first ((ps.drop 1).take i)).last.length ≤ 10 + 11 * i) (b2 : (wfold first ((ps.drop 1).take i)).pre.length ≤ i) (b3 : (wfold first ((ps.drop 1).take i)).gaps.length ≤ i + 1) :
  WC ps vs first i l [(aG, zaa vg nG), (aW, zaa (vp ++ [.str (wfold first ((ps.drop 1).take i)).last t]) nW)] [(vs, ps.map Part.sc)]
theorem endWC {ps : List Part} {vs : List Value} {first : Str} {i : Nat} {st : Wst} {l : LS} {aW aG t nW nG : Nat} {vp vg : List Value} (e : st = wfold first ((ps.drop 1).take (i + 1))) (k1 : l.lookup (ofString "words") = some (.ref aW)) (k2 : l.lookup (ofString "gaps") = some (.ref aG))
  (hpre : StrsAre vp st.pre) (hgaps : IntsAre vg st.gaps) (b1 : st.last.length ≤ 10 + 11 * (i + 1)) (b2 : st.pre.length ≤ i + 1) (b3 : st.gaps.length ≤ i + 1 + 1) : WC ps vs first (i + 1) l [(aG, zaa vg nG), (aW, zaa (vp ++ [.str st.last t]) nW)] [(vs, ps.map Part.sc)] := by
 subst e
 exact .mk _ _ _ _ _ _ _ _ k1 k2 hpre hgaps b1 b2 b3
section
theorem c_words {first : Str} {t0 : Nat} {p pn : Nat} {vs : List Value} {ps : List Part} {Q : VP} (G : Gd w uu) (W : Wd uu vv h) (P : Rm A vv 20)
  (hp : h.get? p = some (zaa vs pn)) (hF : p ∉ zab vv) (hT : ¬ za9 p) (hps : Tps h vs (ps.map Part.sc)) (hv : ps.length ≤ 10) (hlen : ∀ q ∈ ps, q.sp.length ≤ 10) (h1 : first.length ≤ 10)
  (hq : ∀ (t aW aG nW nG : Nat) (vW vG : List Value) h' tk', Ret uu vv h h' → h'.get? t = some (zac [.ref aW, .ref aG]) → h.get? aW = none → h.get? aG = none → aW ≠ aG →
   h'.get? aW = some (zaa vW nW) → h'.get? aG = some (zaa vG nG) → StrsAre vW ((wfold first (ps.drop 1)).pre ++ [(wfold first (ps.drop 1)).last]) → IntsAre vG (wfold first (ps.drop 1)).gaps → Q (.ref t) ⟨h', g, d, tk', os⟩) :
  wpAny (Mo w) A (call (.ref 246) [.str first t0, .ref p]) Q E ⟨h, g, d, tk, os⟩ := by
 refine zm4 (binds := [(ofString "first", .str first t0), (ofString "parts", .ref p)]) G W P (G.get W.inv (a := 246) rfl) rfl rfl rfl rfl ⟨_, _, _, _, rfl, G.get W.inv (a := 245) rfl, rfl, rfl⟩ rfl (by decide) (zba rfl) (zP ⟨rfl, rfl⟩) ?_
 intro L h₁ tk₁ S0 R
 have S1 := S0.entry hp hF (fun h => nomatch h) hT (fun q hq => nomatch hq)
 have S := S1.addTl (fun j h => nomatch h) (hps.keeps S1.keep)
 clear S0 S1
 refine At.hide S G R rfl rfl rfl rfl fun F A' R0 hF hR G N R => ?_
 have nX : ∀ x, x ∉ F.X := by rw [hF]; exact fun j => List.not_mem_nil
 have lps := hps.length
 clear S W P hp hT hps
 refine At.lift (fun j q => zhz R.handled q (by rfl) (by rfl) (by rfl)) ?_
 walk_at "Ev"
 refine At.sliceL (by walk_at "either") (by walk_at "mem") (.int _ _) .none ?_ (zcs _) ?_
 ·have := lps; simp at this; show vs.length ≤ sizeLine; exact om342 hv (by assumption)
 intro b
 refine At.kfor R.handled (WC ps vs first) nX (.head _) (.mk _ _ _ [] _ _ _ _ (by walk_at "lk") (by walk_at "lk") .nil (.cons _ _ .nil) h1 (Ze _) (Ze _)) ?_ ?_
 ·intro i v l rw tl tk p hvi C
  cases C with
  | mk _ aW aG vp t vg nW nG hlW hlG hpre hgaps b1 b2 b3 =>
  refine At.openT (.head _) (i := 1 + i) (by rw [← List.getElem?_drop]; exact hvi) fun ta tvs xs ev hx hsc => ?_
  subst ev
  obtain ⟨q, hqi, rfl⟩ : ∃ q, (ps.drop 1)[i]? = some q ∧ q.sc = xs := by
   rw [List.getElem?_drop]
   rw [List.getElem?_map] at hx
   cases e : ps[1 + i]? with
   | none => rw [e] at hx; cases hx
   | some q => rw [e] at hx; exact ⟨q, rfl, Option.some.inj hx⟩
  obtain ⟨t1, v2, t3, rfl, hv2⟩ := zdc hsc
  have hqm : q ∈ ps := List.mem_of_mem_drop (zR hqi)
  have hlq := hlen q hqm
  have hi : i < 10 := by have := (List.getElem?_eq_some_iff.mp hqi).1; simp at this; exact om343 hv this
  have lp : vp.length ≤ i := by rw [hpre.length]; exact b2
  have lg : vg.length ≤ i + 1 := by rw [hgaps.length]; exact b3
  have hst' : wfold first ((ps.drop 1).take (i + 1)) = wstep (wfold first ((ps.drop 1).take i)) q := by
   rw [List.take_add_one, hqi]
   simp [wfold]
  generalize hst : wfold first ((ps.drop 1).take i) = st at *
  refine At.tuple3 R.handled (.head _) ?_ N.hk rfl rfl rfl N.hL
  walk_at "Ev"
  refine At.itemLast (by walk_at "mem") (by exact zlg hi lp) ?_
  walk_at "Ev"
  refine At.addS ?_ (by exact om345 hi b1)
  intro _ _
  walk_at "Ev"
  refine At.setLast (by walk_at "led") (by exact zlg hi lp) ?_
  refine At.ifN ?_
  walk_at "Ev"
  refine At.ite (fun hg => ?_) (fun hg => ?_)
  ·rw [show wstep st q = ⟨st.pre ++ [st.last ++ ofString "."], ofString "" ++ q.sp, st.gaps ++ [q.gap]⟩ from zH hg] at hst'
   walk_at "Ev"
   refine At.kap2 (by walk_at "led") (by simp; exact zlg hi lp) ?_
   walk_at "Ev"
   refine At.kap2 (by walk_at "led") (by exact om346 hi lg) ?_
   walk_at "Ev"
   refine At.itemLast (by walk_at "mem") (by simp; exact om347 hi lp) ?_
   walk_at "Ev"
   refine At.addS ?_ (by exact om348 hlq)
   intro _ _
   walk_at "Ev"
   refine At.setLast (by walk_at "led") (by simp; exact om347 hi lp) ?_
   walk_at "Ev"
   refine At.drop (.cons _ (List.Sublist.refl _)) (List.Sublist.refl _) ?_
   refine At.endF ?_
   refine endWC hst'.symm (by walk_at "lk") (by walk_at "lk") (hpre.append' (.cons _ _ .nil)) (hgaps.append (.cons _ _ .nil)) ?_ ?_ ?_
   ·rw [Str.length_append]; exact om349 hlq
   ·simp; exact om50 b2
   ·simp; exact om350 b3
  ·rw [show wstep st q = ⟨st.pre, (st.last ++ ofString ".") ++ q.sp, st.gaps⟩ from zG hg] at hst'
   walk_at "Ev"
   refine At.itemLast (by walk_at "mem") (by exact zlg hi lp) ?_
   walk_at "Ev"
   refine At.addS ?_ (by rw [Str.length_append]; exact om351 hlq hi b1)
   intro _ _
   walk_at "Ev"
   refine At.setLast (by walk_at "led") (by exact zlg hi lp) ?_
   walk_at "Ev"
   refine At.drop (.cons _ (List.Sublist.refl _)) (List.Sublist.refl _) ?_
   refine At.endF ?_
   refine endWC hst'.symm (by walk_at "lk") (by walk_at "lk") hpre hgaps ?_ (Nat.le_succ_of_le b2) (Nat.le_succ_of_le b3)
   rw [Str.length_append, Str.length_append]; exact om352 hlq b1
 ·intro l rw tl tk C
  have eL : (ps.drop 1).take (vs.drop 1).length = ps.drop 1 := by
   have := lps
   simp at this
   apply Zh
   simp; exact om353 this
  cases C with
  | mk _ aW aG vp t vg nW nG hlW hlG hpre hgaps b1 b2 b3 =>
  rw [eL] at *
  walk_at "Ev"
  refine .mk fun hu Su => ?_
  subst hF hR
  have n1 := Su.newW (a := aG) (.head _)
  have n2 := Su.newW (a := aW) (.tail _ (.head _))
  have nd := Su.nd
  simp at nd
  exact hq _ _ _ _ _ _ _ _ _ Su.ret (Su.hro _ (.head _)).1 n2.1 n1.1 (fun e => nd e.symm) n2.2 n1.2 (hpre.append' (.cons _ _ .nil)) hgaps
end
noncomputable def zao (n : Int) : Str := Txt.mul (ofString " ") n
noncomputable def zaf (room : Int) : List (Int × Str) → Str → Str × List (Int × Str)
 | [], row => (row, [])
 | (g, w) :: r, row => if (row.length : Int) + g + w.length ≤ room then zaf room r ((row ++ zao g) ++ w) else (row, (g, w) :: r)
theorem zbt (room : Int) : ∀ (z : List (Int × Str)) (row : Str), (zaf room z row).2.length ≤ z.length
 | [], row => Ze _
 | (g, w) :: r, row => by
  unfold zaf
  split
  ·exact Nat.le_succ_of_le (zbt room r _)
  ·exact Ze _
noncomputable def rowsF (width : Int) : Nat → List (Int × Str) → Int → List Str
 | 0, _, _ => []
 | _ + 1, [], _ => []
 | n + 1, (g, w) :: r, room => (zaf room r (zao g ++ w)).1 :: rowsF width n (zaf room r (zao g ++ w)).2 width
noncomputable def zbn (width : Int) (z : List (Int × Str)) (room : Int) : List Str := rowsF width z.length z room
theorem zi7 (width : Int) : ∀ (n m : Nat) (z : List (Int × Str)) (room : Int), z.length ≤ n → z.length ≤ m → rowsF width n z room = rowsF width m z room
 | 0, 0, _, _, _, _ => rfl
 | 0, _ + 1, [], _, _, _ => rfl
 | 0, _ + 1, _ :: _, _, h, _ => absurd h (Nat.not_succ_le_zero _)
 | _ + 1, 0, [], _, _, _ => rfl
 | _ + 1, 0, _ :: _, _, _, h => absurd h (Nat.not_succ_le_zero _)
 | _ + 1, _ + 1, [], _, _, _ => rfl
 | n + 1, m + 1, (g, w) :: r, room, h1, h2 =>
  congrArg (fun t => (zaf room r (zao g ++ w)).1 :: t) (zi7 width n m _ width (zT (zbt room r _) (Nat.le_of_succ_le_succ h1)) (zT (zbt room r _) (Nat.le_of_succ_le_succ h2)))
theorem ze0 {width room : Int} : zbn width [] room = [] := rfl
theorem zay {width room g : Int} {w : Str} {r : List (Int × Str)} : zbn width ((g, w) :: r) room = (zaf room r (zao g ++ w)).1 :: zbn width (zaf room r (zao g ++ w)).2 width :=
 congrArg (fun t => (zaf room r (zao g ++ w)).1 :: t) (zi7 width r.length _ _ width (zbt room r _) (Ze _))
noncomputable def zak (ws : List Str) (gs : List Int) (head width : Int) : List Str :=
 if 0 < head ∧ width - head < ((ws.head?.map Str.length).getD 0 : Int) then ofString "" :: zbn width ((1 :: gs.tail).zip ws) width else zbn width (gs.zip ws) (width - head)
theorem zdu {vs : List Value} {ns : List Int} (h : IntsAre vs ns) : ∀ {i : Nat} {n : Int}, ns[i]? = some n → ∃ t, vs[i]? = some (.int n t) := by
 induction h with
 | nil => intro i n e; simp at e
 | cons n t _ ih =>
  intro i m e
  cases i with
  | zero => simp at e; subst e; exact ⟨_, rfl⟩
  | succ i => simpa using ih (by simpa using e)
theorem zbj {vs : List Value} {ns : List Str} (h : StrsAre vs ns) : ∀ {i : Nat} {n : Str}, ns[i]? = some n → ∃ t, vs[i]? = some (.str n t) := by
 induction h with
 | nil => intro i n e; simp at e
 | cons n t _ ih =>
  intro i m e
  cases i with
  | zero => simp at e; subst e; exact ⟨_, rfl⟩
  | succ i => simpa using ih (by simpa using e)
theorem zfg {as : List Int} {ws : List Str} {f : Nat} {a : Int} {x : Str} (ha : as[f]? = some a) (hx : ws[f]? = some x) : (as.zip ws).drop f = (a, x) :: (as.zip ws).drop (f + 1) := by
 have : (as.zip ws)[f]? = some (a, x) := by rw [List.getElem?_zip_eq_some]; exact ⟨ha, hx⟩
 exact List.drop_eq_getElem?_toList_append.trans (by rw [this]; rfl)
set_option tactic.hygienic true in
theorem zce {n : Int} (h0 : 0 ≤ n) : ((zao n).length : Int) = n := by
 unfold zao Txt.mul
 split
 ·have : n = 0 := by exact om110 h0 (by assumption)
  subst this; rfl
 ·split
  ·rename_i h1 h2
   simp at h2
   rcases h2 with rfl | h2
   ·rfl
   ·exact absurd h2 (by decide)
  ·have key : ∀ k : Nat, (List.foldl (fun x1 x2 => x1 ++ x2) (#[] : Array Nat) (List.replicate k (ofString " ").cps)).size = k := by
    have gen : ∀ (k : Nat) (acc : Array Nat), (List.foldl (fun x1 x2 => x1 ++ x2) acc (List.replicate k (ofString " ").cps)).size = acc.size + k := by
     intro k
     induction k with
     | zero => intro acc; simp
     | succ k ih =>
      intro acc
      rw [List.replicate_succ, List.foldl_cons, ih]
      have : (ofString " ").cps.size = 1 := rfl
      rw [Array.size_append, this]; exact om107
    intro k
    rw [gen]; simp
   unfold Str.length
   rw [key]; exact om355 (by assumption)
inductive RJ (ws : List Str) (gs : List Int) (head width : Int) (aW nW : Nat) (vW : List Value) : LS → LO → LO → LT → Nat → Prop
 | mk {l : LS} {ro : LO} {tk : Nat} (aA nA : Nat) (vA : List Value) (as : List Int) (room : Int) (aR nR : Nat) (vR : List Value) (done : List Str) (t1 t2 t3 : Nat) (mW : (aW, zaa vW nW) ∈ ro) (mA : (aA, zaa vA nA) ∈ ro)
  (k1 : l.lookup (ofString "words") = some (.ref aW)) (k2 : l.lookup (ofString "ahead") = some (.ref aA)) (k3 : l.lookup (ofString "first") = some (.int 0 t1)) (k4 : l.lookup (ofString "room") = some (.int room t2)) (k5 : l.lookup (ofString "rows") = some (.ref aR))
  (k6 : l.lookup (ofString "width") = some (.int width t3)) (hA : IntsAre vA as) (hAl : as.length = ws.length) (hAb : ∀ x ∈ as, 0 ≤ x ∧ x ≤ 9) (hR : StrsAre vR done) (hdl : done.length ≤ 1) (hT : done ++ zbn width (as.zip ws) room = zak ws gs head width) :
  RJ ws gs head width aW nW vW l ro [(aR, zaa vR nR)] [] tk
inductive RC (ws : List Str) (as : List Int) (T : List Str) (width : Int) (aW aA aR : Nat) : CT
 | mk {l : LS} (f : Nat) (room : Int) (nR : Nat) (vR : List Value) (done : List Str) (t1 t2 t3 : Nat) (hf : f ≤ ws.length)
  (k1 : l.lookup (ofString "words") = some (.ref aW)) (k2 : l.lookup (ofString "ahead") = some (.ref aA)) (k3 : l.lookup (ofString "first") = some (.int f t1)) (k4 : l.lookup (ofString "room") = some (.int room t2)) (k5 : l.lookup (ofString "rows") = some (.ref aR))
  (k6 : l.lookup (ofString "width") = some (.int width t3)) (hR : StrsAre vR done) (hdl : done.length ≤ f + 1) (hT : done ++ zbn width ((as.zip ws).drop f) room = T) : RC ws as T width aW aA aR (ws.length - f) l [(aR, zaa vR nR)] []
inductive RI (ws : List Str) (as : List Int) (width room : Int) (f : Nat) (pr : Str × List (Int × Str)) (aW aA aR nR : Nat) (vR : List Value) : CT
 | mk {l : LS} (f' : Nat) (row : Str) (t1 t2 t3 t4 : Nat) (hf2 : f' ≤ ws.length) (hf3 : f + 1 ≤ f')
  (k1 : l.lookup (ofString "words") = some (.ref aW)) (k2 : l.lookup (ofString "ahead") = some (.ref aA)) (k3 : l.lookup (ofString "first") = some (.int f' t1)) (k4 : l.lookup (ofString "room") = some (.int room t2)) (k5 : l.lookup (ofString "rows") = some (.ref aR))
  (k6 : l.lookup (ofString "width") = some (.int width t3)) (k7 : l.lookup (ofString "row") = some (.str row t4)) (br : row.length ≤ 309 * f') (hin : zaf room ((as.zip ws).drop f') row = pr) : RI ws as width room f pr aW aA aR nR vR (ws.length - f') l [(aR, zaa vR nR)] []
section
theorem c_rows {aW nW aG nG : Nat} {vW vG : List Value} {ws : List Str} {gs : List Int} {head width : Int} {th tw : Nat} {Q : VP} (G : Gd w uu) (W : Wd uu vv h) (P : Rm A vv 20)
  (hW : h.get? aW = some (zaa vW nW)) (hWF : aW ∉ zab vv) (hWT : ¬ za9 aW) (hG : h.get? aG = some (zaa vG nG)) (hGF : aG ∉ zab vv) (hGT : ¬ za9 aG)
  (hws : StrsAre vW ws) (hgs : IntsAre vG gs) (hl : gs.length = ws.length) (hn : ws.length ≤ 20) (h0 : ws ≠ []) (hwl : ∀ x ∈ ws, x.length ≤ 300) (hgl : ∀ x ∈ gs, 0 ≤ x ∧ x ≤ 9)
  (hq : ∀ (t n : Nat) (vs : List Value) h' tk', Ret uu vv h h' → h.get? t = none → h'.get? t = some (zaa vs n) → StrsAre vs (zak ws gs head width) → Q (.ref t) ⟨h', g, d, tk', os⟩) :
  wpAny (Mo w) A (call (.ref 258) [.ref aW, .ref aG, .int head th, .int width tw]) Q E ⟨h, g, d, tk, os⟩ := by
 refine zm4 (binds := [(ofString "words", .ref aW), (ofString "gaps", .ref aG), (ofString "head", .int head th), (ofString "width", .int width tw)]) G W P (G.get W.inv (a := 258) rfl) rfl rfl rfl rfl ⟨_, _, _, _, rfl, G.get W.inv (a := 257) rfl, rfl, rfl⟩ rfl (by decide) (zba rfl) (zP ⟨rfl, rfl⟩) ?_
 intro L h₁ tk₁ S0 R
 have S1 := S0.entry hW hWF List.not_mem_nil hWT (fun q hq => nomatch hq)
 have S := S1.entry hG hGF List.not_mem_nil hGT (fun q hq => nomatch hq)
 clear S0 S1
 obtain ⟨w0, wr, ews⟩ : ∃ w0 wr, ws = w0 :: wr := by
  cases ws with
  | nil => exact absurd rfl h0
  | cons a b => exact ⟨a, b, rfl⟩
 obtain ⟨tw0, hv0⟩ : ∃ t, vW[0]? = some (.str w0 t) := by subst ews; cases hws; exact ⟨_, rfl⟩
 have hd0 : (ws.head?.map Str.length).getD 0 = w0.length := by rw [ews]; rfl
 have htl : IntsAre (vG.drop 1) gs.tail := by rw [← List.drop_one]; exact hgs.drop 1
 have hgt : (1 :: gs.tail).length = ws.length := by
  have : gs.length ≠ 0 := by rw [hl, ews]; simp
  rw [List.length_cons, List.length_tail]; exact om356 hl this
 have lW := hws.length
 have lG := hgs.length
 refine At.run S ?_
 refine At.lift (fun y q => x_four R.handled q (by rfl) (by rfl) (by rfl)) ?_
 walk_at "At"
 refine At.ifJ (RJ ws gs head width aW nW vW) ?_ ?_
 ·walk_at "At"
  refine At.ite (fun hh => ?_) (fun hh => ?_)
  ·walk_at "At"
   refine At.item (.inl (.tail _ (.head _))) (.inl rfl) (j := 0) hv0 (by exact om357 hn lW) ?_
   walk_at "At"
   have hw0 := hwl w0 (by rw [ews]; exact .head _)
   refine At.lenS (by exact om358 hw0) ?_
   walk_at "At"
   refine At.ite (fun hr => ?_) (fun hr => ?_)
   ·walk_at "At"
    refine At.lift (fun y q => by (with_reducible refine zkm R.handled q ?_ ?_ ?_) <;> rfl) ?_
    walk_at "At"
    refine At.sliceL (.inl (.tail _ (.head _))) (.head _) (.int _ _) .none (by exact om359 hl hn lG) (zcs _) ?_
    intro b
    walk_at "At"
    refine At.cat (by walk_at "either") (by walk_at "either") (by simp; exact om360 hl hn lG) ?_
    intro c
    walk_at "At"
    refine At.drop (List.Sublist.refl _) (.cons _ (.cons_cons _ (zO _))) ?_
    refine At.endJ (.mk _ _ _ (1 :: gs.tail) _ _ _ _ [ofString ""] _ _ _ (by walk_at "mem") (.head _) (by walk_at "lk") (by walk_at "lk") (by walk_at "lk") (by walk_at "lk") (by walk_at "lk") (by walk_at "lk") (IntsAre.append (.cons _ _ .nil) htl) hgt ?_ (.cons _ _ .nil) (by decide) ?_)
    ·intro x hx
     rcases zC hx with rfl | hx
     ·exact ⟨by decide, by decide⟩
     ·exact hgl x (List.mem_of_mem_tail hx)
    ·unfold zak
     rw [zH ⟨hh, by rw [hd0]; exact hr⟩]; rfl
   ·walk_at "At"
    refine At.endJ (.mk _ _ _ gs _ _ _ _ [] _ _ _ (.tail _ (.head _)) (.head _) (by walk_at "lk") (by walk_at "lk") (by walk_at "lk") (by walk_at "lk") (by walk_at "lk") (by walk_at "lk") hgs hl hgl .nil (by decide) ?_)
    unfold zak
    rw [zG (fun z => hr (by rw [hd0] at z; exact z.2))]; rfl
  ·walk_at "At"
   refine At.endJ (.mk _ _ _ gs _ _ _ _ [] _ _ _ (.tail _ (.head _)) (.head _) (by walk_at "lk") (by walk_at "lk") (by walk_at "lk") (by walk_at "lk") (by walk_at "lk") (by walk_at "lk") hgs hl hgl .nil (by decide) ?_)
   unfold zak
   rw [zG (fun z => hh z.1)]; rfl
 ·intro l ro rw tl tk J
  clear S hv0 hd0 htl hgt ews
  cases J with
  | mk aA nA vA as room aR nR vR done t1 t2 t3 mW mA k1 k2 k3 k4 k5 k6 hA hAl hAb hR hdl hT =>
  have lA := hA.length
  refine At.while (RC ws as (zak ws gs head width) width aW aA aR) ws.length (.mk 0 room nR vR done t1 t2 t3 (Nat.zero_le _) k1 k2 k3 k4 k5 k6 hR hdl hT) ?_
  clear k1 k2 k3 k4 k5 k6 hR hdl hT
  intro m l rw tl tk C
  cases C with
  | mk f room nR vR done t1 t2 t3 hf k1 k2 k3 k4 k5 k6 hR hdl hT =>
  walk_at "At"
  refine At.lenL (.inl mW) (by exact om361 hn lW) ?_
  walk_at "At"
  refine At.ite (fun hf' => ?_) (fun hf' => ?_)
  ·have hf' : f < ws.length := by exact om362 lW hf'
   obtain ⟨a, ha⟩ : ∃ a, as[f]? = some a := ⟨as[f], zI (by exact om363 lW hAl (by assumption))⟩
   obtain ⟨x, hx⟩ : ∃ x, ws[f]? = some x := ⟨ws[f], zI hf'⟩
   obtain ⟨ta, hva⟩ := zdu hA ha
   obtain ⟨tx, hvx⟩ := zbj hws hx
   have ba := hAb a (zR ha)
   have bx := hwl x (zR hx)
   have la := zce ba.1
   walk_at "At"
   refine At.item (.inl mA) (.inl rfl) (j := f) hva (by exact om364 hn hAl lA) ?_
   walk_at "At"
   refine At.mulS (mulOk_of 1 9 (zW rfl) (by exact om365 ba) (by exact om366 la) (by decide) (by decide)) ?_
   intro _ _
   walk_at "At"
   refine At.item (.inl mW) (.inl rfl) (j := f) hvx (by exact om357 hn lW) ?_
   walk_at "At"
   refine At.addS ?_ (by show (zao a).length + x.length ≤ sizeLine; exact om367 ba bx la)
   intro _ _
   walk_at "At"
   rw [zfg ha hx, zay] at hT
   generalize hin : zaf room ((as.zip ws).drop (f + 1)) (zao a ++ x) = pr at hT
   refine At.while (RI ws as width room f pr aW aA aR nR vR) (ws.length - (f + 1))
    (.mk (f + 1) (zao a ++ x) _ _ _ _ hf' (Ze _) (by walk_at "lk") (by walk_at "lk") (by walk_at "lk") (by walk_at "lk") (by walk_at "lk") (by walk_at "lk") (by walk_at "lk") (by rw [Str.length_append]; exact om368 ba bx la) hin) ?_
   intro m l rw tl tk C
   cases C with
   | mk f' row t1 t2 t3 t4 hf2 hf3 k1 k2 k3 k4 k5 k6 k7 br hin =>
   refine At.test (fun b => (b = true ∧ ∃ a x, as[f']? = some a ∧ ws[f']? = some x ∧ (row.length : Int) + a + x.length ≤ room) ∨ (b = false ∧ pr = (row, (as.zip ws).drop f'))) ?_ ?_
   ·walk_at "At"
    refine At.lenL (.inl mW) (by exact om361 hn lW) ?_
    walk_at "At"
    refine At.ite (fun hfn => ?_) (fun hfn => ?_)
    ·have hfn : f' < ws.length := by exact om362 lW hfn
     obtain ⟨a, ha⟩ : ∃ a, as[f']? = some a := ⟨as[f'], zI (by exact om363 lW hAl (by assumption))⟩
     obtain ⟨x, hx⟩ : ∃ x, ws[f']? = some x := ⟨ws[f'], zI hfn⟩
     obtain ⟨ta, hva⟩ := zdu hA ha
     obtain ⟨tx, hvx⟩ := zbj hws hx
     have bx := hwl x (zR hx)
     walk_at "At"
     refine At.lenS (by exact om369 hn lW br (by assumption)) ?_
     walk_at "At"
     refine At.item (.inl mA) (.inl rfl) (j := f') hva (by exact om364 hn hAl lA) ?_
     walk_at "At"
     refine At.item (.inl mW) (.inl rfl) (j := f') hvx (by exact om357 hn lW) ?_
     walk_at "At"
     refine At.lenS (by exact om358 bx) ?_
     walk_at "At"
     refine At.ite (fun hc => ?_) (fun hc => ?_)
     ·walk_at "At"
      exact At.endT (.inl ⟨rfl, a, x, ha, hx, hc⟩)
     ·refine At.endT (.inr ⟨rfl, ?_⟩)
      rw [← hin, zfg ha hx, zaf, zG hc]
    ·refine At.endT (.inr ⟨rfl, ?_⟩)
     have : (as.zip ws).drop f' = [] := by
      apply List.drop_eq_nil_of_le
      rw [List.length_zip]; exact om370 lW hfn
     rw [← hin, this, zaf]
   ·rintro b tk (⟨rfl, a, x, ha, hx, hc⟩ | ⟨rfl, hpr⟩)
    ·obtain ⟨ta, hva⟩ := zdu hA ha
     obtain ⟨tx, hvx⟩ := zbj hws hx
     have ba := hAb a (zR ha)
     have bx := hwl x (zR hx)
     have la := zce ba.1
     have hfn : f' < ws.length := (List.getElem?_eq_some_iff.mp hx).1
     walk_at "At"
     refine At.item (.inl mA) (.inl rfl) (j := f') hva (by exact om364 hn hAl lA) ?_
     walk_at "At"
     refine At.mulS (mulOk_of 1 9 (zW rfl) (by exact om365 ba) (by exact om366 la) (by decide) (by decide)) ?_
     intro _ _
     refine At.addS ?_ (by show row.length + (zao a).length ≤ sizeLine; exact om371 hn br ba la hfn)
     intro _ _
     walk_at "At"
     refine At.item (.inl mW) (.inl rfl) (j := f') hvx (by exact om357 hn lW) ?_
     walk_at "At"
     refine At.addS ?_ (by rw [Str.length_append]; show row.length + (zao a).length + x.length ≤ sizeLine; exact om372 hn br ba bx la hfn)
     intro _ _
     walk_at "At"
     refine At.endW (m' := ws.length - (f' + 1)) (by exact om1 hfn) (.mk (f' + 1) ((row ++ zao a) ++ x) _ _ _ _ hfn (by exact om373 hf3) (by walk_at "lk") (by walk_at "lk") (by walk_at "lk") (by walk_at "lk") (by walk_at "lk") (by walk_at "lk") (by walk_at "lk") (by rw [Str.length_append, Str.length_append]; exact om374 br ba bx la) ?_)
     rw [← hin, zfg ha hx, zaf, zH hc]
    ·subst hpr
     walk_at "At"
     refine At.kap2 (by walk_at "led") (by rw [hR.length]; exact om375 hn lW hdl (by assumption)) ?_
     walk_at "At"
     exact At.endW (m' := ws.length - f') (by exact om376 hf2 hf3) (.mk f' width _ _ (done ++ [row]) _ _ _ hf2 (by walk_at "lk") (by walk_at "lk") (by walk_at "lk") (by walk_at "lk") (by walk_at "lk") (by walk_at "lk") (hR.append' (.cons _ _ .nil)) (by simp; exact om377 hdl hf3) (by simpa using hT))
  ·walk_at "At"
   have e0 : (as.zip ws).drop f = [] := by
    apply List.drop_eq_nil_of_le
    rw [List.length_zip]; exact om370 lW hf'
   rw [e0, ze0, List.append_nil] at hT
   refine .mk fun h' S6 => ?_
   have n1 := S6.newW (a := aR) (.head _)
   exact hq _ _ _ _ _ S6.ret n1.1 n1.2 (hT ▸ hR)
end
noncomputable def zag (n : Int) : Str := ofString (toString n)
noncomputable def zaz (x : Int) : Part :=
 if x.fmod 6 < 3 then ⟨zag ((x.fdiv 18).fmod 1000), some ((x.fdiv 18).fmod 1000), (x.fdiv 6).fmod 3⟩
 else if x.fmod 6 = 3 then ⟨ofString "0" ++ zag ((x.fdiv 18).fmod 1000), some ((x.fdiv 18).fmod 1000), (x.fdiv 6).fmod 3⟩
 else if x.fmod 6 = 4 then (if ((x.fdiv 18).fmod 1000).fmod 2 = 0 then ⟨ofString "+" ++ zag ((x.fdiv 18).fmod 1000), some ((x.fdiv 18).fmod 1000), (x.fdiv 6).fmod 3⟩ else ⟨ofString "-" ++ zag ((x.fdiv 18).fmod 1000), some (-((x.fdiv 18).fmod 1000)), (x.fdiv 6).fmod 3⟩)
 else ⟨[ofString "", ofString "x", ofString "5x", ofString "rc1"].getD (((x.fdiv 18).fmod 1000).fmod 4).toNat (ofString ""), none, (x.fdiv 6).fmod 3⟩
noncomputable def zbp : List Part := [⟨ofString "7", some 7, 1⟩, ⟨ofString "010", some 10, 1⟩]
noncomputable def zae (ns : List Int) : List Part := (ns.take 8).map zaz ++ zbp
theorem zgt (vs : List Value) : (slicePick vs.toArray none (some 8) none).toList = vs.take 8 := by
 rw [kms_pick_eq]
 show (kms_pick vs none (some 8)) = vs.take 8
 unfold kms_pick
 have e1 : kms_lo none vs.length = 0 := rfl
 have e2 : kms_hi (some 8) vs.length = min 8 vs.length := rfl
 rw [e1, e2, List.drop_zero, Nat.sub_zero]
 by_cases h : 8 ≤ vs.length
 ·rw [Nat.min_eq_left h]
 ·rw [Nat.min_eq_right (by exact om378 h), List.take_length, Zh (by exact om378 h)]
theorem zie {vs : List Value} {ns : List Int} (h : IntsAre vs ns) : ∀ {i : Nat} {v : Value}, vs[i]? = some v → ∃ n t, ns[i]? = some n ∧ v = .int n t := by
 induction h with
 | nil => intro i n e; simp at e
 | cons n t _ ih =>
  intro i m e
  cases i with
  | zero => simp at e; subst e; exact ⟨_, _, rfl, rfl⟩
  | succ i => simpa using ih (by simpa using e)
theorem zlz (x : Int) : 0 ≤ (x.fdiv 18).fmod 1000 ∧ (x.fdiv 18).fmod 1000 < 1000 := by
 rw [Int.fmod_eq_emod_of_nonneg _ (by decide)]
 exact ⟨Int.emod_nonneg _ (by decide), Int.emod_lt_of_pos _ (by decide)⟩
theorem zdg {n : Int} (h : n.natAbs < 1000) : (zag n).length ≤ 4 := by
 unfold zag
 rw [PySem.ofString_length]
 exact int_text_length_le10 (k := 3) (by decide) (by simpa using h)
inductive PC (ns : List Int) : CT
 | mk {l : LS} (i aP : Nat) (vP : List Value) (nP : Nat) (k1 : l.lookup (ofString "parts") = some (.ref aP)) (b : vP.length ≤ i) : PC ns i l [(aP, zaa vP nP)] [(vP, (((ns.take 8).take i).map zaz).map Part.sc)]
theorem zmh {ns : List Int} {i aP nP : Nat} {vP : List Value} {l : LS} {x : Int} {xs : List Scal} {v : Value} (hx : (ns.take 8)[i]? = some x) (e : xs = (zaz x).sc) (k1 : l.lookup (ofString "parts") = some (.ref aP)) (b : vP.length ≤ i) :
  PC ns (i + 1) l [(aP, zaa (vP ++ [v]) nP)] [(vP ++ [v], (((ns.take 8).take i).map zaz).map Part.sc ++ [xs])] := by
 have : (((ns.take 8).take i).map zaz).map Part.sc ++ [xs] = (((ns.take 8).take (i + 1)).map zaz).map Part.sc := by generalize ns.take 8 = ms at hx ⊢; rw [List.take_add_one, hx, e]; simp
 rw [this]
 exact .mk _ _ _ _ k1 (by simp; exact om50 b)
section
theorem c_parts {aS nS : Nat} {vS : List Value} {ns : List Int} {Q : VP} (G : Gd w uu) (W : Wd uu vv h) (P : Rm A vv 20)
  (hS : h.get? aS = some (zaa vS nS)) (hSF : aS ∉ zab vv) (hST : ¬ za9 aS) (hns : IntsAre vS ns) (hn : ns.length ≤ 1000)
  (hq : ∀ (t n : Nat) (vs : List Value) h' tk', Ret uu vv h h' → h.get? t = none → h'.get? t = some (zaa vs n) → Tps h' vs ((zae ns).map Part.sc) → Q (.ref t) ⟨h', g, d, tk', os⟩) :
  wpAny (Mo w) A (call (.ref 239) [.ref aS]) Q E ⟨h, g, d, tk, os⟩ := by
 refine zm4 (binds := [(ofString "script", .ref aS)]) G W P (G.get W.inv (a := 239) rfl) rfl rfl rfl rfl ⟨_, _, _, _, rfl, G.get W.inv (a := 238) rfl, rfl, rfl⟩ rfl (by decide) (zba rfl) (zP ⟨rfl, rfl⟩) ?_
 intro L h₁ tk₁ S0 R
 have S := S0.entry hS hSF List.not_mem_nil hST (fun q hq => nomatch hq)
 clear S0
 have lS := hns.length
 refine At.run S ?_
 walk_at "At"
 refine At.sliceL (by walk_at "either") (by walk_at "mem") .none (.int _ _) (by exact om219 hn lS) (zgt _) ?_
 intro b
 refine At.tl0 (by intro p hp; rw [zS hp]; exact clsNe (by decide)) ?_
 refine At.kfor R.handled (PC ns) (fun y => List.not_mem_nil) (.head _) (.mk _ _ _ _ (by walk_at "lk") (Ze _)) ?_ ?_
 ·intro i v l rw tl tk p hvi C
  cases C with
  | mk _ aP vP nP hlP bP =>
  obtain ⟨x, tx, hx, rfl⟩ := zie (hns.take 8) hvi
  obtain ⟨nb0, nb1⟩ := zlz x
  have hi : i < 8 := by have := (List.getElem?_eq_some_iff.mp hx).1; simp at this; exact om379 this
  walk_at "At"
  refine At.lift (fun y q => by (with_reducible refine zkm R.handled q ?_ ?_ ?_) <;> rfl) ?_
  walk_at "At"
  refine At.ifN ?_
  walk_at "At"
  refine At.ite (fun k1 => ?_) (fun k1 => ?_)
  ·have hmk : zaz x = ⟨zag ((x.fdiv 18).fmod 1000), some ((x.fdiv 18).fmod 1000), (x.fdiv 6).fmod 3⟩ := by unfold zaz; rw [if_pos k1]
   walk_at "At"
   refine At.strI R.handled G (by exact om380 nb0 nb1) ?_
   walk_at "At"
   refine At.grow (.head _) (xs := (zaz x).sc) (by rw [hmk]; exact .cons rfl (.cons rfl (.cons rfl .nil))) ?_
   refine At.kap2 (by walk_at "led") (by exact zlf bP hi) ?_
   walk_at "At"
   refine At.drop (.cons _ (List.Sublist.refl _)) (List.Sublist.refl _) ?_
   exact At.endF (zmh hx rfl (by walk_at "lk") bP)
  ·refine At.ifN ?_
   walk_at "At"
   refine At.ite (fun k2 => ?_) (fun k2 => ?_)
   ·have hmk : zaz x = ⟨ofString "0" ++ zag ((x.fdiv 18).fmod 1000), some ((x.fdiv 18).fmod 1000), (x.fdiv 6).fmod 3⟩ := by unfold zaz; rw [if_neg k1, if_pos k2]
    walk_at "At"
    refine At.strI R.handled G (by exact om380 nb0 nb1) ?_
    walk_at "At"
    refine At.addS ?_ (by have := zdg (n := (x.fdiv 18).fmod 1000) (by exact om382 nb0 nb1); show (ofString "0").length + (zag ((x.fdiv 18).fmod 1000)).length ≤ sizeLine; have : (ofString "0").length = 1 := rfl; exact om383 (by assumption))
    intro _ _
    walk_at "At"
    refine At.grow (.head _) (xs := (zaz x).sc) (by rw [hmk]; exact .cons rfl (.cons rfl (.cons rfl .nil))) ?_
    refine At.kap2 (by walk_at "led") (by exact zlf bP hi) ?_
    walk_at "At"
    refine At.drop (.cons _ (List.Sublist.refl _)) (List.Sublist.refl _) ?_
    exact At.endF (zmh hx rfl (by walk_at "lk") bP)
   ·refine At.ifN ?_
    walk_at "At"
    refine At.ite (fun k3 => ?_) (fun k3 => ?_)
    ·walk_at "At"
     refine At.ite (fun k4 => ?_) (fun k4 => ?_)
     ·have hmk : zaz x = ⟨ofString "+" ++ zag ((x.fdiv 18).fmod 1000), some ((x.fdiv 18).fmod 1000), (x.fdiv 6).fmod 3⟩ := by unfold zaz; rw [if_neg k1, if_neg k2, if_pos k3, if_pos k4]
      walk_at "At"
      refine At.strI R.handled G (by exact om380 nb0 nb1) ?_
      walk_at "At"
      refine At.addS ?_ (by have := zdg (n := (x.fdiv 18).fmod 1000) (by exact om382 nb0 nb1); show (ofString "+").length + (zag ((x.fdiv 18).fmod 1000)).length ≤ sizeLine; have : (ofString "+").length = 1 := rfl; exact om384 (by assumption))
      intro _ _
      walk_at "At"
      refine At.grow (.head _) (xs := (zaz x).sc) (by rw [hmk]; exact .cons rfl (.cons rfl (.cons rfl .nil))) ?_
      refine At.kap2 (by walk_at "led") (by exact zlf bP hi) ?_
      walk_at "At"
      refine At.drop (.cons _ (List.Sublist.refl _)) (List.Sublist.refl _) ?_
      exact At.endF (zmh hx rfl (by walk_at "lk") bP)
     ·have hmk : zaz x = ⟨ofString "-" ++ zag ((x.fdiv 18).fmod 1000), some (-((x.fdiv 18).fmod 1000)), (x.fdiv 6).fmod 3⟩ := by unfold zaz; rw [if_neg k1, if_neg k2, if_pos k3, if_neg k4]
      walk_at "At"
      refine At.strI R.handled G (by exact om380 nb0 nb1) ?_
      walk_at "At"
      refine At.addS ?_ (by have := zdg (n := (x.fdiv 18).fmod 1000) (by exact om382 nb0 nb1); show (ofString "-").length + (zag ((x.fdiv 18).fmod 1000)).length ≤ sizeLine; have : (ofString "-").length = 1 := rfl; exact om385 (by assumption))
      intro _ _
      walk_at "At"
      refine At.grow (.head _) (xs := (zaz x).sc) (by rw [hmk]; exact .cons rfl (.cons rfl (.cons rfl .nil))) ?_
      refine At.kap2 (by walk_at "led") (by exact zlf bP hi) ?_
      walk_at "At"
      refine At.drop (.cons _ (List.Sublist.refl _)) (List.Sublist.refl _) ?_
      exact At.endF (zmh hx rfl (by walk_at "lk") bP)
    ·have b4 : 0 ≤ ((x.fdiv 18).fmod 1000).fmod 4 ∧ ((x.fdiv 18).fmod 1000).fmod 4 < 4 := by
      rw [Int.fmod_eq_emod_of_nonneg _ (by decide)]
      exact ⟨Int.emod_nonneg _ (by decide), Int.emod_lt_of_pos _ (by decide)⟩
     have hmk : zaz x = ⟨[ofString "", ofString "x", ofString "5x", ofString "rc1"].getD (((x.fdiv 18).fmod 1000).fmod 4).toNat (ofString ""), none, (x.fdiv 6).fmod 3⟩ := by unfold zaz; rw [if_neg k1, if_neg k2, if_neg k3]
     walk_at "At"
     generalize hr : ((x.fdiv 18).fmod 1000).fmod 4 = r at *
     obtain ⟨j, rfl⟩ : ∃ j : Nat, r = j := ⟨r.toNat, by exact om386 b4⟩
     have hjs : j = 0 ∨ j = 1 ∨ j = 2 ∨ j = 3 := by exact om388 b4
     rcases hjs with rfl | rfl | rfl | rfl
     all_goals
      refine At.itemT (.head _) rfl rfl (by simp) ?_
      walk_at "At"
      refine At.grow (.head _) (xs := (zaz x).sc) (by rw [hmk]; exact .cons rfl (.cons trivial (.cons rfl .nil))) ?_
      refine At.kap2 (by walk_at "led") (by exact zlf bP hi) ?_
      walk_at "At"
      refine At.drop (.cons _ (.cons _ (List.Sublist.refl _))) (List.Sublist.refl _) ?_
      exact At.endF (zmh hx rfl (by walk_at "lk") bP)
 ·intro l rw tl tk C
  have eL : (ns.take 8).take (vS.take 8).length = ns.take 8 := by
   apply Zh
   simp; exact om389 lS
  cases C with
  | mk _ aP vP nP hlP bP =>
  rw [eL]
  have lv : vP.length ≤ 8 := by simp at bP; exact om390 bP
  walk_at "At"
  refine At.grow (.tail _ (.head _)) (xs := [.str (ofString "7"), .int 7, .int 1]) (.cons rfl (.cons rfl (.cons rfl .nil))) (At.grow (.head _) (xs := [.str (ofString "010"), .int 10, .int 1]) (.cons rfl (.cons rfl (.cons rfl .nil))) ?_)
  refine At.catW (by walk_at "either") (by walk_at "either") (by simp; exact om391 lv) ?_
  refine fun c => .mk fun h' Sc' => ?_
  have n1 := Sc'.newW (.head _)
  refine hq _ _ _ _ _ Sc'.ret n1.1 n1.2 ?_
  have := Sc'.htl _ (.head _)
  simpa [zae, zbp, Part.sc] using this
end
noncomputable def zal (c : Nat) : Bool := decide (48 ≤ c) && decide (c ≤ 57)
noncomputable def zau (c : Nat) : Bool := decide (c ∈ [46, 95, 43, 45])
noncomputable def zj8 (run : List Nat) : Int := run.foldl (fun (n : Int) (c : Nat) => n * 10 + ((c : Int) - 48)) 0
noncomputable def zdj (run : Str) : List Scal :=
 if zal (run.cps.getD 0 0) then [.int 100, .int (zj8 run.cps.toList)] else [.int (if run = ofString "rc" then 50 else 0), .str run]
structure Rst where
 due : List Scal
 run : Str
noncomputable def zan (s : Rst) (c : Nat) : Bool := decide (s.run.length ≠ 0) && (zau c || (zal c != zal (s.run.cps.getD 0 0)))
noncomputable def zbf (s : Rst) (c : Nat) : Rst :=
 let s' : Rst := if zan s c then ⟨s.due ++ zdj s.run, ofString ""⟩ else s
 if zau c then s' else ⟨s'.due, s'.run ++ ⟨#[c]⟩⟩
noncomputable def zgw (cs : List Nat) : Rst := cs.foldl zbf ⟨[], ofString ""⟩
noncomputable def ranks (text : Str) : List Scal := (zgw (text.cps.toList ++ [46])).due
def Pure (s : Rst) : Prop := zal (s.run.cps.getD 0 0) = true → ∀ c ∈ s.run.cps.toList, zal c = true
theorem zj1 {s : Rst} {c : Nat} (hp : Pure s) : Pure (zbf s c) := by
 unfold zbf
 have one : ∀ y : Str, y.length = 0 → y ++ ⟨#[c]⟩ = ⟨#[c]⟩ := by
  intro y hy
  obtain ⟨cps⟩ := y
  have : cps = #[] := Array.eq_empty_of_size_eq_zero hy
  rw [this]; rfl
 have pone : ∀ due, Pure ⟨due, ⟨#[c]⟩⟩ := by
  intro due hf x hx
  have : x = c := by simpa using hx
  rw [this]; exact hf
 have pnil : ∀ due, Pure ⟨due, ofString ""⟩ := by
  intro due hf x hx
  have : x ∈ ([] : List Nat) := hx
  cases this
 by_cases hd : zau c = true
 ·rw [zH hd]
  by_cases hm : zan s c = true
  ·rw [zH hm]; exact pnil _
  ·rw [zG hm]; exact hp
 ·rw [zG hd]
  by_cases hm : zan s c = true
  ·rw [zH hm]
   show Pure ⟨_, ofString "" ++ ⟨#[c]⟩⟩
   rw [one _ rfl]; exact pone _
  ·rw [zG hm]
   by_cases hl : s.run.length = 0
   ·rw [one _ hl]; exact pone _
   ·have hfe : zal c = zal (s.run.cps.getD 0 0) := by
     unfold zan at hm
     simp only [Bool.not_eq_true] at hd
     rw [hd] at hm
     simpa [hl] using hm
    have hg : (s.run ++ ⟨#[c]⟩).cps.getD 0 0 = s.run.cps.getD 0 0 := by
     rw [Array.getD_eq_getD_getElem?, Array.getD_eq_getD_getElem?, Str.cps_append, Array.getElem?_append_left (by have : s.run.cps.size = s.run.length := rfl; exact om392 hl this)]
    intro hf x hx
    simp only at hf hx
    rw [hg] at hf
    rw [Str.cps_append, Array.toList_append] at hx
    rcases zD hx with hx | hx
    ·exact hp hf x hx
    ·have : x = c := by simpa using hx
     rw [this, hfe]; exact hf
theorem le1 (a b : Nat) : (!decide ((⟨#[b]⟩ : Str).cps.toList < (⟨#[a]⟩ : Str).cps.toList)) = decide (a ≤ b) := by
 show (!decide ([b] < [a])) = decide (a ≤ b)
 have : ([b] < [a]) ↔ b < a := by simp [List.cons_lt_cons_iff]
 rw [decide_eq_decide.mpr this, ← decide_not]
 exact decide_eq_decide.mpr (by exact om393)
theorem zhh (c : Nat) : (!(Builtin.Str.occurrences (ofString "._+-") ⟨#[c]⟩ 0 (ofString "._+-").length 1).isEmpty) = zau c := by
 rw [StrLaws.found_one]; rfl
theorem find_fig {c : Nat} (h : zal c = true) : Txt.find (ofString "0123456789") ⟨#[c]⟩ = (c : Int) - 48 := by
 unfold zal at h
 simp at h
 obtain ⟨h1, h2⟩ := h
 have : c = 48 ∨ c = 49 ∨ c = 50 ∨ c = 51 ∨ c = 52 ∨ c = 53 ∨ c = 54 ∨ c = 55 ∨ c = 56 ∨ c = 57 := by exact om394 h1 h2
 rcases this with rfl | rfl | rfl | rfl | rfl | rfl | rfl | rfl | rfl | rfl <;> decide +kernel
def FigS (v : Value) (s : Shared) (K : Nat → SP) : Prop := ∃ c t, v = .str ⟨#[c]⟩ t ∧ ∀ tk', K c { s with toks := tk' }
theorem FigS.go {c t tk : Nat} {h : Heap} {g : Array GenState} {d : Drawn} {os : OsState} {K : Nat → SP} (hk : ∀ tk', K c ⟨h, g, d, tk', os⟩) : FigS (.str ⟨#[c]⟩ t) ⟨h, g, d, tk, os⟩ K := ⟨c, t, rfl, hk⟩
section
variable {p1 p2 : Pos} {k1 k2 : Nat} {e : Expr}
theorem e_fig {Q : VP} (hq : wpAny (Mo w) A (eval e env) (fun v s₁ => FigS v s₁ fun c s => Q (.bool (zal c)) s) E ⟨h, g, d, tk + 1, os⟩) (hb : lastMarks [.LtE, .LtE] [e, .Constant (.str (ofString "9")) k2 p2] = false) :
  wpAny (Mo w) A (eval (.Compare (.Constant (.str (ofString "0")) k1 p1) [.LtE, .LtE] [e, .Constant (.str (ofString "9")) k2 p2] pos) env) Q E ⟨h, g, d, tk, os⟩ := by
 refine e_chain (wpAny_Constant_str (zM hq (fun v s₁ q => ?_) fun j j z => z)) hb
 obtain ⟨c, t, rfl, q⟩ := q
 refine P.le_str (wpAny_truthy_bool ?_)
 have e0 : (!decide ((⟨#[c]⟩ : Str).cps.toList < (ofString "0").cps.toList)) = decide (48 ≤ c) := le1 48 c
 rw [e0]
 by_cases hc : 48 ≤ c
 ·rw [zH (by simpa using hc)]
  refine wpAny_Constant_str (P.le_str ?_)
  have e9 : (!decide ((ofString "9").cps.toList < (⟨#[c]⟩ : Str).cps.toList)) = decide (c ≤ 57) := le1 c 57
  rw [e9]
  have : decide (c ≤ 57) = zal c := by unfold zal; simp [hc]
  rw [this]; exact q _
 ·rw [zG (by simpa using hc)]
  have : decide (48 ≤ c) = zal c := by unfold zal; simp [hc]
  rw [this]; exact q s₁.toks
theorem t_fig {Q : Bool → SP} {whole : Sem Value} (hq : wpAny (Mo w) A (eval e env) (fun v s₁ => FigS v s₁ fun c s => Q (zal c) s) E ⟨h, g, d, tk + 1, os⟩) (hb : lastMarks [.LtE, .LtE] [e, .Constant (.str (ofString "9")) k2 p2] = false) :
  wpAny (Mo w) A (PySem.isTrue (.Compare (.Constant (.str (ofString "0")) k1 p1) [.LtE, .LtE] [e, .Constant (.str (ofString "9")) k2 p2] pos) env whole) Q E ⟨h, g, d, tk, os⟩ := by
 refine isTrue_chain (wpAny_Constant_str ?_) hb
 refine zB (wpAny_holding (zM hq (fun v s₁ q => ?_) fun j j z => z))
 obtain ⟨c, t, rfl, q⟩ := q
 refine zB (wpAny_standAt (zB (wpAny_holding (P.le_str ?_))))
 refine zB (wpAny_release (zB (wpAny_holding (wpAny_truthy_bool ?_))))
 have e0 : (!decide ((⟨#[c]⟩ : Str).cps.toList < (ofString "0").cps.toList)) = decide (48 ≤ c) := le1 48 c
 rw [e0]
 by_cases hc : 48 ≤ c
 ·rw [zH (by simpa using hc)]
  unfold evalEach
  refine zB (wpAny_holding (wpAny_Constant_str ?_))
  refine zB (wpAny_standAt (zB (wpAny_operate' (P.le_str (wpAny_holding (wpAny_truthy_bool ?_))))))
  have e9 : (!decide ((ofString "9").cps.toList < (⟨#[c]⟩ : Str).cps.toList)) = decide (c ≤ 57) := le1 c 57
  rw [e9]
  have : decide (c ≤ 57) = zal c := by unfold zal; simp [hc]
  rw [this]; exact q _
 ·rw [zG (by simpa using hc)]
  have : false = zal c := by unfold zal; simp [hc]
  rw [this]; exact zP (q s₁.toks)
end
def KFig (Q : VP) (v : Value) (s : Shared) : Prop := FigS v s fun c s => Q (.bool (zal c)) s
def KFigT (B : Bool → SP) (v : Value) (s : Shared) : Prop := FigS v s fun c s => B (zal c) s
section
variable {F : Fx} {k1 k2 : Nat} {B : Bool → SP} {p1 p2 : Pos} {e : Expr}
theorem At.eFig (k : At F l ro rw tl (tk + 1) (wpAny (Mo w) A (eval e env) (KFig Q) E)) (hb : lastMarks [.LtE, .LtE] [e, .Constant (.str (ofString "9")) k2 p2] = false) : At F l ro rw tl tk (wpAny (Mo w) A (eval (.Compare (.Constant (.str (ofString "0")) k1 p1) [.LtE, .LtE] [e, .Constant (.str (ofString "9")) k2 p2] pos) env) Q E) := .mk fun h S => e_fig (k.go h S) hb
theorem At.tFig {whole : Sem Value} (k : At F l ro rw tl (tk + 1) (wpAny (Mo w) A (eval e env) (KFigT B) E)) (hb : lastMarks [.LtE, .LtE] [e, .Constant (.str (ofString "9")) k2 p2] = false) : At F l ro rw tl tk (wpAny (Mo w) A (PySem.isTrue (.Compare (.Constant (.str (ofString "0")) k1 p1) [.LtE, .LtE] [e, .Constant (.str (ofString "9")) k2 p2] pos) env whole) B E) := .mk fun h S => t_fig (k.go h S) hb
theorem At.mulI {a b : Int} {t u : Nat} (hm : IntMulOk a b) (k : At F l ro rw tl (tk + 1) (Q (.int (a * b) tk))) : At F l ro rw tl tk (wpAny (Mo w) A (binaryOp .Mult (.int a t) (.int b u)) Q E) := .mk fun h S => PyProof.Rows.mul_int (k.go h S) hm
theorem At.kfig {c t : Nat} (k : ∀ tk, At F l ro rw tl tk (Q (.bool (zal c)))) : At F l ro rw tl tk (KFig Q (.str ⟨#[c]⟩ t)) := .mk fun h S => FigS.go fun tk' => (k tk').go h S
theorem At.kfigT {c t : Nat} (k : ∀ tk, At F l ro rw tl tk (B (zal c))) : At F l ro rw tl tk (KFigT B (.str ⟨#[c]⟩ t)) := .mk fun h S => FigS.go fun tk' => (k tk').go h S
end
section
variable {F : Fx} {M : Model} {a b : Nat} {u v : Str} {c d : Bool}
theorem At.inS' (k : At F l ro rw tl tk (Q (.bool !(Builtin.Str.occurrences v u 0 v.length 1).isEmpty))) : At F l ro rw tl tk (wpAny (Mo w) A (compareOp .In (.str u a) (.str v b)) Q E) := .mk fun h S => PyProof.Rows.in_str (k.go h S)
theorem At.ninS (k : At F l ro rw tl tk (Q (.bool (!(!(Builtin.Str.occurrences v u 0 v.length 1).isEmpty))))) : At F l ro rw tl tk (wpAny (Mo w) A (compareOp .NotIn (.str u a) (.str v b)) Q E) := .mk fun h S => PyProof.Rows.notIn_str (k.go h S)
theorem At.neB (k : At F l ro rw tl tk (Q (.bool (c != d)))) : At F l ro rw tl tk (wpAny (Mo w) A (compareOp .NotEq (.bool c) (.bool d)) Q E) := .mk fun h S => PyProof.Rows.ne_bool (k.go h S)
end
theorem fig0 {x : Str} (h : x.length ≠ 0) : ∃ r0, x.cps[0]? = some r0 ∧ x.cps.getD 0 0 = r0 := by
 have e : x.cps[0]? = some (x.cps[0]'(Nat.pos_of_ne_zero h)) := Array.getElem?_eq_getElem _
 exact ⟨_, e, by rw [Array.getD_eq_getD_getElem?, e]; rfl⟩
theorem must0 {s : Rst} {c : Nat} (h : s.run.length = 0) : zan s c = false := by unfold zan; simp [h]
theorem must1 {s : Rst} {c r : Nat} (h : s.run.length ≠ 0) (e : s.run.cps.getD 0 0 = r) : zan s c = (zau c || (zal c != zal r)) := by unfold zan; simp [h, e]
theorem fig_lt {c : Nat} (h : zal c = true) : c < 128 := by
 unfold zal at h
 simp at h; exact om400 h
theorem fig_ge {c : Nat} (h : zal c = true) : 0 ≤ (c : Int) - 48 := by
 unfold zal at h
 simp at h; exact om401 h
inductive RkC (xs : List Nat) : CT
 | mk {l : LS} (i aD : Nat) (vD : List Value) (nD tr : Nat) (lD : l.lookup (ofString "due") = some (.ref aD)) (lR : l.lookup (ofString "run") = some (.str (zgw (xs.take i)).run tr)) (h : All2 Sc vD (zgw (xs.take i)).due)
   (b1 : (zgw (xs.take i)).run.length ≤ i) (b2 : vD.length ≤ 2 * i) (p : Pure (zgw (xs.take i))) : RkC xs i l [(aD, zaa vD nD)] []
inductive RkJ (p : Nat × Obj) (c i : Nat) (st : Rst) : LS → LO → LO → LT → Nat → Prop
 | mk {l : LS} (aD : Nat) (vD : List Value) (nD tr tc tk : Nat) (lD : l.lookup (ofString "due") = some (.ref aD)) (lR : l.lookup (ofString "run") = some (.str st.run tr)) (lS : l.lookup (ofString "sign") = some (.str ⟨#[c]⟩ tc)) (h : All2 Sc vD st.due) (b : vD.length ≤ 2 * i + 2) :
   RkJ p c i st l [] [p, (aD, zaa vD nD)] [] tk
inductive RkK (p : Nat × Obj) (c i : Nat) (due : List Scal) : LS → LO → LO → LT → Nat → Prop
 | mk {l : LS} (aD : Nat) (vD : List Value) (nD tc tk : Nat) (lD : l.lookup (ofString "due") = some (.ref aD)) (lS : l.lookup (ofString "sign") = some (.str ⟨#[c]⟩ tc)) (h : All2 Sc vD due) (b : vD.length ≤ 2 * i + 2) :
   RkK p c i due l [] [p, (aD, zaa vD nD)] [] tk
inductive RkN (xs : List Nat) (aD c tc : Nat) (rw : LO) : CT
 | mk {l : LS} (j tn : Nat) (lD : l.lookup (ofString "due") = some (.ref aD)) (lS : l.lookup (ofString "sign") = some (.str ⟨#[c]⟩ tc)) (lN : l.lookup (ofString "number") = some (.int (zj8 (xs.take j)) tn)) : RkN xs aD c tc rw j l rw []
section
theorem c_ranks {text : Str} {tt : Nat} {Q : VP} (G : Gd w uu) (W : Wd uu vv h) (P : Rm A vv 20)
  (hasc : ∀ c ∈ text.cps.toList, c < 128) (hlen : text.length ≤ 5000)
  (hq : ∀ (t n : Nat) (vs : List Value) h' tk', Ret uu vv h h' → h.get? t = none → h'.get? t = some (zaa vs n) → All2 Sc vs (ranks text) → Q (.ref t) ⟨h', g, d, tk', os⟩) :
  wpAny (Mo w) A (call (.ref 272) [.str text tt]) Q E ⟨h, g, d, tk, os⟩ := by
 refine zm4 (binds := [(ofString "text", .str text tt)]) G W P (G.get W.inv (a := 272) rfl) rfl rfl rfl rfl ⟨_, _, _, _, rfl, G.get W.inv (a := 271) rfl, rfl, rfl⟩ rfl (by decide) (zba rfl) (zP ⟨rfl, rfl⟩) ?_
 intro L h₁ tk₁ S R
 refine At.run S (At.fn rfl rfl rfl rfl fun N => ?_)
 have sz : sizeLine = 16777216 := rfl
 have lDot : (ofString ".").length = 1 := rfl
 refine At.lift (fun y q => zhz R.handled q (by rfl) (by rfl) (by rfl)) ?_
 walk_at "rk"
 refine At.addS ?_ (by exact om395 hlen)
 intro _ _
 generalize hX : text ++ ofString "." = X
 have hXl : X.cps.toList = text.cps.toList ++ [46] := by rw [← hX, Str.cps_append, Array.toList_append]; rfl
 have hXs : X.cps.size = text.length + 1 := by rw [← Array.length_toList, hXl]; simp [Str.length]
 refine At.kforS R.handled (RkC X.cps.toList) (fun y => List.not_mem_nil) (by
  rw [← Array.all_toList, hXl]
  simp only [List.all_eq_true, decide_eq_true_eq]
  intro c hc
  rcases zD hc with hc | hc
  ·exact hasc c hc
  ·rw [zS hc]; decide) (.mk _ _ _ _ _ (by walk_at "lk") (by walk_at "lk") .nil (Ze _) (Ze _) (by intro z; have : zal ((ofString "").cps.getD 0 0) = true := z; exact absurd this (by decide))) ?_ ?_
 ·intro i c tc l rw tl tk p hi hc C
  cases C with
  | mk _ aD vD nD tr lD lR hD b1 b2 hpure =>
  generalize hst : zgw (X.cps.toList.take i) = st at *
  have hst' : zgw (X.cps.toList.take (i + 1)) = zbf st c := by
   rw [List.take_add_one, ← hst]
   have : X.cps.toList[i]? = some c := by rw [← hc]; simp
   rw [this]
   simp [zgw]
  walk_at "rk"
  have hi5 : i ≤ 5000 := by exact om396 hlen hXs hi
  generalize hs2 : (if zan st c then (⟨st.due ++ zdj st.run, ofString ""⟩ : Rst) else st) = s2
  refine At.ifJ (RkJ p c i s2) ?_ ?_
  ·refine At.test (· = zan st c) ?_ ?_
   ·walk_at "rk"
    refine At.truS (by exact om397 b1 hi5) ?_
    walk_at "rk"
    by_cases hr : st.run.length = 0
    ·refine At.brF (by simp [hr]) ?_
     exact At.endT (must0 hr).symm
    ·refine At.brT (by simpa using hr) ?_
     obtain ⟨r0, hr0, hg0⟩ := fig0 hr
     walk_at "rk"
     by_cases hd : zau c = true
     ·refine At.brT (by rw [zhh]; exact hd) ?_
      walk_at "rk"
      exact At.endT (by rw [must1 hr hg0, hd]; rfl)
     ·refine At.brF (by rw [zhh]; exact Bool.eq_false_iff.mpr hd) ?_
      walk_at "rk"
      refine At.itemS hr0 (by exact om398 b1 hi5) ?_
      walk_at "rk"
      cases hf : (zal c != zal r0) with
      | true =>
       refine At.iteT ?_
       walk_at "rk"
       exact At.endT (by rw [must1 hr hg0, hf, Bool.eq_false_iff.mpr hd]; rfl)
      | false =>
       refine At.iteF ?_
       walk_at "rk"
       exact At.endT (by rw [must1 hr hg0, hf, Bool.eq_false_iff.mpr hd]; rfl)
   ·rintro _ tk rfl
    skip
    by_cases hm : zan st c = true
    ·refine At.brT hm ?_
     rw [zH hm] at hs2
     subst hs2
     have hr : st.run.length ≠ 0 := by
      unfold zan at hm
      simp at hm; exact hm.1
     obtain ⟨r0, hr0, hg0⟩ := fig0 hr
     refine At.ifJ (RkK p c i (st.due ++ zdj st.run)) ?_ ?_
     ·walk_at "rk"
      refine At.itemS hr0 (by exact om398 b1 hi5) ?_
      walk_at "rk"
      by_cases hf : zal r0 = true
      ·refine At.brT hf ?_
       have hfigs : ∀ x ∈ st.run.cps.toList, zal x = true := hpure (by rw [hg0]; exact hf)
       walk_at "rk"
       refine At.kforS R.handled (RkN st.run.cps.toList aD c tc [p, (aD, zaa vD nD)]) (fun y => List.not_mem_nil) (by
        rw [← Array.all_toList]
        simp only [List.all_eq_true, decide_eq_true_eq]
        intro x hx
        exact fig_lt (hfigs x hx)) (.mk _ _ (by walk_at "lk") (by walk_at "lk") (by walk_at "lk")) ?_ ?_
       ·intro j o to l rw tl tk q hj ho N'
        cases N' with
        | mk _ tn lD lS lN =>
        have ho' : st.run.cps.toList[j]? = some o := by rw [← ho]; simp
        have hof := hfigs o (zR ho')
        have hn' : zj8 (st.run.cps.toList.take (j + 1)) = zj8 (st.run.cps.toList.take j) * 10 + ((o : Int) - 48) := by
         rw [List.take_add_one, ho']
         simp [zj8]
        walk_at "rk"
        refine At.mulI (.of_right (by decide +kernel)) ?_
        walk_at "rk"
        with_reducible refine At.mstr F.slot_str_index F.type_str_index ?_ ?za ?zb ?zc
        case za => walk_at "ab"
        case zb => rfl
        case zc => rfl
        walk_at "rk"
        refine At.index R.handled (find_fig hof) (fig_ge hof) ?_
        walk_at "rk"
        rw [← hn']
        exact At.endF (.mk _ _ (by walk_at "lk") (by walk_at "lk") (by walk_at "lk"))
       ·intro l rw tl tk N'
        cases N' with
        | mk _ tn lD lS lN =>
        have e1 : st.run.cps.toList.take st.run.cps.size = st.run.cps.toList := Zh (by simp)
        rw [e1] at lN
        walk_at "rk"
        refine At.kxt2 (by walk_at "led") (.inr (.head _)) (by simp) (by simp; exact om402 b2 hi5) ?_
        walk_at "rk"
        refine At.drop (.refl _) (.cons _ (.refl _)) ?_
        exact At.endJ (.mk _ _ _ _ _ (by walk_at "lk") (by walk_at "lk") (by rw [zdj, hg0, zH hf]; exact hD.app (.cons rfl (.cons rfl .nil))) (by simpa using b2))
      ·refine At.brF (by simpa using hf) ?_
       refine At.xtnd (At.loc (by walk_at "lk") (At.kxt1 (by walk_at "either") (At.elist (At.sp ?_ (by rfl))))) (by walk_at "ab") (by rfl) (by rfl) (by rfl) sw_Call
       refine At.val (fun v => ∃ t, v = .int (if st.run = ofString "rc" then 50 else 0) t) ?_ ?_
       ·walk_at "rk"
        by_cases hrc : st.run = ofString "rc"
        ·refine At.brT (by simpa using hrc) ?_
         rw [zH hrc]; walk_at "rk"; exact At.endP ⟨_, rfl⟩
        ·refine At.brF (by simpa using hrc) ?_
         rw [zG hrc]; walk_at "rk"; exact At.endP ⟨_, rfl⟩
       rintro _ tk ⟨t, rfl⟩
       walk_at "rk"
       refine At.kxt2 (by walk_at "led") (.inr (.head _)) (by simp) (by simp; exact om402 b2 hi5) ?_
       walk_at "rk"
       refine At.drop (.refl _) (.cons _ (.refl _)) ?_
       exact At.endJ (.mk _ _ _ _ _ (by walk_at "lk") (by walk_at "lk") (by rw [zdj, hg0, zG hf]; exact hD.app (.cons rfl (.cons rfl .nil))) (by simpa using b2))
     ·intro l ro rw tl tk J
      cases J with
      | mk aD vD nD tc tk lD lS hD b =>
      walk_at "rk"
      exact At.endJ (.mk _ _ _ _ _ _ (by walk_at "lk") (by walk_at "lk") (by walk_at "lk") hD b)
    ·refine At.brF (by simpa using hm) ?_
     rw [zG hm] at hs2
     subst hs2
     walk_at "rk"
     exact At.endJ (.mk _ _ _ _ _ _ (by walk_at "lk") (by walk_at "lk") (by walk_at "lk") hD (by exact om403 b2))
  ·intro l ro rw tl tk J
   cases J with
   | mk aD vD nD tr tc tk lD lR lS hD b =>
   have hrs : zbf st c = if zau c then s2 else ⟨s2.due, s2.run ++ ⟨#[c]⟩⟩ := by unfold zbf; rw [hs2]
   have hpn : Pure (zbf st c) := zj1 hpure
   have hl2 : s2.run.length ≤ i := by
    rw [← hs2]; split
    ·exact Nat.zero_le _
    ·exact b1
   refine At.ifN ?_
   walk_at "rk"
   cases hd : zau c with
   | true =>
    refine At.brF (by rw [zhh, hd]; rfl) ?_
    walk_at "rk"
    rw [zH hd] at hrs
    rw [hrs] at hpn hst'
    exact At.endF (.mk _ _ _ _ _ (by walk_at "lk") (by rw [hst']; walk_at "lk") (by rw [hst']; exact hD) (by rw [hst']; exact zlh hl2) (by exact om405 b) (by rw [hst']; exact hpn))
   | false =>
    refine At.brT (by rw [zhh, hd]; rfl) ?_
    have l1 : (⟨#[c]⟩ : Str).length = 1 := rfl
    walk_at "rk"
    refine At.addS ?_ (by exact om406 hi5 hl2 l1)
    intro _ _
    walk_at "rk"
    rw [hd, zG zF] at hrs
    rw [hrs] at hpn hst'
    exact At.endF (.mk _ _ _ _ _ (by walk_at "lk") (by rw [hst']; walk_at "lk") (by rw [hst']; exact hD) (by rw [hst']; show (s2.run ++ ⟨#[c]⟩).length ≤ i + 1; rw [Str.length_append]; exact om407 hl2 l1) (by exact om405 b) (by rw [hst']; exact hpn))
 ·intro l rw tl tk C
  cases C with
  | mk _ aD vD nD tr lD lR hD b1 b2 hpure =>
  walk_at "rk"
  refine .mk fun h' S5 => ?_
  have n1 := S5.newW (.head _)
  refine hq _ _ _ _ _ S5.ret n1.1 n1.2 ?_
  have e1 : X.cps.toList.take X.cps.size = X.cps.toList := Zh (by simp)
  rw [e1, hXl] at hD
  exact hD
end
noncomputable def pieces (ws : List Str) (gs : List Int) : List Str := (gs.zip ws).map fun p => zao p.1 ++ p.2
noncomputable def zbo (ws : List Str) (gs : List Int) : Str := Txt.join (ofString "") (pieces ws gs)
theorem zbe {vs : List Value} {ys : List Str} (h : StrsAre vs ys) (y : Str) (t : Nat) : StrsAre (vs ++ [.str y t]) (ys ++ [y]) := by
 induction h with
 | nil => exact .cons _ _ .nil
 | cons z u _ ih => exact .cons _ _ ih
theorem zax {vs : List Value} {ys : List Str} (h : StrsAre vs ys) : vs.length = ys.length := by
 induction h with
 | nil => rfl
 | cons z u _ ih => simp [ih]
theorem zdx {B : Nat} : ∀ {ys : List Str}, (∀ y ∈ ys, y.length ≤ B) → (ys.map (·.length)).sum ≤ ys.length * B
 | [], _ => by simp
 | y :: r, h => by
  have h1 := h y (.head _)
  have h2 := zdx (B := B) (ys := r) fun z hz => h z (.tail _ hz)
  have : (r.length + 1) * B = r.length * B + B := by rw [Nat.succ_mul]
  simp only [List.map_cons, List.sum_cons, List.length_cons]
  exact om408 h1 h2 this
theorem ze4 {ws : List Str} {gs : List Int} {n : Nat} (hwl : ∀ x ∈ ws, x.length ≤ n) (hgl : ∀ x ∈ gs, 0 ≤ x ∧ x ≤ 9) : ∀ y ∈ pieces ws gs, y.length ≤ n + 9 := by
 intro y hy
 obtain ⟨⟨a, b⟩, hab, rfl⟩ := List.mem_map.mp hy
 have h1 := hgl a (List.of_mem_zip hab).1
 have h2 := hwl b (List.of_mem_zip hab).2
 have h3 := zce h1.1
 show (zao a ++ b).length ≤ n + 9
 rw [Str.length_append]; exact om409 h1 h2 h3
theorem zf3 {vs : List Value} {ys : List Int} (h : IntsAre vs ys) : vs.length = ys.length := by
 induction h with
 | nil => rfl
 | cons z u _ ih => simp [ih]
theorem zkv {vs : List Value} {ns : List Str} (h : StrsAre vs ns) : ∀ {i : Nat} {v : Value}, vs[i]? = some v → ∃ x t, ns[i]? = some x ∧ v = .str x t := by
 induction h with
 | nil => intro i v e; simp at e
 | cons n t _ ih =>
  intro i v e
  cases i with
  | zero => simp at e; subst e; exact ⟨_, _, rfl, rfl⟩
  | succ i => simp at e; simpa using ih e
section
set_option tactic.hygienic true in
theorem c_text {aW nW aG nG : Nat} {vW vG : List Value} {ws : List Str} {gs : List Int} {Q : VP} (G : Gd w uu) (W : Wd uu vv h) (P : Rm A vv 20)
  (hW : h.get? aW = some (zaa vW nW)) (hWF : aW ∉ zab vv) (hWT : ¬ za9 aW) (hG : h.get? aG = some (zaa vG nG)) (hGF : aG ∉ zab vv) (hGT : ¬ za9 aG)
  (hws : StrsAre vW ws) (hgs : IntsAre vG gs) (hl : gs.length = ws.length) (hn : ws.length ≤ 20) (hwl : ∀ x ∈ ws, x.length ≤ 300) (hgl : ∀ x ∈ gs, 0 ≤ x ∧ x ≤ 9)
  (hq : ∀ (t : Nat) h' tk', Ret uu vv h h' → Q (.str (zbo ws gs) t) ⟨h', g, d, tk', os⟩) :
  wpAny (Mo w) A (call (.ref 251) [.ref aW, .ref aG]) Q E ⟨h, g, d, tk, os⟩ := by
 refine zm4 (binds := [(ofString "words", .ref aW), (ofString "gaps", .ref aG)]) G W P (G.get W.inv (a := 251) rfl) rfl rfl rfl rfl ⟨_, _, _, _, rfl, G.get W.inv (a := 250) rfl, rfl, rfl⟩ rfl (by decide) (zba rfl) (zP ⟨rfl, rfl⟩) ?_
 intro L h₁ tk₁ S0 R
 have S1 := S0.entry hW hWF List.not_mem_nil hWT (fun q hq => nomatch hq)
 have S := S1.entry hG hGF List.not_mem_nil hGT (fun q hq => nomatch hq)
 clear S0 S1
 have sz : sizeLine = 16777216 := rfl
 refine zjx ?_
 with_reducible refine zeb (x := ofString "") (t := 0) ?_ F.slot_str_join F.type_str_join ?za ?zb ?zc
 case za => walk_at "ab"
 case zb => rfl
 case zc => rfl
 walk_at "All"
 refine ⟨_, _, rfl, ?_⟩
 walk_at "All"
 refine e_comp (cl := []) ?_ rfl rfl (by decide)
 walk_at "All"
 refine n_zip (by with_reducible assumption) (by walk_at "mem") (by walk_at "mem") ?_
 intro z TI TO i1 i2 o1 o2 h2 hi1 hi2 S2
 refine wpAny_pyIter_zip (S2.hrw _ (.head _)).1 ?_
 obtain ⟨oL, _, _, hoL, _⟩ := id S2.ns
 refine zmy (its := [(z, zb7 .none TI TO), (TO, zac [.none, .none]), (i2, o2), (i1, o1)]) (rw := []) hoL (itr_zip (.tail _ (.tail _ (.head _))) (.tail _ (.tail _ (.tail _ (.head _)))) (.tail _ (.head _)) (fun j j => List.not_mem_nil)) R.handled ?_
  (fun i vs => StrsAre vs ((pieces ws gs).take i) ∧ vs.length ≤ i) (fun j j hp => hp.2) S2 ⟨.nil, Ze _⟩ ⟨_, _, _, _, rfl, hi1, hi2⟩ (by decide) rfl ?_ ?_
 ·have := zax hws
  exact om410 hn this
 ·rintro C acc i v new vs m l its h3 tk3 hi ⟨T, x, y, rfl, rfl, hx, hy⟩ ⟨hvs, hvl⟩ S3
  obtain ⟨a, ta, ha, rfl⟩ := zie hgs hx
  obtain ⟨b, tb, hb, rfl⟩ := zkv hws hy
  have hab : (pieces ws gs).take (i + 1) = (pieces ws gs).take i ++ [zao a ++ b] := by
   rw [List.take_add_one]
   have : (pieces ws gs)[i]? = some (zao a ++ b) := by
    unfold pieces
    rw [List.getElem?_map, show (gs.zip ws)[i]? = some (a, b) from by rw [List.getElem?_zip_eq_some]; exact ⟨ha, hb⟩]
    rfl
   rw [this]; rfl
  rw [hab]
  refine zjw R.handled S3 (S3.hro _ (.head _)).1 ?_
  intro _ _
  walk_at "All"
  refine zb4 ?_
  walk_at "All"
  have hga := hgl a (zR ha)
  have hwb := hwl b (zR hb)
  refine zg7 (mulOk_of 1 9 (zW rfl) (by exact om365 hga) (by exact om411 hga) (by decide) (by decide)) ?_
  intro _ _
  walk_at "All"
  refine zc3 ?_ (by have := zce hga.1; show (zao a).length + b.length ≤ sizeLine; exact om367 hga hwb this)
  intro _ _
  rename_i S9 _ _ _ _
  exact CpE.mk ⟨zbe hvs _ _, by simp; exact om50 hvl⟩ (S9.drop (List.sublist_cons_self _ _) (List.Sublist.refl _))
 ·rintro acc vs m h3 tk3 ⟨hvs, hvl⟩ hacc S3
  walk_at "All"
  have e1 : (pieces ws gs).take (min vG.length vW.length) = pieces ws gs := by
   apply Zh
   have := zf3 hgs
   have := zax hws
   simp [pieces]; exact om412 (by assumption) this
  rw [e1] at hvs
  have hpl : (pieces ws gs).length ≤ 20 := by simp [pieces]; exact om413 hn
  have hsum := zdx (ze4 hwl hgl)
  have : (pieces ws gs).length * 309 ≤ 20 * 309 := Zf _ hpl
  refine join_listW (S3.isList (.inr (.head _))) hvs (by decide) (by exact om414 hpl hsum) ?_
  intro t' k
  exact hq t' _ _ (S3.ret)
end
noncomputable def dotS : Str := ofString "."
noncomputable def zav (x : Str) : Str × Str :=
 if x.cps.toList < (ofString "5").cps.toList then (ofString "SunOS", x)
 else match Txt.split x dotS with
  | [] => (ofString "Solaris", x)
  | p :: r => match PySem.intText? p with
   | none => (ofString "Solaris", x)
   | some n => (ofString "Solaris", Txt.join dotS (zag (n - 3) :: r))
theorem zfm (x : Str) : Txt.split x dotS ≠ [] := by
 unfold Txt.split
 split
 ·exact fun e => nomatch e
 ·split
  ·exact fun e => nomatch e
  ·intro e
   have := congrArg List.length e
   rw [length_partsBetween] at this
   cases this
theorem zdt {y p : Str} {c : Nat} (hc : c ∈ p.cps.toList) : ∀ {ps : List Str}, p ∈ ps → c ∈ (Str.join y ps).cps.toList
 | [a], hp => by
  rw [zS hp] at hc
  exact hc
 | a :: b :: r, hp => by
  show c ∈ (a ++ y ++ Str.join y (b :: r)).cps.toList
  rw [Str.cps_append, Str.cps_append, Array.toList_append, Array.toList_append]
  rcases zC hp with rfl | hp
  ·exact List.mem_append_left _ (List.mem_append_left _ hc)
  ·exact List.mem_append_right _ (zdt hc hp)
theorem zgr {x p : Str} {c : Nat} (hp : p ∈ Txt.split x dotS) (hc : c ∈ p.cps.toList) : c ∈ x.cps.toList := by
 have := zdt (y := dotS) hc hp
 rw [StrLaws.join_split] at this
 exact this
section
set_option tactic.hygienic true in
theorem c_alias {x v : Str} {t1 t2 t3 : Nat} {Q : VP} (G : Gd w uu) (W : Wd uu vv h) (P : Rm A vv 20)
  (hasc : ∀ c ∈ x.cps.toList, c ≠ 0 ∧ c < 128) (hlen : x.length ≤ 640) (hnum : ∀ p n, p ∈ Txt.split x dotS → PySem.intText? p = some n → n.natAbs < 10 ^ 8)
  (hq : ∀ (a u1 u2 : Nat) h' tk', Ret uu vv h h' → h'.get? a = some (zac [.str (zav x).1 u1, .str (zav x).2 u2, .str v t3]) → Q (.ref a) ⟨h', g, d, tk', os⟩) :
  wpC (Mo w) A (call (.ref 66) [.str (ofString "SunOS") t1, .str x t2, .str v t3]) Q E ⟨h, g, d, tk, os⟩ := by
 refine zm5 (binds := [(ofString "system", .str (ofString "SunOS") t1), (ofString "release", .str x t2), (ofString "version", .str v t3)]) G W P (G.get W.inv (a := 66) rfl) rfl rfl rfl rfl ⟨_, _, _, _, rfl, G.get W.inv (a := 65) rfl, rfl, rfl⟩ rfl (by decide) (zba rfl) (zP ⟨rfl, rfl⟩) ?_
 intro L h₁ tk₁ S R
 refine zhp (zy ?_)
 walk_at "All"
 refine zhp (zy ?_)
 walk_at "All"
 by_cases h5 : x.cps.toList < (ofString "5").cps.toList
 ·rw [zH (by simpa using h5)]
  refine zdo (zy ?_)
  walk_at "All"
  rename_i a h2 S2
  have ha : zav x = (ofString "SunOS", x) := by unfold zav; rw [if_pos h5]
  exact hq _ _ _ _ _ S2.ret (by rw [ha]; exact (S2.hro _ (.head _)).1)
 ·rw [zG (by simpa using h5)]
  refine za6 ?_
  refine zbu ?_
  with_reducible refine zby ?_ ?zz
  case zz => rfl
  with_reducible refine zeb (x := ofString "") (t := 0) ?_ F.slot_str_split F.type_str_split ?za ?zb ?zc
  case za => walk_at "ab"
  case zb => rfl
  case zc => rfl
  walk_at "All"
  refine ⟨_, _, rfl, ?_⟩
  walk_at "All"
  refine zlk (by with_reducible assumption) (by decide) (by exact om415 hlen) ?_
  intro a vs h2 tk2 hvs S2
  walk_at "All"
  rename_i h3 S3
  refine zhp (zy ?_)
  refine wpAny_isTrue_value ?_
  walk_at "All"
  have hne : Txt.split x dotS ≠ [] := zfm x
  obtain ⟨p, r, hpr⟩ : ∃ p r, Txt.split x dotS = p :: r := by
   cases e : Txt.split x dotS with
   | nil => exact absurd e hne
   | cons p r => exact ⟨p, r, rfl⟩
  have hvs' : StrsAre vs (p :: r) := hpr ▸ hvs
  obtain ⟨tp, vr, rfl, hvr⟩ : ∃ tp vr, vs = .str p tp :: vr ∧ StrsAre vr r := by cases hvs'; exact ⟨_, _, rfl, by assumption⟩
  have lr := zax hvr
  have hw := PyProof.Rows.split_weight x dotS (by decide)
  rw [hpr] at hw
  have hpa : ∀ c ∈ p.cps.toList, c ≠ 0 ∧ c < 128 := fun c hc => hasc c (zgr (by rw [hpr]; exact .head _) hc)
  refine wpAny_truthy_list (S3.isList (.inr (.head _))) (by simp; exact om416 hlen lr hw) ?_
  refine iteT ?_
  refine zmr (L := L) (ww := h) (X := []) (g := g) (d := d) (os := os) G R.frames rfl (by intro z; cases z) ?_
  refine zeg (zbc ?_) rfl
  walk_at "All"
  refine zgc (zy ?_) rfl
  walk_at "All"
  refine zjd (by with_reducible assumption) (by walk_at "either") (.inl rfl) (j := 0) rfl (by simp; exact om417 hlen lr hw) ?_
  walk_at "All"
  cases hi : PySem.intText? p with
  | none =>
   have ha : zav x = (ofString "Solaris", x) := by unfold zav; rw [if_neg h5, hpr]; dsimp only; rw [hi]
   refine zmw R.handled (by exact om418 hlen hw) hi hpa ?_
   intro h4 e v' tk4 hm
   refine ⟨e, v', _, _, _, _, _, _, _, rfl, rfl, S3, hm, ?_⟩
   intro h5 tk5 S5
   walk_at "All"
   refine za6 ?_
   refine zhp (zy ?_)
   walk_at "All"
   split
   all_goals
    refine zy ?_
    walk_at "All"
    refine za6 ?_
    refine zdo (zy ?_)
    walk_at "All"
    rename_i S9
    exact hq _ _ _ _ _ S9.ret (by rw [ha]; exact (S9.hro _ (.head _)).1)
  | some n =>
   have ha : zav x = (ofString "Solaris", Txt.join dotS (zag (n - 3) :: r)) := by unfold zav; rw [if_neg h5, hpr]; dsimp only; rw [hi]
   refine zy (KIN.call_text hi (by exact om418 hlen hw) ?_)
   refine zy ?_
   walk_at "All"
   refine za6 ?_
   refine zbu ?_
   walk_at "All"
   have hnb := hnum p n (by rw [hpr]; exact .head _) hi
   refine zbu ?_
   walk_at "All"
   refine zdr R.handled G (St.inv (by assumption)) (by exact om419 hnb) ?_
   walk_at "All"
   refine o_set (by with_reducible assumption) (j := 0) (by walk_at "led") (.inl rfl) (by simp) (by simp; exact om417 hlen lr hw) ?_
   intro _ _
   walk_at "All"
   refine zbu ?_
   with_reducible refine zby ?_ ?zz
   case zz => rfl
   with_reducible refine zeb (x := ofString "") (t := 0) ?_ F.slot_str_join F.type_str_join ?za ?zb ?zc
   case za => walk_at "ab"
   case zb => rfl
   case zc => rfl
   walk_at "All"
   refine ⟨_, _, rfl, ?_⟩
   walk_at "All"
   rename_i h7 S7
   refine join_listW (ys := zag (n - 3) :: r) (S7.isList (.inr (.head _))) (.cons _ _ hvr) (by decide) ?_ ?_
   ·have : (zag (n - 3)).length ≤ 10 := by
     unfold zag
     rw [PySem.ofString_length]
     exact int_text_length_le10 (k := 9) (by decide) (by exact om419 hnb)
    exact om420 hlen hw this
   intro t' k
   walk_at "All"
   refine za6 ?_; refine za6 ?_
   refine zhp (zy ?_)
   walk_at "All"
   split
   all_goals
    refine zy ?_
    walk_at "All"
    refine za6 ?_
    refine zdo (zy ?_)
    walk_at "All"
    rename_i S9
    exact hq _ _ _ _ _ S9.ret (by rw [ha]; exact (S9.hro _ (.head _)).1)
end
section
theorem zl1 {f it it' : Value} {h' : Heap} (hi : ∀ (A : Around) (E : VP) (Q : VP), Q it' ⟨h', g, d, tk, os⟩ → wpAny (Mo w) A (pyIter it) Q E ⟨h, g, d, tk, os⟩)
  (hq : Q (.ref (h'.objs.size + 1)) ⟨(h'.push (zac [it'])).push (za8 h'.objs.size f), g, d, tk, os⟩) : wpAny (Mo w) A (call (.type "map") [f, it]) Q E ⟨h, g, d, tk, os⟩ := by
 have e1 : (h'.push (zac [it'])).objs.size = h'.objs.size + 1 := Heap.size_push ..
 rw [← e1] at hq
 refine callType_codes (Q₁ := fun obj s₁ => obj = .ref (h'.push (zac [it'])).objs.size ∧ s₁ = ⟨(h'.push (zac [it'])).push (za8 h'.objs.size f), g, d, tk, os⟩) zdm (zeo _ _) F.entry_object_init ?_ ?_
 ·refine codeAny_call_builtin zdm.plain zf8 (wpAny_of_eq (zfu _ _) ?_)
  have hsub := sub_map
  repeat (any_goals (first | assumption | ((with_reducible show wpAny _ _ (pyIter _) _ _ _); apply hi) | wp_step))
  exact ⟨rfl, rfl⟩
 ·rintro obj s₁ ⟨rfl, rfl⟩
  refine ⟨⟨_, zL _ rfl, rfl⟩, F.args_object_init_3 _ _ _, ?_⟩
  have g1 := object_init_meets (self := .ref (h'.push (zac [it'])).objs.size) (rest := [f, it]) zc1.lookup zdm.made (by decide +kernel)
  exact g1 _ _ _ _ _ ⟨⟨_, zL _ rfl, rfl⟩, rfl, hq⟩
theorem zjl {M T : Nat} {f : Value} {s : Shared} (hM : s.heap.get? M = some (za8 T f)) (hq : Q (.ref M) s) : wpAny (Mo w) A (pyIter (.ref M)) Q E s := by
 have hT : s.TypeIs (.ref M) "map" := ⟨_, hM, rfl⟩
 refine wpAny_pyIter_slot hT zc0 (wpAny_call_entry zc0 hT zev ?_ (zgi _))
 exact zP ⟨_, rfl, "map", _, hT, zbk.lookup, hq⟩
theorem n_mapL {f : Value} {a n : Nat} {vs : List Value} (S : St uu ww X vv L l ro rw tl h) (hm : (a, zaa vs n) ∈ ro ∨ (a, zaa vs n) ∈ rw)
  (hq : ∀ i1 T1 M1 io h', IsIt a 0 io → h.get? i1 = none → St uu ww X vv L l ((M1, za8 T1 f) :: (T1, zac [.ref i1]) :: ro) ((i1, io) :: rw) tl h' → Q (.ref M1) ⟨h', g, d, tk, os⟩) :
  wpAny (Mo w) A (call (.type "map") [f, .ref a]) Q E ⟨h, g, d, tk, os⟩ := by
 have S1 := S.allocW { cls := .type "list_iterator", data := .fields #[.ref a, .int 0 0] } rfl (clsNe (by decide))
 have S2 := S1.allocR (zac [.ref h.objs.size]) rfl
 have S3 := S2.allocR (za8 (h.push { cls := .type "list_iterator", data := .fields #[.ref a, .int 0 0] }).objs.size f) rfl
 refine zl1 (it' := .ref h.objs.size) (h' := h.push { cls := .type "list_iterator", data := .fields #[.ref a, .int 0 0] }) (fun A E Q q => wpAny_pyIter_list (S.isList hm) q) (hq h.objs.size (h.push { cls := .type "list_iterator", data := .fields #[.ref a, .int 0 0] }).objs.size _ { cls := .type "list_iterator", data := .fields #[.ref a, .int 0 0] } _ ⟨rfl, rfl⟩ getN ?_)
 rw [Heap.size_push] at S3
 exact S3
theorem n_mapM {f f' : Value} {M T : Nat} (S : St uu ww X vv L l ro rw tl h) (hm : (M, za8 T f') ∈ ro)
  (hq : ∀ T1 M1 h', St uu ww X vv L l ((M1, za8 T1 f) :: (T1, zac [.ref M]) :: ro) rw tl h' → Q (.ref M1) ⟨h', g, d, tk, os⟩) :
  wpAny (Mo w) A (call (.type "map") [f, .ref M]) Q E ⟨h, g, d, tk, os⟩ := by
 have S2 := S.allocR (zac [.ref M]) rfl
 have S3 := S2.allocR (za8 h.objs.size f) rfl
 refine zl1 (it' := .ref M) (h' := h) (fun A E Q q => zjl (S.hro _ hm).1 q) (hq h.objs.size _ _ ?_)
 rw [Heap.size_push] at S3
 exact S3
theorem slotCs {self : Value} {T : String} {name : Str} {id : String} {args : List Value} {Q : Option Value → SP} {M : Model} {s : Shared} (hT : s.TypeIs self T) (h : Slot T name id)
  (hc : wpC M A (call (.builtin id) (self :: args)) (fun v => Q (some v)) E s) : wpC M A (callSpecial? self name args) Q E s := by
 refine zw (zy (wpAny_specialOf hT h.lookup ?_))
 simp only [h.bind]
 exact wpC.holding (zw (zy (zP (zw (hc.mono (fun v s' h' => zy (zP h')) fun j j h' => h')))))
theorem zkr {T newId initId : String} {Bi : Builtin} {args : List Value} {Q₁ : VP} {s : Shared} (ft : TypeCalled T newId initId)
  (hct : checkTypeCall T ⟨args, []⟩ = pure ()) (entryI : entryFor table initId = some Bi)
  (hnew : codeAny (Mo w) A.in1 (.call (.builtin newId) ⟨.type T :: args, []⟩) (wants Q₁ E) s)
  (hnext : ∀ obj s₁, Q₁ obj s₁ → s₁.TypeIs obj T ∧ argsOk initId ⟨obj :: args, []⟩ ∧
   wpC (Mo w) A.in1.in1 (Bi ⟨obj :: args, []⟩)
    (fun fin s' => match fin with | .done f => (match f with | .ret r => r = .none ∧ Q obj s' | _ => False) | .again c' => c'.quiet = true ∧ codeC (Mo w) A.in1 c' (fun r s' => match r with | .ok (.ret r) => r = .none ∧ Q obj s' | .ok _ => False | .error e => E e s') s')
    E s₁) :
  wpC (Mo w) A (call (.type T) args) Q E s := by
 obtain ⟨c, tl, hmro⟩ := ft.mro
 have hmade := ft.made
 have hsub := ft.sub
 refine wpC.call (codeC.tree ?_)
 refine zy (zP ⟨Code.quiet_builtin _ (by decide +kernel), codeC.builtin F.entry_type_call ?_⟩)
 rw [Around.under_plain (weight_type_call_type T args []) (units_type_call_type T args [])]
 have h1 := ft.notType
 have h2 := ft.canCreate
 refine wpC.iteF (by rw [h1]; exact zF) ?_
 refine wpC.iteF (c := ((Manifest.find? T).bind fun x => List.findSome? (fun t => (Manifest.find? t).bind fun b => if b.noNew = true then some true else if (b.attrs.any fun x => x.fst == "__new__") = true then some false else none) x.mro).getD false = true) (by rw [h2]; exact zF) ?_
 rw [hct]
 refine zw (zy (zP ?_))
 rw [hmro]
 refine zw (zy (zP ?_))
 refine wpC.iteF (by simp) ?_
 rw [hmade]
 refine zw (zy (zP ?_))
 refine zw (zy (zP ?_))
 refine zw (wpC.holding (wpC.call (codeC.any (codeAny_mono hnew fun r s₁ hr => ?_))))
 cases r with
 | error e => exact hr
 | ok fl =>
  cases fl with
  | ret obj =>
   obtain ⟨hT, hok, hsi⟩ := hnext _ _ hr
   refine zw (zy (wpAny_isInstance hT hsub ?_))
   refine wpC.iteF (by simp) ?_
   refine zw (wpC.holding (slotCs hT ft.init ?_))
   refine wpC.call (codeC.tree ?_)
   refine zw (zy (ft.init.check _ _ _ _ _ _ _ _ hT hok (zy (zP ⟨plainId_quiet ft.init.plain _, codeC.builtin entryI ?_⟩))))
   rw [Around.under_plainId ft.init.plain _]
   refine hsi.mono (fun fin s' q => ?_) fun j j z => z
   cases fin with
   | done f =>
    cases f with
    | ret r =>
     obtain ⟨rfl, q⟩ := q
     exact wpC.iteF (by decide) (zy (zP q))
    | _ => exact q.elim
   | again c' =>
    refine ⟨q.1, codeC.mono q.2 fun r s' q => ?_⟩
    cases r with
    | error e => exact q
    | ok fl =>
     cases fl with
     | ret r =>
      obtain ⟨rfl, q⟩ := q
      exact wpC.iteF (by decide) (zy (zP q))
     | _ => exact q.elim
  | _ => exact hr.elim
theorem mi_next {a nA i1 T1 M1 i : Nat} {vs : List Value} {io : Obj} {x : Str} {t : Nat} (hh : A.handled = none) (S : St uu ww X vv L l ro ((i1, io) :: rw) tl h) (mA : (a, zaa vs nA) ∈ ro ∨ (a, zaa vs nA) ∈ rw)
  (m1 : (M1, za8 T1 (.type "int")) ∈ ro) (t1 : (T1, zac [.ref i1]) ∈ ro) (hio : IsIt a i io) (hv : vs[i]? = some (.str x t)) (hx : x.length ≤ 640) (h0 : ∀ c ∈ x.cps.toList, c ≠ 0 ∧ c < 128)
  (hq : ∀ n io' h' u tk', PySem.intText? x = some n → IsIt a (i + 1) io' → St uu ww X vv L l ro ((i1, io') :: rw) tl h' → Q (.int n u) ⟨h', g, d, tk', os⟩)
  (he : ∀ e v io' h' hh tk', PySem.intText? x = none → St uu ww X vv L l ro ((i1, io') :: rw) tl h' → Heap.MadeExc h' hh e "ValueError" [v] → E (.ref e) ⟨hh, g, d, tk', os⟩) :
  wpC (Mo w) A (call (.builtin "map.__next__") [.ref M1]) Q E ⟨h, g, d, tk, os⟩ := by
 refine zc6 (S.hro _ m1).1 (S.hro _ t1).1 (zy (nx_list (S.hrw _ (.head _)).1 hio (S.isList (mA.imp id fun z => .tail _ z)) hv fun h' io' ho' hio' hs => ?_))
 have S' : St uu ww X vv L l ro ((i1, io') :: rw) tl h' := S.chgS .head hs ho' hio'.ne
 refine ⟨(S'.hro _ m1).1, ?_⟩
 cases hi : PySem.intText? x with
 | some n => exact zy (KIN.call_text hi hx (hq n io' h' _ _ hi hio' S'))
 | none => exact zmw hh hx hi h0 fun hh' e v tk' hm => he e v io' h' hh' tk' hi S' hm
theorem mi_end {a nA i1 T1 M1 i : Nat} {vs : List Value} {io : Obj} (hh : A.handled = none) (S : St uu ww X vv L l ro ((i1, io) :: rw) tl h) (mA : (a, zaa vs nA) ∈ ro ∨ (a, zaa vs nA) ∈ rw) (hX : i1 ∉ X)
  (m1 : (M1, za8 T1 (.type "int")) ∈ ro) (t1 : (T1, zac [.ref i1]) ∈ ro) (hio : IsIt a i io) (hv : vs[i]? = none)
  (he : ∀ e h', Shared.TypeIs ⟨h', g, d, tk, os⟩ (.ref e) "StopIteration" → St uu ww X vv L l ro rw tl h' → E (.ref e) ⟨h', g, d, tk, os⟩) :
  wpC (Mo w) A (call (.builtin "map.__next__") [.ref M1]) Q E ⟨h, g, d, tk, os⟩ := by
 refine zc6 (S.hro _ m1).1 (S.hro _ t1).1 (zy (nx_end hh (S.hrw _ (.head _)).1 hio (S.isList (mA.imp id fun z => .tail _ z)) hv fun h' e j hT hx => ?_))
 exact he e h' hT (S.lose rfl hX hx)
theorem nextC {M T : Nat} {f : Value} {s : Shared} (hM : s.heap.get? M = some (za8 T f)) (h : wpC (Mo w) A (call (.builtin "map.__next__") [.ref M]) Q E s) : wpC (Mo w) A (Builtin.SmallTypes.nextOf (.ref M)) Q E s := by
 exact zw (slotC ⟨_, hM, rfl⟩ zbk (h.mono (fun v s' q => zy (zP q)) fun j j z => z))
theorem zlc {M T : Nat} {f : Value} {s : Shared} {Q : Option Value → SP} (hM : s.heap.get? M = some (za8 T f))
  (h : wpC (Mo w) A (call (.builtin "map.__next__") [.ref M]) (fun v s' => Q (some v) s') (fun e s' => (s'.TypeIs e "StopIteration" ∧ Q none s') ∨ (s'.TypeIs e "ValueError" ∧ E e s')) s) : wpC (Mo w) A (pyNext (.ref M)) Q E s := by
 refine zw (wpC.attempt (slotC ⟨_, hM, rfl⟩ zbk (h.mono (fun v s' q => zy (zP q)) fun e s' q => ?_)))
 rcases q with ⟨hT, q⟩ | ⟨hT, q⟩
 ·exact zw (zy (wpAny_isInstance (T := "StopIteration") (b := true) hT isSubtype_stop (wpC.iteT rfl (zy (zP q)))))
 ·exact zw (zy (wpAny_isInstance (T := "ValueError") (b := false) hT (isSubtype_of_subB (by decide +kernel)) (wpC.iteF (by decide) (zy (wpAny_throw q)))))
theorem zl3 {α β : Type} (f : α → Option β) (xs : List α) : ∀ i x, xs[i]? = some x → ∀ ns, (xs.take i).mapM f = some ns → ∀ n, f x = some n → (xs.take (i + 1)).mapM f = some (ns ++ [n]) := by
 intro i x hx ns hns n hn
 rw [List.take_add_one, hx, Option.toList_some, List.mapM_append, hns]
 simp [hn]
theorem zhb {α β : Type} (f : α → Option β) : ∀ (xs : List α) x, x ∈ xs → f x = none → xs.mapM f = none
 | [], _, h, _ => nomatch h
 | y :: r, x, h, e => by
  rw [List.mapM_cons]
  rcases zC h with rfl | h
  ·rw [e]; rfl
  ·rw [zhb f r x h e]; cases f y <;> rfl
end
section
structure Maps (ro rw : LO) (a i1 M2 : Nat) (vs : List Value) (xs : List Str) : Prop where
 ex : ∃ nA T1 M1 T2, ((a, zaa vs nA) ∈ ro ∨ (a, zaa vs nA) ∈ rw) ∧ (M1, za8 T1 (.type "int")) ∈ ro ∧ (T1, zac [.ref i1]) ∈ ro ∧ (M2, za8 T2 (.type "str")) ∈ ro ∧ (T2, zac [.ref M1]) ∈ ro
 txt : StrsAre vs xs
 len : xs.length ≤ 1000
 good : ∀ x ∈ xs, x.length ≤ 640 ∧ (∀ c ∈ x.cps.toList, c ≠ 0 ∧ c < 128) ∧ ∀ n, PySem.intText? x = some n → n.natAbs < 10 ^ 8
theorem Maps.item {a i1 M2 i S' nS : Nat} {vs us : List Value} {xs : List Str} {io : Obj} {x : Str} (K : Maps ro rw a i1 M2 vs xs) (G : Gd w uu) (hh : A.handled = none) (S : St uu ww X vv L l ro ((i1, io) :: (S', zaa us nS) :: rw) tl h)
  (hio : IsIt a i io) (hx : xs[i]? = some x) {Q : Option Value → SP}
  (hq : ∀ n io' h' u tk', PySem.intText? x = some n → IsIt a (i + 1) io' → St uu ww X vv L l ro ((i1, io') :: (S', zaa us nS) :: rw) tl h' → Q (some (.str (zag n) u)) ⟨h', g, d, tk', os⟩)
  (he : ∀ e v io' h' hh tk', PySem.intText? x = none → St uu ww X vv L l ro ((i1, io') :: (S', zaa us nS) :: rw) tl h' → Heap.MadeExc h' hh e "ValueError" [v] → E (.ref e) ⟨hh, g, d, tk', os⟩) :
  wpC (Mo w) A (pyNext (.ref M2)) Q E ⟨h, g, d, tk, os⟩ := by
 obtain ⟨nA, T1, M1, T2, qz⟩ := K.ex
 have mA := qz.1
 have m1 := qz.2.1
 have t1 := qz.2.2.1
 have m2 := qz.2.2.2.1
 have t2 := qz.2.2.2.2
 obtain ⟨t, hv⟩ := zbj K.txt hx
 have qz := K.good x (zR hx)
 have g1 := qz.1
 have g2 := qz.2.1
 have g3 := qz.2.2
 refine zlc (S.hro _ m2).1 (zc6 (S.hro _ m2).1 (S.hro _ t2).1 (nextC (S.hro _ m1).1 (mi_next hh S (mA.imp id fun z => .tail _ z) m1 t1 hio hv g1 g2 ?_ ?_)))
 ·intro n io' h' u tk' hn hio' S'
  refine ⟨(S'.hro _ m2).1, zy (zdr hh G S'.inv (Nat.lt_trans (g3 n hn) (by decide)) ?_)⟩
  exact hq n io' h' _ _ hn hio' S'
 ·intro e v io' h' hh' tk' hn S' hm
  refine .inr ⟨?_, he e v io' h' hh' tk' hn S' hm⟩
  obtain ⟨t, qz⟩ := hm.there
  have ht := qz.1
  exact ⟨_, ht, rfl⟩
theorem Maps.stop {a i1 M2 i S' nS : Nat} {vs us : List Value} {xs : List Str} {io : Obj} (K : Maps ro rw a i1 M2 vs xs) (hh : A.handled = none) (hX : i1 ∉ X) (S : St uu ww X vv L l ro ((i1, io) :: (S', zaa us nS) :: rw) tl h)
  (hio : IsIt a i io) (hx : xs[i]? = none) {Q : Option Value → SP}
  (hq : ∀ h', St uu ww X vv L l ro ((S', zaa us nS) :: rw) tl h' → Q none ⟨h', g, d, tk, os⟩) :
  wpC (Mo w) A (pyNext (.ref M2)) Q E ⟨h, g, d, tk, os⟩ := by
 obtain ⟨nA, T1, M1, T2, qz⟩ := K.ex
 have mA := qz.1
 have m1 := qz.2.1
 have t1 := qz.2.2.1
 have m2 := qz.2.2.2.1
 have t2 := qz.2.2.2.2
 have hv : vs[i]? = none := by
  rw [List.getElem?_eq_none_iff] at hx ⊢
  rw [zax K.txt]; exact hx
 refine zlc (S.hro _ m2).1 (zc6 (S.hro _ m2).1 (S.hro _ t2).1 (nextC (S.hro _ m1).1 (mi_end hh S (mA.imp id fun z => .tail _ z) hX m1 t1 hio hv ?_)))
 intro e h' hT S'
 exact .inl ⟨hT, hq h' S'⟩
theorem Maps.loop {a i1 M2 S' : Nat} {vs : List Value} {xs : List Str} {io : Obj} {nS : Nat} (K : Maps ro rw a i1 M2 vs xs) (G : Gd w uu) (hh : A.handled = none) (hX : i1 ∉ X) (S : St uu ww X vv L l ro ((i1, io) :: (S', zaa [] nS) :: rw) tl h)
  (hio : IsIt a 0 io)
  (hq : ∀ ns us nS h' tk', xs.mapM PySem.intText? = some ns → StrsAre us (ns.map zag) → St uu ww X vv L l ro ((S', zaa us nS) :: rw) tl h' → Q .none ⟨h', g, d, tk', os⟩)
  (he : ∀ e v h' hh tk', xs.mapM PySem.intText? = none → St uu ww X vv L l ro rw tl h' → Heap.MadeExc h' hh e "ValueError" [v] → E (.ref e) ⟨hh, g, d, tk', os⟩) :
  codeC (Mo w) A (.builtin "list.extend.loop" ⟨[.ref S', .ref M2, .none], []⟩) (fun r s' => match r with | .ok (.ret r) => Q r s' | .ok _ => False | .error e => E e s') ⟨h, g, d, tk, os⟩ := by
 refine codeC.loop (plainId_quiet F.plain_extend_loop _) (fun m s => ∃ i h tk io us nS ns, m = xs.length - i ∧ i ≤ xs.length ∧ s = ⟨h, g, d, tk, os⟩ ∧ IsIt a i io ∧ (xs.take i).mapM PySem.intText? = some ns ∧ StrsAre us (ns.map zag) ∧ us.length ≤ i ∧ St uu ww X vv L l ro ((i1, io) :: (S', zaa us nS) :: rw) tl h) ?_ xs.length
  ⟨0, h, tk, io, [], nS, [], rfl, Nat.zero_le _, rfl, hio, rfl, .nil, Ze _, S⟩
 clear S hio io nS
 rintro m s ⟨i, h, tk, io, us, nS, ns, rfl, hi, rfl, hio, hns, hus, hul, S⟩
 refine (Around.under_plainId F.plain_extend_loop _) ▸ ?_
 with_reducible refine wpC.den F.entry_extend_loop ?_
 show wpC _ A.in1 (pyNext (.ref M2) >>= _) _ _ _
 have sz : sizeLine = 16777216 := rfl
 have hl := K.len
 by_cases hlt : i < xs.length
 ·have hx : xs[i]? = some xs[i] := zI hlt
  refine zw (K.item G (A := A.in1) hh S hio hx ?_ ?_)
  ·intro n io' h' u tk' hn hio' S1
   show wpC _ A.in1 (updateSeq S' (·.push (.str (zag n) u)) >>= _) _ _ _
   have hS := (S1.hrw _ (.tail _ (.head _))).1
   refine zw (zy (wpAny_updateSeq hS rfl (zy (zP ⟨rfl, xs.length - (i + 1), by exact om1 hlt, i + 1, _, tk', io', us ++ [.str (zag n) u], nS + 1, ns ++ [n], rfl, hlt, rfl, hio', zl3 _ _ _ _ hx _ hns _ hn, ?_, by simp; exact om50 hul, ?_⟩)) (by simp; exact om51 hul hl hlt) (by simp; exact om51 hul hl hlt)))
   ·rw [List.map_append]; exact zbe hus _ _
   ·refine S1.chgS (.tail .head) (.update ..) ?_ (clsNe (by decide))
    have : (Obj.mapSeq (fun x => x.push (Value.str (zag n) u)) (zaa us nS)) = zaa (us ++ [.str (zag n) u]) (nS + 1) := by
     simp [Obj.mapSeq, zaa]
    refine this ▸ ?_
    exact Heap.get?_update_self _ hS rfl
  ·intro e v io' h' hh' tk' hn S1 hm
   exact he e v h' hh' tk' (zhb _ _ _ (List.getElem_mem hlt) hn) (S1.drop (List.Sublist.refl _) (.cons _ (.cons _ (List.Sublist.refl _)))) hm
 ·have hi' : i = xs.length := by exact om2 hi hlt
  subst hi'
  refine zw (K.stop (A := A.in1) hh hX S hio (List.getElem?_eq_none (Ze _)) ?_)
  intro h' S1
  rw [List.take_length] at hns
  exact zy (zP (hq ns us nS h' tk hns hus S1))
theorem St.swap {p q : Nat × Obj} (S : St uu ww X vv L l ro (p :: q :: rw) tl h) : St uu ww X vv L l ro (q :: p :: rw) tl h := by
 have mv : ∀ r : Nat × Obj, r ∈ q :: p :: rw → r ∈ p :: q :: rw := by
  intro r hr
  rcases zC hr with rfl | hr
  ·exact .tail _ (.head _)
  ·rcases zC hr with rfl | hr
   ·exact .head _
   ·exact .tail _ (.tail _ hr)
 refine ⟨S.inv, S.fr, S.keep, S.above, S.low, S.based, S.ns, S.hro, fun r hr => S.hrw r (mv r hr), ?_, fun r hr t ht => S.sep r hr t (mv t ht), S.htl⟩
 have := S.nd
 simp only [List.map_cons] at this ⊢
 exact (List.Perm.nodup_iff (List.Perm.swap _ _ _)).mpr this
theorem Maps.list {a i1 M2 : Nat} {vs : List Value} {xs : List Str} {io : Obj} (K : Maps ro rw a i1 M2 vs xs) (G : Gd w uu) (hh : A.handled = none) (hX : i1 ∉ X) (S : St uu ww X vv L l ro ((i1, io) :: rw) tl h)
  (hio : IsIt a 0 io)
  (hq : ∀ (S' : Nat) ns us nS h' tk', xs.mapM PySem.intText? = some ns → StrsAre us (ns.map zag) → St uu ww X vv L l ro ((S', zaa us nS) :: rw) tl h' → Q (.ref S') ⟨h', g, d, tk', os⟩)
  (he : ∀ e v h' hh tk', xs.mapM PySem.intText? = none → St uu ww X vv L l ro rw tl h' → Heap.MadeExc h' hh e "ValueError" [v] → E (.ref e) ⟨hh, g, d, tk', os⟩) :
  wpC (Mo w) A (call (.type "list") [.ref M2]) Q E ⟨h, g, d, tk, os⟩ := by
 refine zkr (Q₁ := fun obj s₁ => obj = .ref h.objs.size ∧ s₁ = ⟨h.push (zaa []), g, d, tk, os⟩) F.called_list (F.typeCall_list_1 _) F.entry_list_init (code_list_new _ ⟨rfl, rfl⟩) ?_
 rintro obj s₁ ⟨rfl, rfl⟩
 have S1 : St uu ww X vv L l ro ((h.objs.size, zaa []) :: (i1, io) :: rw) tl (h.push (zaa [])) := S.allocW (zaa []) rfl (clsNe (by decide))
 obtain ⟨nA, T1, M1, T2, qz⟩ := K.ex
 have mA := qz.1
 have m1 := qz.2.1
 have t1 := qz.2.2.1
 have m2 := qz.2.2.2.1
 have t2 := qz.2.2.2.2
 have hS := (S1.hrw _ (.head _)).1
 have hM := (S1.hro _ m2).1
 have hT : Shared.TypeIs ⟨h.push (zaa []), g, d, tk, os⟩ (.ref M2) "map" := ⟨_, hM, rfl⟩
 refine ⟨⟨_, hS, rfl⟩, F.args_list_init_2 _ _, ?_⟩
 show wpC _ _ (do let old ← Builtin.List.listItems (.ref h.objs.size); Builtin.List.listUpdate (.ref h.objs.size) (fun j => #[]); letGo old.toList.reverse; Builtin.List.listExtendWith (.ref h.objs.size) (.ref M2) .none) _ _ _
 refine zw (zy ?_)
 unfold Builtin.List.listItems
 refine zB (wpAny_seqItems hS rfl (zP ?_))
 refine zw (zy ?_)
 show wpAny _ _ (updateSeq h.objs.size (fun j => #[])) _ _ _
 refine wpAny_updateSeq hS rfl ?_
 refine zw (zy (wpAny_letGo ?_))
 have hS2 := Heap.get?_update_self (Obj.mapSeq (fun j => (#[] : Array Value))) hS rfl
 have S2 : St uu ww X vv L l ro ((h.objs.size, Obj.mapSeq (fun j => (#[] : Array Value)) (zaa [])) :: (i1, io) :: rw) tl ((h.push (zaa [])).update h.objs.size (Obj.mapSeq (fun j => (#[] : Array Value)))) := S1.chgS .head (.update ..) hS2 (clsNe (by decide))
 have hM2 := (S2.hro _ m2).1
 have hne : h.objs.size ≠ M2 := fun e => S1.sep _ m2 _ (.head _) e.symm
 unfold Builtin.List.listExtendWith
 have hT2 : Shared.TypeIs ⟨(h.push (zaa [])).update h.objs.size (Obj.mapSeq (fun j => (#[] : Array Value))), g, d, tk, os⟩ (.ref M2) "map" := ⟨_, hM2, rfl⟩
 refine zw (zy (wpAny_typeOf hT2 ?_))
 have h1 : Builtin.List.listSameRef (.ref h.objs.size) (.ref M2) = false := by simp [Builtin.List.listSameRef, hne]
 have h2 : (Value.type "map" == Value.type "list") = false := by decide
 have h3 : (Value.type "map" == Value.type "tuple") = false := by decide
 simp only [h1, h2, h3, Bool.or_false, Bool.false_eq_true, if_false]
 refine zw (zy (zjl hM2 ?_))
 refine zw (wpC.holding (zy ?_))
 unfold Builtin.List.listLengthHint
 refine zB (wpAny_specialOf hT2 zj9 ?_)
 show wpAny _ _ (specialOf (Value.ref M2) (ofString "__length_hint__") >>= _) _ _ _
 refine zB (wpAny_specialOf hT2 zic ?_)
 refine zP ?_
 show wpC _ _ (rule "list.extend.makes-room" >>= fun j => Builtin.List.listTouch (.ref h.objs.size) >>= fun j => again (.builtin "list.extend.loop" ⟨[.ref h.objs.size, .ref M2, .none], []⟩)) _ _ _
 refine zw (zy (wpAny_rule ?_))
 refine zw (zy ?_)
 show wpAny _ _ (updateSeq h.objs.size (·.push .none) >>= fun j => updateSeq h.objs.size (·.pop)) _ _ _
 refine zB (wpAny_updateSeq hS2 rfl ?_)
 have hS3 := Heap.get?_update_self (Obj.mapSeq (·.push Value.none)) hS2 rfl
 have S3 : St uu ww X vv L l ro _ tl _ := S2.chgS .head (.update ..) hS3 (clsNe (by decide))
 refine wpAny_updateSeq (hz := by seq_fits) hS3 rfl ?_
 have hS4 := Heap.get?_update_self (Obj.mapSeq (·.pop)) hS3 rfl
 have S4 : St uu ww X vv L l ro _ tl _ := S3.chgS .head (.update ..) hS4 (clsNe (by decide))
 have S5 : St uu ww X vv L l ro ((i1, io) :: (h.objs.size, zaa [] 2) :: rw) tl _ := S4.swap
 refine zy (zP ⟨plainId_quiet F.plain_extend_loop _, ?_⟩)
 refine codeC.mono (K.loop (Q := fun r s' => r = .none ∧ Q (.ref h.objs.size) s') (E := E) G hh hX S5 hio ?_ he) fun r s' q => ?_
 ·intro ns us nS h' tk' h1 h2 h3
  exact ⟨rfl, hq _ ns us nS h' tk' h1 h2 h3⟩
 ·cases r with
  | error e => exact q
  | ok f => cases f <;> exact q
end
theorem zhl {α β : Type} {M : Model} {A : Around} {E : VP} {f : α → β → Sem (ForInStep β)} {Q : β → SP} (I : Nat → β → SP)
  (h : ∀ k a st s, I (k + 1) st s → wpAny M A (f a st) (fun r s' => ∃ st', r = .yield st' ∧ I k st' s') E s) (hend : ∀ st s, I 0 st s → Q st s) : ∀ (l : List α) (init : β) (s : Shared), I l.length init s → wpAny M A (forIn l init f) Q E s
 | [], init, s, h0 => by rw [List.forIn_nil]; exact zP (hend _ _ h0)
 | a :: r, init, s, h0 => by
  rw [List.forIn_cons]
  refine zB (zM (h _ a init s h0) (fun x s' q => ?_) fun j j z => z)
  obtain ⟨st', rfl, q⟩ := q
  exact zhl I h hend r st' s' q
inductive Cuts (R : Nat → Option Nat) (text : Array Nat) : Nat → List Str → Prop
 | stop {p} : seek R (text.size - p) p = none → Cuts R text p [⟨text.extract p text.size⟩]
 | more {p b e L} : seek R (text.size - p) p = some (b, e) → Cuts R text e L → Cuts R text p (⟨text.extract p b⟩ :: ⟨text.extract b e⟩ :: L)
theorem zb1 : Slot "re.Pattern" "split" "re.Pattern.split" :=
 .of (owner := "re.Pattern") (n := "split") (by rw [typeLookup_type, builtinLookup_eq_fast]; kernel_rfl) (by decide +kernel) (by decide +kernel) (by decide +kernel)
  (by first | exact .inl (by decide +kernel) | exact .inr (by decide +kernel)) (by rw [isSubtype_type]; kernel_rfl)
theorem zco : entryFor table "re.Pattern.split" = some Builtin.«re.Pattern.split» := entryFor_of_tree (by kernel_rfl)
theorem zfi : typeOf (.builtin "re.Pattern.split") = pure (.type "method_descriptor") := by show builtinType _ = _; rw [builtinType_eq_fast]; kernel_rfl
section
@[reducible] noncomputable def zd6 (p0 p1 : Value) (T : Nat) : Obj := { cls := .type "re.Pattern", data := .fields #[p0, p1, .int 1 0, .none, .none, .ref T, .int 0 0] }
theorem zgu {R : Nat → Option Nat} {size : Nat} (hR : ∀ b e, b < size → R b = some e → b < e ∧ e ≤ size) : ∀ (n p : Nat), size - p = n → ∀ b e, seek R n p = some (b, e) → p ≤ b ∧ b < e ∧ e ≤ size ∧ R b = some e
 | 0, p, _, b, e, h => by cases h
 | n + 1, p, hn, b, e, h => by
  unfold seek at h
  cases hr : R p with
  | some e' =>
   rw [hr] at h
   obtain ⟨h1, h2⟩ := hR p e' (by exact om166 hn) hr
   injection h with h
   injection h with ha hb
   rw [← ha, ← hb]
   exact ⟨Ze _, h1, h2, hr⟩
  | none =>
   rw [hr] at h
   obtain ⟨h1, h2⟩ := zgu hR n (p + 1) (by exact om170 hn) b e h
   exact ⟨by exact om182 h1, h2⟩
theorem grp {t : Builtin.Re.ReTarget} {m : Sre.M} {b e : Nat} {s : Shared} (hk : t.kind = 0) (F : zhy b e m) (hbe : b ≤ e) (hz : t.text.size ≤ 100000) (hq : ∀ u tk', Q (.str ⟨t.text.extract b e⟩ u) { s with toks := tk' }) : wpAny (Mo w) A (Builtin.Re.reMachineGroup t m 1 (pure .none)) Q E s := by
 unfold Builtin.Re.reMachineGroup
 have h1 : ¬ ((2 * (1 - 1) : Nat) : Int) ≥ m.lastmark := by rw [F.2.2.2.1]; decide
 rw [zG h1, F.2.2.2.2]
 show wpAny _ _ (if e < b then _ else _) _ _ _
 rw [zG (by exact om161 hbe)]
 rw [hk]
 refine wpAny_mkStr (hq _ _) ?_
 show (t.text.extract b e).size ≤ 16777216
 rw [Array.size_extract]; exact om183 hz
inductive ReI (F : Nat → Option Nat) (x : Str) (h : Heap) (g : Array GenState) (d : Drawn) (os : OsState) (k : Nat) : Array Value × Nat × Nat × Bool × Int × Bool → SP where
 | go {out st nn tk' pre} : StrsAre out.toList pre → out.size ≤ 2 * st → st ≤ x.cps.size → x.cps.size - st < k → (∀ Ls, Cuts F x.cps st Ls → Cuts F x.cps 0 (pre ++ Ls)) → ReI F x h g d os k (out, st, st, false, nn, false) ⟨h, g, d, tk', os⟩
 | stop {out st la nn tk' pre} : StrsAre out.toList pre → out.size ≤ 2 * x.cps.size → Cuts F x.cps 0 (pre ++ [⟨x.cps.extract la x.cps.size⟩]) → ReI F x h g d os k (out, st, la, false, nn, true) ⟨h, g, d, tk', os⟩
theorem zlb {P T : Nat} {p0 p1 : Value} {oT : Obj} {items : Array Value} {n : Nat} {x : Str} {tx : Nat} {R : Fin → SP} {C : Array Nat} {F : Nat → Option Nat}
  (hP : h.get? P = some (zd6 p0 p1 T)) (hT : h.get? T = some oT) (hTd : oT.data = .seq items n) (hC : (items.map Builtin.Re.reRawOf).map (fun x => x.toNat) = C) (hF : ziy C x.cps F) (hz : x.cps.size ≤ 100000) (hR : ∀ b e, b < x.cps.size → F b = some e → b < e ∧ e ≤ x.cps.size)
  (hq : ∀ Ls vs tk', Cuts F x.cps 0 Ls → StrsAre vs Ls → vs.length ≤ 2 * x.cps.size + 1 → R (.done (.ret (.ref h.objs.size))) ⟨h.push (zaa vs), g, d, tk', os⟩) :
  wpAny (Mo w) A (Builtin.«re.Pattern.split» ⟨[.ref P, .str x tx], []⟩) R E ⟨h, g, d, tk, os⟩ := by
 have hN : Builtin.Re.reNamed "re.Pattern.split" "split" ["string", "maxsplit"] 1 [.str x tx] [] = pure [some (.str x tx), none] := by rfl
 unfold Builtin.«re.Pattern.split»
 dsimp only
 rw [hN]
 refine zB (zP ?_)
 refine zB (zP ?_)
 refine zB ?_
 repeat wp_step
 rw [hTd]
 refine zP (zP (zP ?_))
 have hg : Builtin.Re.reRawNat (#[p0, p1, Value.int 1 0, Value.none, Value.none, Value.ref T, Value.int 0 0].getD 2 Value.none) = 1 := rfl
 rw [hg]
 have hC' : (Array.map (fun x => x.toNat) (Array.map Builtin.Re.reRawOf ((some items).getD #[]))) = C := hC
 rw [hC']
 generalize ht : ({ pattern := Value.ref P, string := Value.str x tx, code := C, text := x.cps, kind := 0, groups := 1, pos := 0, lim := x.cps.size } : Builtin.Re.ReTarget) = t
 have t1 : t.code = C := by rw [← ht]
 have t2 : t.text = x.cps := by rw [← ht]
 have t3 : t.groups = 1 := by rw [← ht]
 have t4 : t.lim = x.cps.size := by rw [← ht]
 have t5 : t.kind = 0 := by rw [← ht]
 clear ht
 refine zB (zhl (I := ReI F x h g d os) ?_ ?_ _ _ _ ?_)
 ·intro k a st s hI
  cases hI with
  | @go out st nn tk' pre hpre h2 h1 h3 h4 =>
   refine wpAny_ite_true rfl ?_
   refine zB (wpAny_ite_false rfl ?_)
   refine found_go hF t1 t2 t3 t4 ?_ ?_
   ·intro hs
    exact zP ⟨_, rfl, .stop hpre (zT h2 (Za 2 h1)) (h4 _ (.stop hs))⟩
   ·intro b e m hs hm
    obtain ⟨b1, b2, b3, _⟩ := zgu hR _ _ rfl b e hs
    refine zB ?_
    rw [t5, t2]
    refine wpAny_mkStr ?_ (by show (x.cps.extract st m.start).size ≤ 16777216; rw [Array.size_extract]; exact om183 hz)
    refine zB ?_
    rw [t3]
    show wpAny _ _ (forIn [0] _ _) _ _ _
    rw [List.forIn_cons]
    refine zB (zB (grp t5 hm (by exact om184 b2) (by rw [t2]; exact hz) fun u tk'' => ?_))
    refine zP ?_
    dsimp only
    have e1 : (m.handed == m.start) = false := by rw [hm.2.1, hm.2.2.1]; simp; exact om185 b2
    rw [e1, t2, hm.2.1, hm.2.2.1]
    refine zP (zP ⟨_, rfl, .go (pre := pre ++ [⟨x.cps.extract st b⟩, ⟨x.cps.extract b e⟩]) ?_ ?_ b3 (by exact om188 h3 b1 b2 b3) fun Ls hL => ?_⟩)
    ·rw [Array.toList_push, Array.toList_push, List.append_assoc]
     exact hpre.append' (.cons _ _ (.cons _ _ .nil))
    ·rw [Array.size_push, Array.size_push]; exact om187 h2 b1 b2
    ·rw [List.append_assoc]
     exact h4 _ (.more hs hL)
  | @stop out st la nn tk' pre hpre h1 h2 =>
   refine wpAny_ite_false rfl ?_
   exact zP ⟨_, rfl, .stop hpre h1 h2⟩
 ·intro st s hI
  cases hI with
  | @go out st nn tk' pre hpre h2 h1 h3 h4 => exact absurd h3 (Nat.not_lt_zero _)
  | @stop out st la nn tk' pre hpre hsz h2 =>
   refine wpAny_ite_false rfl ?_
   refine zB ?_
   rw [t5, t2, t4]
   refine wpAny_mkStr ?_ (by show (x.cps.extract la x.cps.size).size ≤ 16777216; rw [Array.size_extract]; exact om189 hz)
   refine zB (wpAny_newList (zP ?_) (by simp; exact om190 hz hsz))
   refine hq _ _ _ h2 ?_ (by simp; exact om191 hsz)
   rw [Array.toList_push]
   exact hpre.append' (.cons _ _ .nil)
 ·rw [List.length_range]
  refine .go (pre := []) .nil (Nat.zero_le _) (Nat.zero_le _) ?_ fun Ls hL => hL
  unfold Builtin.Re.reMostMatches
  rw [t2]
  exact om192
end
noncomputable def zai (x build : Str) : List Str := Txt.split x dotS ++ (if build.length = 0 then [] else [build])
noncomputable def zb3 (l : List Str) : List Str := match l.mapM PySem.intText? with | some ns => ns.map zag | none => l
noncomputable def zd9 (x build : Str) : Str := Txt.join dotS ((zb3 (zai x build)).take 3)
theorem zd1 (vs : List Value) : (slicePick vs.toArray none (some 3) none).toList = vs.take 3 := by
 rw [kms_pick_eq]
 show (kms_pick vs none (some 3)) = vs.take 3
 unfold kms_pick
 have e1 : kms_lo none vs.length = 0 := rfl
 have e2 : kms_hi (some 3) vs.length = min 3 vs.length := rfl
 rw [e1, e2, List.drop_zero, Nat.sub_zero]
 by_cases h : 3 ≤ vs.length
 ·rw [Nat.min_eq_left h]
 ·rw [Nat.min_eq_right (by exact om421 h), List.take_length, Zh (by exact om421 h)]
theorem zgp {vs : List Value} {ys : List Str} (h : StrsAre vs ys) : ∀ n, StrsAre (vs.take n) (ys.take n) := by
 induction h with
 | nil => intro n; simp; exact .nil
 | cons y t _ ih =>
  intro n
  cases n with
  | zero => exact .nil
  | succ n => exact .cons _ _ (ih n)
theorem mapM_len {α β : Type} {f : α → Option β} : ∀ {xs : List α} {ys : List β}, xs.mapM f = some ys → ys.length = xs.length
 | [], ys, h => by cases h; rfl
 | x :: r, ys, h => by
  rw [List.mapM_cons] at h
  cases e1 : f x with
  | none => rw [e1] at h; cases h
  | some y =>
   cases e2 : r.mapM f with
   | none => rw [e1, e2] at h; cases h
   | some zs => rw [e1, e2] at h; cases h; simp [mapM_len e2]
theorem zji {α β : Type} {f : α → Option β} : ∀ {xs : List α} {ys : List β}, xs.mapM f = some ys → ∀ y ∈ ys, ∃ x ∈ xs, f x = some y
 | [], ys, h, y, hy => by cases h; cases hy
 | x :: r, ys, h, y, hy => by
  rw [List.mapM_cons] at h
  cases e1 : f x with
  | none => rw [e1] at h; cases h
  | some z =>
   cases e2 : r.mapM f with
   | none => rw [e1, e2] at h; cases h
   | some zs =>
    rw [e1, e2] at h; cases h
    rcases zC hy with rfl | hy
    ·exact ⟨x, .head _, e1⟩
    ·obtain ⟨x', hx', e⟩ := zji e2 y hy
     exact ⟨x', .tail _ hx', e⟩
theorem part_le {x p : Str} (hp : p ∈ Txt.split x dotS) : p.length ≤ x.length := part_short hp
section
set_option tactic.hygienic true in
theorem c_norm {x b : Str} {t1 t2 : Nat} {Q : VP} (G : Gd w uu) (W : Wd uu vv h) (P : Rm A vv 20)
  (hasc : ∀ c ∈ x.cps.toList, c ≠ 0 ∧ c < 128) (hlen : x.length ≤ 640) (hb : b.length ≤ 10) (hba : ∀ c ∈ b.cps.toList, c ≠ 0 ∧ c < 128) (hnum : ∀ p n, p ∈ zai x b → PySem.intText? p = some n → n.natAbs < 10 ^ 8)
  (hq : ∀ (t : Nat) h' tk', Ret uu vv h h' → Q (.str (zd9 x b) t) ⟨h', g, d, tk', os⟩) :
  wpC (Mo w) A (call (.ref 59) [.str x t1, .str b t2]) Q E ⟨h, g, d, tk, os⟩ := by
 refine zm5 (binds := [(ofString "version", .str x t1), (ofString "build", .str b t2)]) G W P (G.get W.inv (a := 59) rfl) rfl rfl rfl rfl ⟨_, _, _, _, rfl, G.get W.inv (a := 58) rfl, rfl, rfl⟩ rfl (by decide) (zba rfl) ?_ ?_
 ·have hdf := G.get W.inv (a := 52) rfl
  repeat (any_goals (first | exact hdf | assumption | wp_step))
  exact ⟨rfl, rfl⟩
 intro L h₁ tk₁ S R
 have sz : sizeLine = 16777216 := rfl
 have hw := PyProof.Rows.split_weight x dotS (by decide)
 refine zbu ?_
 with_reducible refine zby ?_ ?zz
 case zz => rfl
 with_reducible refine zeb (x := ofString "") (t := 0) ?_ F.slot_str_split F.type_str_split ?za ?zb ?zc
 case za => walk_at "ab"
 case zb => rfl
 case zc => rfl
 walk_at "All"
 refine ⟨_, _, rfl, ?_⟩
 walk_at "All"
 refine zlk (by with_reducible assumption) (by decide) (by exact om415 hlen) ?_
 intro a vs h2 tk2 hvs S2
 walk_at "All"
 rename_i h3 S3
 refine zbu ?_
 have lvs := zax hvs
 refine x_ifJ (fun s => ∃ h' tk' l vs' n', s = ⟨h', g, d, tk', os⟩ ∧ St uu h [] vv L l [] [(a, zaa vs' n')] [] h' ∧ l.lookup (ofString "l") = some (.ref a) ∧ StrsAre vs' (zai x b)) ?_ ?_
 ·refine wpAny_isTrue_value ?_
  walk_at "All"
  refine zbr (by exact om422 hb) ?_
  by_cases hb0 : b.length = 0
  ·rw [zG (by simp [hb0])]
   walk_at "All"
   exact ⟨rfl, _, _, _, _, _, rfl, S3, by walk_at "lk", by unfold zai; rw [if_pos hb0, List.append_nil]; exact hvs⟩
  ·rw [zH (by simp [hb0])]
   walk_at "All"
   refine AppS.go (by with_reducible assumption) (by walk_at "led") (by show vs.length ≤ _; rw [lvs]; show (Txt.split x dotS).length ≤ _; exact om423 hlen hw) ?_
   intro h4 S4
   walk_at "All"
   exact ⟨rfl, _, _, _, _, _, rfl, S4, by walk_at "lk", by unfold zai; rw [if_neg hb0]; exact zbe hvs _ _⟩
 rintro s ⟨h5, tk5, l5, us, n5, rfl, S5, hl5, hus⟩
 have lus := zax hus
 walk_at "All"
 have lnp : (zai x b).length ≤ 642 := by
  unfold zai
  rw [zY]
  split <;> simp <;> (first | exact om424 hlen hw | exact om425 hlen hw)
 refine zmr (L := L) (ww := h) (X := []) (g := g) (d := d) (os := os) G R.frames rfl (by intro z; cases z) ?_
 refine zeg (zbc ?_) rfl
 walk_at "All"
 refine zgc (zy ?_) rfl
 walk_at "All"
 refine n_mapL (by with_reducible assumption) (by walk_at "either") ?_
 intro i1 T1 M1 io h6 hio hi1 S6
 walk_at "All"
 refine n_mapM (by with_reducible assumption) (.head _) ?_
 intro T2 M2 h7 S7
 walk_at "All"
 have good : ∀ y ∈ zai x b, y.length ≤ 640 ∧ (∀ c ∈ y.cps.toList, c ≠ 0 ∧ c < 128) := by
  intro y hy
  unfold zai at hy
  rcases zD hy with hy | hy
  ·exact ⟨zT (part_le hy) hlen, fun c hc => hasc c (zgr hy hc)⟩
  ·split at hy
   ·exact nomatch hy
   ·rw [zS hy]
    exact ⟨by exact om426 hb, hba⟩
 have K : Maps [(M2, za8 T2 (.type "str")), (T2, zac [.ref M1]), (M1, za8 T1 (.type "int")), (T1, zac [.ref i1])] [(a, zaa us n5)] a i1 M2 us (zai x b) :=
  ⟨⟨n5, T1, M1, T2, .inr (.head _), by walk_at "mem", by walk_at "mem", by walk_at "mem", by walk_at "mem"⟩, hus, by exact om427 lnp, fun y hy => ⟨(good y hy).1, (good y hy).2, fun n hn => hnum y n hy hn⟩⟩
 refine K.list G R.handled List.not_mem_nil S7 hio ?_ ?_
 ·intro S' ns vs' nS h8 tk8 hns hvs' S8
  refine zy ?_
  walk_at "All"
  have lns : ns.length = (zai x b).length := by
   have := mapM_len hns; exact om428 this
  have hle : ∀ y ∈ ns.map zag, y.length ≤ 640 := by
   intro y hy
   obtain ⟨n, hn, rfl⟩ := List.mem_map.mp hy
   obtain ⟨p, hp, hpn⟩ := zji hns n hn
   have hb := hnum p n hp hpn
   have : (zag n).length ≤ 10 := by
    unfold zag
    rw [PySem.ofString_length]
    exact int_text_length_le10 (k := 9) (by decide) (by exact om429 hb)
   exact om426 this
  have lvs' := zax hvs'
  rw [List.length_map] at lvs'
  refine za6 ?_; refine za6 ?_
  refine zbu ?_
  with_reducible refine zby ?_ ?zz
  case zz => rfl
  with_reducible refine zeb (x := ofString "") (t := 0) ?_ F.slot_str_join F.type_str_join ?za ?zb ?zc
  case za => walk_at "ab"
  case zb => rfl
  case zc => rfl
  walk_at "All"
  refine ⟨_, _, rfl, ?_⟩
  walk_at "All"
  refine zll (by with_reducible assumption) (by walk_at "either") (by assumption) .none (.int _ _) (by exact om430 lnp lns lvs') (zd1 _) ?_
  intro c h9 S9
  walk_at "All"
  refine join_listW (S9.isList (.inr (.head _))) (zgp hvs' 3) (by decide) ?_ ?_
  ·have l1 : ∀ y ∈ (ns.map zag).take 3, y.length ≤ 640 := fun y hy => hle y (List.mem_of_mem_take hy)
   have := zdx l1
   have l2 : ((ns.map zag).take 3).length ≤ 3 := by rw [List.length_take]; exact om431
   have := Zf 640 l2
   exact om432 (by assumption) l2
  intro t' k
  walk_at "All"
  refine zdo (zy ?_)
  walk_at "All"
  rename_i S10
  have := hq t' _ (k + 1) S10.ret
  unfold zd9 zb3 at this
  rw [hns] at this
  exact this
 ·intro e v h8 hh tk8 hns S8 hm
  refine ⟨e, v, h8, hh, tk8, _, _, _, _, rfl, rfl, S8, hm, ?_⟩
  intro h' tk' S'
  walk_at "All"
  refine zbu ?_
  with_reducible refine zby ?_ ?zz
  case zz => rfl
  with_reducible refine zeb (x := ofString "") (t := 0) ?_ F.slot_str_join F.type_str_join ?za ?zb ?zc
  case za => walk_at "ab"
  case zb => rfl
  case zc => rfl
  walk_at "All"
  refine ⟨_, _, rfl, ?_⟩
  walk_at "All"
  refine zll (by with_reducible assumption) (by walk_at "either") (by assumption) .none (.int _ _) (by exact om433 lus lnp) (zd1 _) ?_
  intro c h9 S9
  walk_at "All"
  refine join_listW (S9.isList (.inr (.head _))) (zgp hus 3) (by decide) ?_ ?_
  ·have l1 : ∀ y ∈ (zai x b).take 3, y.length ≤ 640 := fun y hy => (fun y hy => (good y hy).1) y (List.mem_of_mem_take hy)
   have := zdx l1
   have l2 : ((zai x b).take 3).length ≤ 3 := by rw [List.length_take]; exact om431
   have := Zf 640 l2
   exact om432 (by assumption) l2
  intro t' k
  walk_at "All"
  refine zdo (zy ?_)
  walk_at "All"
  rename_i S10
  have := hq t' _ (k + 1) S10.ret
  unfold zd9 zb3 at this
  rw [hns] at this
  exact this
end
theorem zfp : PlainAttrs "re.Pattern" :=
 ⟨⟨"object.__getattribute__", by rw [typeLookup_type, builtinLookup_eq_fast]; kernel_rfl, by rw [Fast.canonicalQ_eq]; decide +kernel⟩, by rw [typeLookup_type, builtinLookup_eq_fast]; kernel_rfl⟩
theorem owner_re : Manifest.owners.lookup (String.ofList ['n', 'r', 'e', 't', 't', 'a', 'P', '.', 'e', 'r'].reverse) = some Manifest.sig_re_Pattern := by kernel_rfl
theorem zc8 (a b : Value) : argsOk "re.Pattern.split" ⟨[a, b], []⟩ := by
 unfold argsOk; rw [signature?_of (id := "re.Pattern.split") (n := ['t', 'i', 'l', 'p', 's']) (o := ['n', 'r', 'e', 't', 't', 'a', 'P', '.', 'e', 'r']) (by kernel_rfl) owner_re]; kernel_rfl
theorem end1_ok {text : Array Nat} : ∀ b e, b < text.size → end1 text b = some e → b < e ∧ e ≤ text.size := by
 intro b e hb h
 unfold end1 at h
 have := zd4 figB text (text.size - b) b
 split at h
 ·cases h; exact om193 this (by assumption)
 ·split at h
  ·cases h; exact om194 hb
  ·cases h
theorem end2_ok {text : Array Nat} : ∀ b e, b < text.size → end2 text b = some e → b < e ∧ e ≤ text.size := by
 intro b e hb h
 unfold end2 at h
 have := zd4 spcB text (text.size - b) b
 split at h
 ·cases h; exact om193 this (by assumption)
 ·cases h
section
theorem zln {P T n : Nat} {p0 p1 : Value} {oT : Obj} {items : Array Value} {x : Str} {tx : Nat} {C : Array Nat} {F : Nat → Option Nat} (S : St uu ww X vv L l ro rw tl h)
  (hP : h.get? P = some (zd6 p0 p1 T)) (hT : h.get? T = some oT) (hTd : oT.data = .seq items n) (hC : (items.map Builtin.Re.reRawOf).map (fun x => x.toNat) = C) (hF : ziy C x.cps F) (hz : x.cps.size ≤ 100000) (hR : ∀ b e, b < x.cps.size → F b = some e → b < e ∧ e ≤ x.cps.size)
  (hq : ∀ (a : Nat) Ls vs h' tk', Cuts F x.cps 0 Ls → StrsAre vs Ls → vs.length ≤ 2 * x.cps.size + 1 → St uu ww X vv L l ro ((a, zaa vs) :: rw) tl h' → Q (.ref a) ⟨h', g, d, tk', os⟩) :
  wpAny (Mo w) A (call (.builtin "re.Pattern.split") [.ref P, .str x tx]) Q E ⟨h, g, d, tk, os⟩ := by
 refine wpAny_call_entry zb1 ⟨_, hP, rfl⟩ zco ?_ (zc8 _ _)
 refine zlb hP hT hTd hC hF hz hR fun Ls vs tk' hL hv hl => ⟨_, rfl, hq _ Ls vs _ tk' hL hv hl (S.allocW (zaa vs) rfl (clsNe (by decide)))⟩
theorem m_pat {o : Expr} {args : List Expr} {s : Shared} (h : wpAny (Mo w) A (eval o env) (fun ov s₁ => ∃ (a T : Nat) (p0 p1 : Value), ov = .ref a ∧ s₁.heap.get? a = some (zd6 p0 p1 T) ∧ wpAny (Mo w) A (callWith pos (.builtin "re.Pattern.split") [ov] (backTo pos (starEach args env)) []) Q E s₁) E s)
  (h1 : attributeBase o (ofString "split") env (eval o env) = eval o env := by rfl)
  (h2 : ((backTo pos (starEach args env)).all (fun x => !x.1) && (backToKw pos (keywordEach [] env)).all (fun x => x.1.isSome) && decide (args.length + ([] : List Keyword).length + (if ([] : List Keyword).isEmpty then 0 else 1) < 30)) = true := by rfl)
  (h3 : (apos.endLine == pos.line) = true := by rfl) : wpAny (Mo w) A (eval (.Call (.Attribute o (ofString "split") apos) args [] pos) env) Q E s :=
 wpAny_Call_method h1 h2 h3 zfp zb1 zfi (zM h (fun ov s₁ q => by
  obtain ⟨a, T, p0, p1, rfl, ho, q⟩ := q
  exact ⟨⟨_, ho, rfl⟩, (fun b e => by cases e; exact ⟨_, ho, rfl⟩), q⟩) fun j j z => z)
inductive FoS (uu ww : Heap) (X : List Nat) (vv : List Env) (L : Nat) (ro : LO) (d : Drawn) (os : OsState) (n : Nat) (P : Nat → Array GenState → LS → LO → LT → Prop) (it : Nat) (IsAt : Nat → Obj → Prop) : Nat → SP where
 | mk {i h' tk' g' l' rw' tl' io'} : i ≤ n → P i g' l' rw' tl' → IsAt i io' → St uu ww X vv L l' ro ((it, io') :: rw') tl' h' → FoS uu ww X vv L ro d os n P it IsAt (n - i) ⟨h', g', d, tk', os⟩
inductive LpS (uu ww : Heap) (X : List Nat) (vv : List Env) (L : Nat) (ro : LO) (d : Drawn) (os : OsState) (P : Array GenState → LS → LO → LT → Prop) (p : Nat × Obj) : SP where
 | mk {h' tk' g' l' rw' tl'} : P g' l' rw' tl' → St uu ww X vv L l' ro (p :: rw') tl' h' → LpS uu ww X vv L ro d os P p ⟨h', g', d, tk', os⟩
def FlS (uu ww : Heap) (X : List Nat) (vv : List Env) (L : Nat) (ro : LO) (d : Drawn) (os : OsState) (P : Nat → Array GenState → LS → LO → LT → Prop) (i : Nat) (p : Nat × Obj) (R : Result → SP) (f : Flow) (s : Shared) : Prop := match f with
 | .next | .cont => LpS uu ww X vv L ro d os (P i) p s
 | .brk => R (.ok .next) s
 | .ret v => R (.ok (.ret v)) s
theorem zf6 {target : Expr} {body : List Stmt} {R : Result → SP} {it n : Nat} {io : Obj} {IsAt : Nat → Obj → Prop} {V : Nat → Value → Prop} {ctx : Heap → Prop} (hsrc : Src w it n IsAt V ctx)
  (hh : A.handled = none) (P : Nat → Array GenState → LS → LO → LT → Prop) (hX : it ∉ X)
  (hctx : ∀ l rw tl h, St uu ww X vv L l ro rw tl h → ctx h) (hio : IsAt 0 io)
  (S : St uu ww X vv L l ro ((it, io) :: rw) tl h) (h0 : P 0 g l rw tl)
  (turn : ∀ i v g l rw tl h tk io, i < n → V i v → P i g l rw tl → St uu ww X vv L l ro ((it, io) :: rw) tl h →
   wpAny (Mo w) A (assign target env v) (fun j s₂ => wpC (Mo w) A (execs body env) (FlS uu ww X vv L ro d os P (i + 1) (it, io) R) (fun j j => False) s₂) (fun j j => False) ⟨h, g, d, tk, os⟩)
  (stop : ∀ g l rw tl h tk, P n g l rw tl → St uu ww X vv L l ro rw tl h → R (.ok .next) ⟨h, g, d, tk, os⟩) :
  codeC (Mo w) A (.forLoop target (.ref it) body [] env) R ⟨h, g, d, tk, os⟩ := by
 refine codeC.forL (FoS uu ww X vv L ro d os n P it IsAt) ?_ n (.mk (i := 0) (Nat.zero_le _) h0 hio S)
 clear S h0 hio
 clear io
 intro m s hI
 cases hI with
 | @mk i h tk g l rw tl io hi hP hio S =>
 have hgi := (S.hrw _ (.head _)).1
 have hcx := hctx _ _ _ _ S
 by_cases hlt : i < n
 ·refine hsrc.item _ _ _ _ _ _ _ _ i io hcx hgi hio hlt fun v h' io' tk' hv ho' hio' hs => ?_
  obtain ⟨T, fs, c1, c2, c3, c4⟩ := hsrc.kind _ _ hio'
  refine zec ho' c1 c2 c3 ?_
  refine zM (turn i v g l rw tl h' tk' io' hlt hv hP (S.chgS .head hs ho' (by rw [c1]; exact clsNe c4))) (fun j s₂ q => q.mono (fun f s₃ q => ?_) fun j j z => z) fun j j z => z
  cases f with
  | next | cont =>
   cases (show LpS _ _ _ _ _ _ _ _ _ _ _ from q) with
   | mk a1 a2 => exact ⟨n - (i + 1), by exact om1 hlt, .mk hlt a1 hio' a2⟩
  | brk => exact q
  | ret v => exact q
 ·have : i = n := by exact om2 hi hlt
  subst this
  exact hsrc.stop _ _ _ _ _ _ _ _ io hh hcx hgi hio fun h' hx => stop g l rw tl h' tk hP (S.lose rfl hX hx)
end
noncomputable def za5 : List Str := [ofString "dev", ofString "alpha", ofString "a", ofString "beta", ofString "b", ofString "c", ofString "RC", ofString "pl", ofString "p"]
section
theorem o_stage {v : Str} {t t0 : Nat} (G : Gd w uu) (I : Inv uu h) (hv : v ∉ za5) (hq : ∀ u tk', Q (.int (if v = ofString "rc" then 50 else 0) u) ⟨h, g, d, tk', os⟩) :
  wpAny (Mo w) A (call (.builtin "dict.get") [.ref 44, .str v t, .int 0 t0]) Q E ⟨h, g, d, tk, os⟩ := by
 have hg := G.get I (a := 44) rfl
 refine call_meetsIn F.slot_dict_get ⟨_, hg, rfl⟩ F.entry_dict_get (F.args_dict_get_3 _ _ _) (meets_dict_get_default (PySem.strKind Pg w) (k := v) (key := .str v t) 44 (strKind_is _ _ _ _) (by decide) (.int 0 t0)) ⟨_, ⟨_, _, _, hg, ?_, rfl, ?_, fun j => rfl⟩, ?_⟩
 ·exact ⟨rfl, rfl, rfl⟩
 ·intro e he
  simp only [List.mem_toArray, List.mem_cons, List.not_mem_nil, or_false] at he
  rcases he with rfl | rfl | rfl | rfl | rfl | rfl | rfl | rfl | rfl | rfl
  all_goals exact ⟨_, strKind_is _ _ _ _, rfl⟩
 ·by_cases hrc : v = ofString "rc"
  ·subst hrc
   exact hq _ _
  ·rw [zG hrc] at hq
   have hn : ∀ (es : Array DictEntry), (∀ e ∈ es, ∃ x t, e.key = .str x t ∧ v ≠ x) → findBy (PySem.strKind Pg w).is es v = none := by
    intro es hes
    unfold findBy
    rw [Array.find?_eq_none.mpr, Option.map_none]
    intro e he hp
    obtain ⟨x, t, hk, hne⟩ := hes e he
    rw [hk] at hp
    exact hne ((PySem.strKind Pg w).inj (.str x t) v x hp (strKind_is _ _ _ _))
   rw [hn]
   ·exact hq _ _
   ·have ho : ∀ x, x ∈ za5 → v ≠ x := fun x hx e => hv (e ▸ hx)
    intro e he
    simp only [List.mem_toArray, List.mem_cons, List.not_mem_nil, or_false] at he
    rcases he with rfl | rfl | rfl | rfl | rfl | rfl | rfl | rfl | rfl | rfl
    all_goals first | exact ⟨_, _, rfl, hrc⟩ | exact ⟨_, _, rfl, ho _ (by unfold za5; walk_at "mem")⟩
end
noncomputable def zf4 (v : Str) : Bool := !(Builtin.Str.occurrences (ofString "._+-") v 0 (ofString "._+-").length 1).isEmpty
noncomputable def zat (v : Str) : List Scal :=
 if zf4 v then [] else match PySem.intText? v with
  | some n => [.int 100, .int n]
  | none => [.int (if v = ofString "rc" then 50 else 0), .str v]
noncomputable def zbv (vs : List Str) : List Scal := vs.flatMap zat
section
theorem zg8 {a b n : Nat} {us vs : List Value} (S : St uu ww X vv L l ro rw tl h) {rw' : LO} (hl : Led rw a (zaa us n) (zaa (us ++ vs) (n + 1)) rw') (hb : (b, zac vs) ∈ ro) (hne : vs ≠ []) (hs : us.length + vs.length ≤ 1000000)
  (hq : ∀ h', St uu ww X vv L l ro rw' tl h' → Q .none ⟨h', g, d, tk, os⟩) : wpAny (Mo w) A (call (.builtin "list.extend") [.ref a, .ref b]) Q E ⟨h, g, d, tk, os⟩ := by
 have ho := S.getR (.inr hl.mem)
 have ho2 := S.getR (.inl hb)
 refine call_meets PySem.F.slot_list_extend ⟨_, ho, rfl⟩ PySem.F.entry_list_extend (PySem.F.args_list_extend_2 _ _) (PySem.AutoSeq1.list_extend_list_tuple_0 a us.toArray n b vs.toArray 0 ?_ (by simp; exact om3 hs) (by simp; exact om4 hs)) ⟨ho, ho2, ?_⟩
 ·unfold Builtin.List.listTooLong
  simp
  intro _
  exact om5 hs
 ·refine hq _ (S.chgS hl (.update ..) ?_ (clsNe (by decide)))
  have : (Obj.mapSeq (fun x => x ++ vs.toArray) (zaa us n)) = zaa (us ++ vs) (n + 1) := by
   have hv : vs.length ≠ 0 := by simpa using hne
   simp only [Obj.mapSeq, zaa]
   congr 2
   ·simp
   ·simp [hv]
  rw [← this]
  exact Heap.get?_update_self _ ho rfl
end
section
theorem m_dict {o : Expr} {args : List Expr} {s : Shared} (h : wpAny (Mo w) A (eval o env) (fun ov s₁ => ∃ (a : Nat) (oa : Obj), ov = .ref a ∧ s₁.heap.get? a = some oa ∧ oa.cls = .type "dict" ∧ oa.dict = none ∧ wpAny (Mo w) A (callWith pos (.builtin "dict.get") [ov] (backTo pos (starEach args env)) []) Q E s₁) E s)
  (h1 : attributeBase o (ofString "get") env (eval o env) = eval o env := by rfl)
  (h2 : ((backTo pos (starEach args env)).all (fun x => !x.1) && (backToKw pos (keywordEach [] env)).all (fun x => x.1.isSome) && decide (args.length + ([] : List Keyword).length + (if ([] : List Keyword).isEmpty then 0 else 1) < 30)) = true := by rfl)
  (h3 : (apos.endLine == pos.line) = true := by rfl) : wpAny (Mo w) A (eval (.Call (.Attribute o (ofString "get") apos) args [] pos) env) Q E s :=
 wpAny_Call_method h1 h2 h3 F.plainAttrs_dict F.slot_dict_get F.type_dict_get (zM h (fun ov s₁ q => by
  obtain ⟨a, oa, rfl, ho, hc, hdn, q⟩ := q
  exact ⟨⟨_, ho, hc⟩, (fun b e => by cases e; exact ⟨_, ho, hdn⟩), q⟩) fun j j z => z)
theorem zj5 {P T n : Nat} {p0 p1 : Value} {oT : Obj} {items : Array Value} {x : Str} {tx : Nat} {C : Array Nat} {F : Nat → Option Nat} (S : St uu ww X vv L l ro rw tl h)
  (hP : h.get? P = some (zd6 p0 p1 T)) (hT : h.get? T = some oT) (hTd : oT.data = .seq items n) (hC : (items.map Builtin.Re.reRawOf).map (fun x => x.toNat) = C) (hF : ziy C x.cps F) (hz : x.cps.size ≤ 100000) (hR : ∀ b e, b < x.cps.size → F b = some e → b < e ∧ e ≤ x.cps.size)
  (hq : ∀ (a : Nat) Ls vs h' tk', Cuts F x.cps 0 Ls → StrsAre vs Ls → vs.length ≤ 2 * x.cps.size + 1 → St uu ww X vv L l ((a, zaa vs) :: ro) rw tl h' → Q (.ref a) ⟨h', g, d, tk', os⟩) :
  wpAny (Mo w) A (call (.builtin "re.Pattern.split") [.ref P, .str x tx]) Q E ⟨h, g, d, tk, os⟩ := by
 refine wpAny_call_entry zb1 ⟨_, hP, rfl⟩ zco ?_ (zc8 _ _)
 refine zlb hP hT hTd hC hF hz hR fun Ls vs tk' hL hv hl => ⟨_, rfl, hq _ Ls vs _ tk' hL hv hl (S.allocR (zaa vs) rfl)⟩
end
theorem getD_lt {x : Str} (h : ∀ c ∈ x.cps.toList, c ≠ 0 ∧ c < 128) (s : Nat) : x.cps.getD s 0 < 128 := by
 rw [Array.getD_eq_getD_getElem?]
 cases e : x.cps[s]? with
 | none => decide
 | some c =>
  refine (h c ?_).2
  rw [← Array.getElem?_toList] at e
  exact zR e
theorem zed {vs : List Str} {i : Nat} {v : Str} (h : vs[i]? = some v) : zbv (vs.take (i + 1)) = zbv (vs.take i) ++ zat v := by
 unfold zbv
 rw [List.take_add_one, h, Option.toList_some, List.flatMap_append]
 simp
section
inductive CompI (Ls : List Str) (g : Array GenState) (i : Nat) (g' : Array GenState) (l : LS) : LO → LT → Prop where
 | mk {aR vR nR} : g = g' → l.lookup (ofString "result") = some (.ref aR) → All2 Sc vR (zbv (Ls.take i)) → vR.length ≤ 2 * i → CompI Ls g i g' l [(aR, zaa vR nR)] []
set_option tactic.hygienic true in
theorem c_comp {x : Str} {t1 : Nat} {Q : VP} (G : Gd w uu) (W : Wd uu vv h) (P : Rm A vv 20)
  (hasc : ∀ c ∈ x.cps.toList, c ≠ 0 ∧ c < 128) (hlen : x.length ≤ 640)
  (hp : ∀ Ls, Cuts (end1 x.cps) x.cps 0 Ls → ∀ v ∈ Ls, v.length ≤ 640 ∧ (∀ c ∈ v.cps.toList, c ≠ 0 ∧ c < 128) ∧ v ∉ za5)
  (hq : ∀ (t n : Nat) (vs : List Value) (Ls : List Str) h' tk', Ret uu vv h h' → h.get? t = none → h'.get? t = some (zaa vs n) → Cuts (end1 x.cps) x.cps 0 Ls → All2 Sc vs (zbv Ls) → Q (.ref t) ⟨h', g, d, tk', os⟩) :
  wpC (Mo w) A (call (.ref 51) [.str x t1]) Q E ⟨h, g, d, tk, os⟩ := by
 refine zm5 (binds := [(ofString "version", .str x t1)]) G W P (G.get W.inv (a := 51) rfl) rfl rfl rfl rfl ⟨_, _, _, _, rfl, G.get W.inv (a := 50) rfl, rfl, rfl⟩ rfl (by decide) (zba rfl) (zP ⟨rfl, rfl⟩) ?_
 intro L h₁ tk₁ S R
 refine zbu ?_
 walk_at "All"
 refine zbu ?_
 walk_at "All"
 rename_i h2 S2
 have hxs : x.cps.size ≤ 640 := hlen
 refine zms ?_
 refine m_pat ?_ (by walk_at "ab") rfl rfl
 walk_at "All"
 refine ⟨_, _, _, _, rfl, G.get S2.inv (a := 43) rfl, ?_⟩
 walk_at "All"
 refine zj5 (C := pat1) S2 (G.get S2.inv (a := 43) rfl) (G.get S2.inv (a := 42) rfl) rfl (by simp only [List.map_toArray, List.map_cons, List.map_nil]; rfl) (finds1 (by exact om434 hxs) (getD_lt hasc)) (by exact om434 hxs) end1_ok ?_
 intro a Ls vs h3 tk3 hcut hvs hvl S3
 have lvs := zax hvs
 refine zea S3 (.inl (.head _)) ?_
 intro it h4 io hio hne hnew S4
 refine zf6 (zh4 (a := a) (vs := vs)) R.handled (CompI Ls g) List.not_mem_nil (fun j j j j S => (S.hro _ (.head _)).1) hio S4 ?_ ?_ ?_
 ·exact .mk rfl (by walk_at "lk") .nil (Ze _)
 ·rintro i v g' l rw tl' h5 tk5 io5 _ hvi ⟨rfl, hlR, hR, bR⟩ S5
  rename_i aR vR nR
  obtain ⟨y, ty, hy, rfl⟩ := zkv hvs hvi
  obtain ⟨y1, y2, y3⟩ := hp Ls hcut y (zR hy)
  have hi : i < vs.length := (List.getElem?_eq_some_iff.mp hvi).1
  walk_at "All"
  refine zhp (zy ?_)
  walk_at "All"
  rename_i h6 S6
  by_cases hd : zf4 y = true
  ·rw [zG (by unfold zf4 at hd; simpa using hd)]
   refine za6 ?_
   refine za6 ?_
   have : zat y = [] := by unfold zat; rw [if_pos hd]
   exact LpS.mk (.mk rfl (by walk_at "lk") (by rw [zed hy, this, List.append_nil]; exact hR) (by exact om435 bR)) S6
  ·rw [zH (by unfold zf4 at hd; simpa using hd)]
   refine zmr (L := L) (ww := h) (X := []) (g := g) (d := d) (os := os) G R.frames rfl (by intro z; cases z) ?_
   refine zeg (zbc ?_) rfl
   walk_at "All"
   refine zgc (zy ?_) rfl
   walk_at "All"
   cases hn : PySem.intText? y with
   | some n =>
    have e1 : zat y = [.int 100, .int n] := by unfold zat; rw [if_neg hd, hn]
    refine zy (ct_int2 hn y1 ?_)
    refine zy ?_
    walk_at "All"
    refine zbu ?_
    walk_at "All"
    refine za6 ?_; refine za6 ?_
    refine zbu ?_
    walk_at "All"
    refine zg8 (by with_reducible assumption) (by walk_at "led") (by walk_at "mem") (by simp) (by simp; exact om436 hxs hvl bR hi) ?_
    intro h9 S9
    refine ⟨rfl, ?_⟩
    walk_at "All"
    refine za6 ?_; refine za6 ?_
    exact LpS.mk (.mk rfl (by walk_at "lk") (by rw [zed hy, e1]; exact hR.app (.cons rfl (.cons rfl .nil))) (by simp; exact om437 bR)) (S9.drop (by walk_at "sub") (List.Sublist.refl _))
   | none =>
    have e1 : zat y = [.int (if y = ofString "rc" then 50 else 0), .str y] := by unfold zat; rw [if_neg hd, hn]
    refine cr_int2 R.handled y1 hn y2 ?_
    intro h7 e v' tk7 hm
    refine ⟨e, v', _, _, _, _, _, _, _, rfl, rfl, S6, hm, ?_⟩
    intro h8 tk8 S8
    with_reducible refine zby ?_ ?zz
    case zz => rfl
    refine m_dict ?_ (by walk_at "ab") rfl rfl
    walk_at "All"
    refine ⟨_, _, rfl, G.get S8.inv (a := 44) rfl, rfl, rfl, ?_⟩
    walk_at "All"
    refine o_stage G S8.inv y3 ?_
    intro u tk9
    walk_at "All"
    refine zbu ?_
    walk_at "All"
    refine zg8 (by with_reducible assumption) (by walk_at "led") (by walk_at "mem") (by simp) (by simp; exact om436 hxs hvl bR hi) ?_
    intro h9 S9
    refine ⟨rfl, ?_⟩
    walk_at "All"
    refine za6 ?_; refine za6 ?_
    exact LpS.mk (.mk rfl (by walk_at "lk") (by rw [zed hy, e1]; exact hR.app (.cons rfl (.cons rfl .nil))) (by simp; exact om437 bR)) (S9.drop (by walk_at "sub") (List.Sublist.refl _))
 ·rintro g' l rw tl' h5 tk5 ⟨rfl, hlR, hR, bR⟩ S5
  refine zdo (zy ?_)
  walk_at "All"
  have n1 := S5.newW (.head _)
  refine hq _ _ _ Ls _ _ S5.ret n1.1 n1.2 hcut ?_
  rw [lvs, List.take_length] at hR
  exact hR
end
@[reducible] noncomputable def cenv (fd : FuncData) (f L c : Nat) (n0 : Str) : Env := { scope := fd.scope, locals := L, globals := fd.globals, cells := [(n0, c)], qual := fd.qualname ++ ".<locals>.", func := some f, code := fd.code, frame := some L, builtins := fd.builtins }
theorem zfa {M : Model} {A : Around} {E : VP} {s : Shared} {acc : List (Str × Addr)} {Q : List (Str × Addr) → SP} : ∀ (names : List (Str × NameKind)), (∀ x ∈ names, x.2 ≠ .cell) → Q acc s →
  wpAny M A (forIn names acc fun x __s => if (x.2 == .cell) = true then do let __do_lift ← alloc { cls := .type "cell", data := .cell none }; pure (ForInStep.yield ((x.1, __do_lift) :: __s)) else pure (ForInStep.yield __s)) Q E s
 | [], _, hq => by rw [List.forIn_nil]; exact zP hq
 | x :: r, hn, hq => by
  rw [List.forIn_cons]
  have : (x.2 == NameKind.cell) = false := by
   have := hn x (.head _)
   cases hx : x.2 <;> first | rfl | (rw [hx] at this; exact absurd rfl this)
  rw [this, zG zF]
  exact zB (zP (zfa r (fun y hy => hn y (.tail _ hy)) hq))
section
theorem callCell {f : Nat} {fd : FuncData} {o : Obj} {body : List Stmt} {n0 n1 n2 : Str} {v0 v1 v2 : Value} {rest : List (Str × NameKind)} {n : Nat} {Q : VP}
  (G : Gd w uu) (W : Wd uu vv h) (P : Rm A vv (n + 1))
  (ho : h.get? f = some o) (hdat : o.data = .func fd) (hco : fd.scope.isCoroutine = false) (hgen : fd.scope.isGenerator = false) (hbody : fd.body = .stmts body) (hcd : h.CodeRec fd.code fd.qualname) (hclo : fd.closure = [])
  (hk : fd.scope.kind = .function) (hnames : fd.scope.names = (n0, .cell) :: rest) (hcell : ∀ x ∈ rest, x.2 ≠ .cell) (h0 : fd.scope.names.lookup n0 = some .cell) (h1 : fd.scope.names.lookup n1 = some .local) (h2 : fd.scope.names.lookup n2 = some .local)
  (hbind : wpAny (Mo w) A.in1 (bindArgs fd ⟨[v0, v1, v2], []⟩) (fun b s => b = [(n0, v0), (n1, v1), (n2, v2)] ∧ s = ⟨h, g, d, tk, os⟩) (fun j j => False) ⟨h, g, d, tk, os⟩)
  (hb : ∀ L c oc h₁ tk₁, oc.data = .cell (some v0) → St uu h [] vv L [(n2, v2), (n1, v1)] [(c, oc)] [] [] h₁ → Rm (A.deeper (cenv fd f L c n0)) (cenv fd f L c n0 :: vv) n →
   wpAny (Mo w) (A.deeper (cenv fd f L c n0)) (execs body (cenv fd f L c n0)) (fun fl s' => Q (match fl with | .ret v => v | _ => .none) s') (fun j j => False) ⟨h₁, g, d, tk₁, os⟩) :
  wpAny (Mo w) A (call (.ref f) [v0, v1, v2]) Q E ⟨h, g, d, tk, os⟩ := by
 refine wpAny_call (codeAny_call_function P.room ho hdat hco hgen hbody hcd (zM hbind (fun b s q => ?_) fun j j x => x.elim))
 obtain ⟨rfl, rfl⟩ := q
 rw [hclo]
 refine zB (wpAny_alloc ?_)
 refine zB ?_
 rw [hnames, List.forIn_cons]
 refine zB (wpAny_ite_true rfl (zB (wpAny_alloc (zP ?_))))
 dsimp only
 refine zfa rest hcell ?_
 refine zB ?_
 have e1 : (h.push { cls := .type "frame", data := .dict #[] }).objs.size = h.objs.size + 1 := Heap.size_push ..
 have hc0 : ((h.push { cls := .type "frame", data := .dict #[] }).push { cls := .type "cell", data := .cell none }).IsCell (h.push { cls := .type "frame", data := .dict #[] }).objs.size none := ⟨_, zL _ rfl, rfl⟩
 have ns0 : ((h.push { cls := .type "frame", data := .dict #[] }).push { cls := .type "cell", data := .cell none }).Ns h.objs.size (fun j => none) := (Heap.Ns.new h (.type "frame")).push _
 refine zB (zB (wpAny_storeName_cell (c := (h.push { cls := .type "frame", data := .dict #[] }).objs.size) hk h0 ?_ hc0 fun h₁ hc₁ hs₁ => zP ?_))
 ·show List.lookup n0 [(n0, _)] = _
  simp [List.lookup]
 ·dsimp only
  have ne : h.objs.size ≠ (h.push { cls := .type "frame", data := .dict #[] }).objs.size := by rw [e1]; exact om197
  have ns1 : h₁.Ns h.objs.size (fun j => none) := by
   obtain ⟨o, es, ep, e, r⟩ := ns0
   exact ⟨o, es, ep, (hs₁.2 _ ne).trans e, r⟩
  refine zB (zB (wpAny_storeName_local h1 ns1 (fun h₂ ns₂ hs₂ => zP ?_) (by rw [hk]; rfl)))
  refine zB (zB (wpAny_storeName_local h2 ns₂ (fun h₃ ns₃ hs₃ => zP ?_) (by rw [hk]; rfl)))
  dsimp only
  refine zP (zP ?_)
  have kp : ∀ (b : Nat) o, h.get? b = some o → h₃.get? b = some o := by
   intro b o e
   have b1 : b < h.objs.size := Heap.lt_size e
   have b2 : b ≠ (h.push { cls := .type "frame", data := .dict #[] }).objs.size := by rw [e1]; exact om29 b1
   have q1 := zQ (h := h.push { cls := .type "frame", data := .dict #[] }) { cls := .type "cell", data := .cell none } (zQ (h := h) { cls := .type "frame", data := .dict #[] } e)
   have q2 := (hs₁.2 b b2).trans q1
   have q3 := (hs₂.2 b (Nat.ne_of_lt b1)).trans q2
   exact (hs₃.2 b (Nat.ne_of_lt b1)).trans q3
  refine ⟨(G.nolim W.inv).keeps kp, codeAny_func ?_⟩
  obtain ⟨oc, hoc, hdc⟩ := hc₁
  have hoc3 : h₃.get? (h.push { cls := .type "frame", data := .dict #[] }).objs.size = some oc := (hs₃.2 _ (Ne.symm ne)).trans ((hs₂.2 _ (Ne.symm ne)).trans hoc)
  have cn : h.get? (h.push { cls := .type "frame", data := .dict #[] }).objs.size = none := by
   rw [e1]
   cases e : h.get? (h.objs.size + 1) with
   | none => rfl
   | some o => have := ltS e; omega
  have S0 : St uu h [] vv h.objs.size [(n2, v2), (n1, v1)] [] [] [] h₃ := by
   refine ⟨W.inv.keeps fun b o e j => kp b o e, W.fr.keeps fun b o j e => ⟨o.slots, kp b o e⟩, .of kp, getN, ?_, fun b o e => W.inv.there e, ?_, ?_, ?_, List.nodup_nil, ?_, ?_⟩
   ·intro b hb
    obtain ⟨o, es, ep, _, e, _⟩ := W.fr.mem hb
    exact ⟨o, e⟩
   ·have : (fun x => List.lookup x [(n2, v2), (n1, v1)]) = (fun y => if y = n2 then some v2 else (fun y => if y = n1 then some v1 else none) y) := by
     funext y
     rw [List.lookup_cons, List.lookup_cons]
     by_cases z2 : y = n2
     ·simp [z2]
     ·have : (y == n2) = false := by simp [z2]
      by_cases z1 : y = n1
      ·subst z1
       rw [this]
       simp [z2]
      ·have q : (y == n1) = false := by simp [z1]
       simp [this, q, z1, z2]
    rw [this]; exact ns₃
   all_goals (intro _ hp; exact nomatch hp)
  have S : St uu h [] vv h.objs.size [(n2, v2), (n1, v1)] [((h.push { cls := .type "frame", data := .dict #[] }).objs.size, oc)] [] [] h₃ := by
   have ib : uu.get? (h.push { cls := .type "frame", data := .dict #[] }).objs.size = none := by
    cases e : uu.get? (h.push { cls := .type "frame", data := .dict #[] }).objs.size with
    | none => rfl
    | some o => obtain ⟨o', e'⟩ := W.inv.there e; rw [cn] at e'; cases e'
   refine ⟨S0.inv, S0.fr, S0.keep, S0.above, S0.low, S0.based, S0.ns, ?_, S0.hrw, S0.nd, (fun p hp q hq => nomatch hq), S0.htl⟩
   intro p hp
   rw [zS hp]
   refine ⟨hoc3, Ne.symm ne, fun hb => ?_, fun ht => ?_⟩
   ·obtain ⟨o, es, ep, _, e, _⟩ := W.fr.mem hb
    rw [cn] at e; cases e
   ·obtain ⟨o, e⟩ := S0.inv.tabLow ht
    rw [ib] at e; cases e
  refine zM (hb _ _ oc h₃ _ hdc S (P.deeper _)) (fun fl s' q => q) fun j j x => x.elim
end
noncomputable def Scal.data : Scal → PyData
 | .none => .none
 | .int i => .int i
 | .str s => .str s
noncomputable def Scal.isNone : Scal → Bool
 | .none => true
 | _ => false
noncomputable def Scal.ok : Scal → Prop
 | .str s => PyData.strOk s = true
 | _ => True
set_option tactic.hygienic true in
theorem zb2 {h : Heap} {vs : List Value} {ss : List Scal} (a : All2 Sc vs ss) : ReadsAll h vs (ss.map Scal.data) [] := by
 induction a with
 | nil => exact .nil
 | cons r _ ih =>
  rename_i v s l m _
  have : Reads h v s.data [] := by
   cases v <;> cases s <;> first | exact False.elim r | exact .none | (obtain rfl : _ = _ := r; first | exact .int _ _ | exact .str _ _)
  exact ReadsAll.cons (as := []) (bs := []) this ih
theorem zcn : ∀ {ss : List Scal}, (∀ s ∈ ss, s.ok) → PyData.canLayAll0 (ss.map Scal.data) = true
 | [], _ => rfl
 | s :: r, h => by
  have h1 := h s (.head _)
  have h2 := zcn (ss := r) fun s hs => h s (.tail _ hs)
  show (PyData.canLay0 s.data && PyData.canLayAll0 (r.map Scal.data)) = true
  rw [h2, Bool.and_true]
  cases s with
  | none => rfl
  | int i => rfl
  | str x =>
   show PyData.canLay0 (.str x) = true
   exact h1
theorem zcf : ∀ {ss : List Scal}, PyData.depthAll (ss.map Scal.data) = 0
 | [] => rfl
 | s :: r => by
  have h2 := zcf (ss := r)
  show max (PyData.depth s.data) (PyData.depthAll (r.map Scal.data)) = 0
  refine h2 ▸ ?_
  cases s <;> rfl
theorem zjf : ∀ {ss : List Scal}, ((ss.map Scal.data).any fun y => PyData.eqv y .none) = ss.any Scal.isNone
 | [] => rfl
 | s :: r => by
  rw [Zi, List.any_cons, List.any_cons, zjf (ss := r)]
  congr 1
  cases s <;> rfl
section
variable {n' : Nat}
theorem zh9 {a n : Nat} {vs : List Value} {ss : List Scal} (hu : A.units ≤ 9000) (hm : h.get? a = some (zaa vs n)) (hs : All2 Sc vs ss) (hok : ∀ s ∈ ss, s.ok)
  (hq : Q (.bool (!ss.any Scal.isNone)) ⟨h, g, d, tk, os⟩) : wpAny (Mo w) A (compareOp .NotIn .none (.ref a)) Q E ⟨h, g, d, tk, os⟩ := by
 refine SeqAt.notIn_list_reads (.list hm rfl rfl (zb2 hs)) .none (zcn hok) rfl ?_ ?_
 ·have c : cLine = 9900 := rfl
  refine zcf ▸ ?_
  exact om39 hu
 ·rw [zjf]; exact hq
theorem o_eqL {a b n m : Nat} {us vs : List Value} {ss tt : List Scal} (hu : A.units ≤ 9000) (h1 : h.get? a = some (zaa us n)) (h2 : h.get? b = some (zaa vs m)) (hs : All2 Sc us ss) (ht : All2 Sc vs tt) (hok : ∀ s ∈ ss, s.ok) (e : ss = tt)
  (hq : Q (.bool true) ⟨h, g, d, tk, os⟩) : wpAny (Mo w) A (compareOp .Eq (.ref a) (.ref b)) Q E ⟨h, g, d, tk, os⟩ := by
 subst e
 refine SeqAt.compareEq_reads (.list h1 rfl rfl (zb2 hs)) (.list h2 rfl rfl (zb2 ht)) (zcn hok) (zcn hok) ?_ ?_
 ·show A.units + min (PyData.depthAll (ss.map Scal.data) + 1) (PyData.depthAll (ss.map Scal.data) + 1) < cLine
  exact zcf ▸ om40 hu
 ·have : PyData.eqv (.list (ss.map Scal.data)) (.list (ss.map Scal.data)) = true := SeqAt.eqv_refl _ (zcn hok)
  exact this ▸ hq
theorem o_neT {a b : Nat} {us vs : List Value} {ss tt : List Scal} (hu : A.units ≤ 9000) (h1 : h.get? a = some (zac us)) (h2 : h.get? b = some (zac vs)) (hs : All2 Sc us ss) (ht : All2 Sc vs tt) (hok : ∀ s ∈ ss, s.ok) (e : ss = tt)
  (hq : Q (.bool false) ⟨h, g, d, tk, os⟩) : wpAny (Mo w) A (compareOp .NotEq (.ref a) (.ref b)) Q E ⟨h, g, d, tk, os⟩ := by
 subst e
 refine SeqAt.compareNe_reads (.tuple h1 rfl rfl (zb2 hs)) (.tuple h2 rfl rfl (zb2 ht)) (zcn hok) (zcn hok) ?_ ?_
 ·show A.units + min (PyData.depthAll (ss.map Scal.data) + 1) (PyData.depthAll (ss.map Scal.data) + 1) < cLine
  exact zcf ▸ om40 hu
 ·have : PyData.eqv (.tuple (ss.map Scal.data)) (.tuple (ss.map Scal.data)) = true := SeqAt.eqv_refl _ (zcn hok)
  exact this ▸ hq
theorem Rm.u9 {A : Around} {vv : List Env} {n : Nat} (r : Rm A vv n) : A.units ≤ 9000 := by have := r.units; exact om41 this
end
theorem Keep.more {F X Y : List Nat} {h h' : Heap} (k : Keep F X h h') (s : ∀ x ∈ X, x ∈ Y) : Keep F Y h h' := ⟨fun b o e p q r => k.obj b o e p (fun z => q (s b z)) r, k.frm, k.tup, k.there⟩
theorem RetX.more {uu : Heap} {vv : List Env} {X Y : List Nat} {h h' : Heap} (r : RetX uu vv X h h') (s : ∀ x ∈ X, x ∈ Y) : RetX uu vv Y h h' := ⟨r.keep.more s, r.inv⟩
noncomputable def zap (ps : List (Str × Str)) : Str × Str := ps.getLast?.getD (ofString "", ofString "")
section
variable {x C a n : Nat}
theorem Own.rd {p : LO} (I : Inv uu h) (O : Own uu vv h p) {o : Obj} (hm : (a, o) ∈ p) : Rd vv h a o := by
 obtain ⟨a1, a2, a3, _⟩ := O.at_ _ hm
 refine ⟨a1, a2, fun z => ?_⟩
 obtain ⟨o', e⟩ := I.tabLow z
 dsimp only at a3
 rw [a3] at e; cases e
theorem c_pop {t1 : Nat} {k : Value} {Q : VP} (G : Gd w uu) (W : Wd uu vv h) (P : Rm A vv 4) (O : Own uu vv h [(a, zad ax vs n)]) (r2 : Rd vv h ax (iniD w t1 k)) (hax : ax ≠ a) (hp : Prs h vs ps) (hs : ps.length ≤ 1000)
  (hq : ∀ T t u us m h' tk', RetX uu vv [a] h h' → h'.get? a = some (zad ax us m) → Prs h' us ps.dropLast → h'.get? T = some (zac [.str (zap ps).1 t, .str (zap ps).2 u]) → Q (.ref T) ⟨h', g, d, tk', os⟩) :
  wpAny (Mo w) A (call (.ref 188) [.ref a]) Q E ⟨h, g, d, tk, os⟩ := by
 have el := hp.length
 rcases List.eq_nil_or_concat ps with e | ⟨qs, q, e⟩
 ·subst e
  have e0 : vs = [] := List.length_eq_zero_iff.mp (by simpa using el)
  subst e0
  refine c_pop0 (n := n) G W P (O.rd W.inv (.head _)) r2 fun T t u h' tk' r hT => ?_
  exact hq T t u [] n h' tk' (r.more (fun j z => nomatch z)) (r.keep.obj _ _ (O.at_ _ (.head _)).1 (O.at_ _ (.head _)).2.1 List.not_mem_nil (O.rd W.inv (.head _)).2.2) .nil hT
 ·rw [List.concat_eq_append] at e
  subst e
  obtain ⟨us, v, rfl, p1, T, t, u, rfl, hT⟩ := All2.splitSnoc hp
  refine c_pop1 G W P O r2 hax (by simp at el hs; exact om232 el hs) fun m h' tk' r ha => ?_
  have e1 : zap (qs ++ [q]) = q := by simp [zap]
  refine hq T t u us m h' tk' r ha ?_ ?_
  ·rw [List.dropLast_concat]; exact Prs.keeps r.keep p1
  ·rw [e1]; exact r.keep.tup _ _ hT rfl ⟨_, _, rfl⟩
end
structure MkS where
 t : Nat → Nat
 wd : Int
 u : Nat
 cws : Value
 cwl : Value
 spl : Nat
 ln : Nat
 ac : Nat
@[reducible] noncomputable def mkD (w : World) (M : MkS) : Obj := dictOf [ent w "_maxlen" (M.t 0) (.int M.wd M.u), ent w "_continuation_ws" (M.t 1) M.cws, ent w "_continuation_ws_len" (M.t 2) M.cwl, ent w "_splitchars" (M.t 3) (.str (ofString ".") M.spl), ent w "_lines" (M.t 4) (.ref M.ln), ent w "_current_line" (M.t 5) (.ref M.ac)] 6
theorem M_cur {w : World} : findIn (KS w) (.ref 144) "_current_line" = some none := by rfl
theorem M_lines {w : World} : findIn (KS w) (.ref 144) "_lines" = some none := by rfl
theorem M_maxlen {w : World} : findIn (KS w) (.ref 144) "_maxlen" = some none := by rfl
theorem M_split {w : World} : findIn (KS w) (.ref 144) "_splitchars" = some none := by rfl
noncomputable def psc (p : Str × Str) : List Scal := [.str p.1, .str p.2]
theorem Prs.tps {h : Heap} {vs : List Value} {ps : List (Str × Str)} (p : Prs h vs ps) : Tps h vs (ps.map psc) := by
 induction p with
 | nil => exact .nil
 | cons a _ ih =>
  obtain ⟨T, t, u, e, ho⟩ := a
  exact .cons ⟨T, _, e, ho, .cons rfl (.cons rfl .nil)⟩ ih
theorem Tps.prs {h : Heap} {vs : List Value} : ∀ {ps : List (Str × Str)}, Tps h vs (ps.map psc) → Prs h vs ps := by
 induction vs with
 | nil =>
  intro ps p
  cases ps with
  | nil => exact .nil
  | cons q r => cases p
 | cons v vs ih =>
  intro ps p
  cases ps with
  | nil => cases p
  | cons q r =>
   cases p with
   | cons a b =>
    obtain ⟨T, us, e, ho, hs⟩ := a
    cases hs with
    | cons s1 hs =>
     cases hs with
     | cons s2 hs =>
      cases hs
      obtain ⟨t, rfl⟩ := s1.str
      obtain ⟨u, rfl⟩ := s2.str
      exact .cons ⟨T, t, u, e, ho⟩ (ih b)
theorem ok_sp : PyData.strOk (ofString " ") = true := by decide +kernel
theorem ok_em : PyData.strOk (ofString "") = true := by decide +kernel
theorem ac_noT {ax : Nat} {vs : List Value} {n : Nat} : (zad ax vs n).cls ≠ .type "tuple" := fun z => by cases z
theorem zcb {w : World} {t : Nat} {v : Value} : (iniD w t v).cls ≠ .type "tuple" := clsNe (by decide)
theorem zfy {vs : List Value} {n : Nat} : (zaa vs n).cls ≠ .type "tuple" := clsNe (by decide)
theorem noT3 {w : World} {a b c ax : Nat} {vs us : List Value} {n m t : Nat} {v : Value} : ∀ p ∈ [(a, zad ax vs n), (b, iniD w t v), (c, zaa us m)], p.2.cls ≠ .type "tuple" := by
 intro p hp
 simp only [List.mem_cons, List.not_mem_nil, or_false] at hp
 rcases hp with rfl | rfl | rfl
 ·exact ac_noT
 ·exact zcb
 ·exact zfy
section
variable {x C mk a n : Nat} {M : MkS}
theorem n_cur {Q : VP} (G : Gd w uu) (S : St uu ww X vv L l ro rw tl h) (hx : (mk, instObj 144 dx) ∈ ro) (hd : (dx, mkD w M) ∈ ro) (hq : Q (.ref M.ac) ⟨h, g, d, tk + 1, os⟩) :
  wpAny (Mo w) A (getAttr (.ref mk) "_current_line" true) Q E ⟨h, g, d, tk, os⟩ := zjh G S za7 (.inl hx) (.inl hd) rfl rfl rfl M_cur (by rfl) rfl hq
theorem n_lines {Q : VP} (G : Gd w uu) (S : St uu ww X vv L l ro rw tl h) (hx : (mk, instObj 144 dx) ∈ ro) (hd : (dx, mkD w M) ∈ ro) (hq : Q (.ref M.ln) ⟨h, g, d, tk + 1, os⟩) :
  wpAny (Mo w) A (getAttr (.ref mk) "_lines" true) Q E ⟨h, g, d, tk, os⟩ := zjh G S za7 (.inl hx) (.inl hd) rfl rfl rfl M_lines (by rfl) rfl hq
theorem n_maxlen {Q : VP} (G : Gd w uu) (S : St uu ww X vv L l ro rw tl h) (hx : (mk, instObj 144 dx) ∈ ro) (hd : (dx, mkD w M) ∈ ro) (hq : Q (.int M.wd M.u) ⟨h, g, d, tk + 1, os⟩) :
  wpAny (Mo w) A (getAttr (.ref mk) "_maxlen" true) Q E ⟨h, g, d, tk, os⟩ := zjh G S za7 (.inl hx) (.inl hd) rfl rfl rfl M_maxlen (by rfl) rfl hq
theorem zlv {Q : VP} (G : Gd w uu) (S : St uu ww X vv L l ro rw tl h) (hx : (mk, instObj 144 dx) ∈ ro) (hd : (dx, mkD w M) ∈ ro) (hq : Q (.str (ofString ".") M.spl) ⟨h, g, d, tk + 1, os⟩) :
  wpAny (Mo w) A (getAttr (.ref mk) "_splitchars" true) Q E ⟨h, g, d, tk, os⟩ := zjh G S za7 (.inl hx) (.inl hd) rfl rfl rfl M_split (by rfl) rfl hq
theorem o_neT2 {b c : Nat} {us vs : List Value} {p q : Str × Str} (hu : A.units ≤ 9000) (h1 : h.get? b = some (zac us)) (h2 : h.get? c = some (zac vs)) (hs : All2 Sc us [.str p.1, .str p.2]) (ht : All2 Sc vs [.str q.1, .str q.2])
  (hok : PyData.strOk p.1 = true ∧ PyData.strOk p.2 = true) (hok2 : PyData.strOk q.1 = true ∧ PyData.strOk q.2 = true) (e : p ≠ q) {Q : VP} (hq : Q (.bool true) ⟨h, g, d, tk, os⟩) : wpAny (Mo w) A (compareOp .NotEq (.ref b) (.ref c)) Q E ⟨h, g, d, tk, os⟩ := by
 have l1 : PyData.canLayAll0 ([Scal.str p.1, .str p.2].map Scal.data) = true := zcn (fun s hs => by
  simp only [List.mem_cons, List.not_mem_nil, or_false] at hs
  rcases hs with rfl | rfl
  ·exact hok.1
  ·exact hok.2)
 have l2 : PyData.canLayAll0 ([Scal.str q.1, .str q.2].map Scal.data) = true := zcn (fun s hs => by
  simp only [List.mem_cons, List.not_mem_nil, or_false] at hs
  rcases hs with rfl | rfl
  ·exact hok2.1
  ·exact hok2.2)
 refine SeqAt.compareNe_reads (.tuple h1 rfl rfl (zb2 hs)) (.tuple h2 rfl rfl (zb2 ht)) l1 l2 ?_ ?_
 ·show A.units + min (PyData.depthAll ([Scal.str p.1, .str p.2].map Scal.data) + 1) (PyData.depthAll ([Scal.str q.1, .str q.2].map Scal.data) + 1) < cLine
  rw [zcf, zcf]; exact om40 hu
 ·have : PyData.eqv (.tuple ([Scal.str p.1, .str p.2].map Scal.data)) (.tuple ([Scal.str q.1, .str q.2].map Scal.data)) = false := by
   show (p.1 == q.1 && (p.2 == q.2 && true)) = false
   by_cases e1 : p.1 = q.1
   ·by_cases e2 : p.2 = q.2
    ·exact absurd (Prod.ext e1 e2) e
    ·have : (p.2 == q.2) = false := by simpa using e2
     rw [this]; simp
   ·have : (p.1 == q.1) = false := by simpa using e1
    rw [this]; rfl
  rw [this]; exact hq
end
@[reducible] noncomputable def ze1 (x left step : Int) : Obj := { cls := .type "range_iterator", dict := none, data := .fields #[rawInt x, rawInt left, rawInt step], slots := #[] }
def IsRI (a step : Int) (n i : Nat) (o : Obj) : Prop := o = ze1 (a + step * i) ((n : Int) - i) step
section
variable {n' : Nat}
theorem zkz {it n : Nat} {a step : Int} : Src w it n (IsRI a step n) (fun i v => ∃ t, v = .int (a + step * i) t) (fun j => True) := by
 refine ⟨fun A E Q h g d tk os i o j ho hi hlt hq => ?_, fun A E Q h g d tk os o hh j ho hi hq => ?_, fun i o hi => ⟨"range_iterator", #[rawInt (a + step * i), rawInt ((n : Int) - i), rawInt step], ?_, ?_, by decide, by decide⟩⟩
 ·unfold IsRI at hi
  subst hi
  refine wpAny_pyNext_range_item ho (by exact om42 hlt) fun h' hi' hs => ?_
  refine hq _ h' _ _ ⟨_, rfl⟩ hi' ?_ hs
  have e1 : a + step * ((i + 1 : Nat) : Int) = a + step * i + step := by rw [Int.natCast_add, Int.mul_add]; simp; exact om43
  have e2 : (n : Int) - ((i + 1 : Nat) : Int) = (n : Int) - i - 1 := by exact om44
  show _ = ze1 (a + step * ((i + 1 : Nat) : Int)) ((n : Int) - ((i + 1 : Nat) : Int)) step
  rw [e1, e2]
 ·unfold IsRI at hi
  subst hi
  exact wpAny_pyNext_range_end hh ho (by exact om45) hq
 ·unfold IsRI at hi; subst hi; rfl
 ·unfold IsRI at hi; subst hi; rfl
theorem n_range1 {n : Int} {t : Nat} (S : St uu ww X vv L l ro rw tl h) (h0 : 0 ≤ n) (h1 : n ≤ 100000)
  (hq : ∀ it h' io tk', IsRI 0 1 n.toNat 0 io → St uu ww X vv L l ro ((it, io) :: rw) tl h' → Q (.ref it) ⟨h', g, d, tk', os⟩) :
  wpAny (Mo w) A (call (.type "range") [.int n t]) (fun v s => wpAny (Mo w) A (pyIter v) Q E s) E ⟨h, g, d, tk, os⟩ := by
 have sz : Builtin.Range.rangeSize 0 n 1 = n := by
  unfold Builtin.Range.rangeSize
  rw [zH (by decide)]
  split <;> (first | exact om46 | exact om47 h0 (by assumption))
 refine call_range_1 ?_
 refine wpAny_pyIter_range (zL _ rfl) ?_ ?_
 ·unfold Builtin.Range.small
  rw [sz]
  unfold Builtin.Range.rangeFitsLong
  simp
  exact om48 h0 h1
 ·rw [sz]
  refine hq _ _ (ze1 0 n 1) _ ?_ ((S.push _).allocW (ze1 0 n 1) rfl (clsNe (by decide)))
  unfold IsRI
  have e1 : ((n.toNat : Int)) - ((0 : Nat) : Int) = n := by exact om49 h0
  rw [e1]; rfl
theorem itr_rng {it n : Nat} {a step : Int} {target : Expr} (hX : it ∉ X) : Itr w uu ww X vv ro target (.ref it) n (fun i its => ∃ io, its = [(it, io)] ∧ IsRI a step n i io) (fun i v new => new = [] ∧ ∃ t, v = .int (a + step * i) t) :=
 Itr.ofSrc zkz hX (fun j j j j j S => trivial) fun A E Q i o s ho hi hq => by
  subst hi
  have hT : s.TypeIs (.ref it) "range_iterator" := ⟨_, ho, rfl⟩
  refine wpAny_pyIter_slot hT F.slot_range_iterator_iter (wpAny_call_entry F.slot_range_iterator_iter hT F.entry_range_iterator_iter ?_ (F.args_range_iterator_iter_1 _))
  exact zP ⟨_, rfl, "range_iterator", _, hT, F.slot_range_iterator_next.lookup, hq⟩
end
def zdn (x : Str) : Prop := Txt.item x (-1) = ofString "." ∧ 0 < x.length
structure ChS where
 ls : List Str
 ps : List (Str × Str)
 k : Int
noncomputable def zc5 : Str × Str := (ofString "", ofString "")
noncomputable def zb6 (wd : Int) (q : Str × Str) (s : ChS) : ChS :=
 if s.k + plens (s.ps ++ [q]) ≤ wd then ⟨s.ls, s.ps ++ [q], s.k⟩
 else if s.ps = [] then (if 0 < s.k then ⟨s.ls ++ [zar [zc5]], [(if q.1.length = 0 then ofString " " else q.1, q.2)], 0⟩ else ⟨s.ls, [q], s.k⟩)
 else ⟨s.ls ++ [zar s.ps], [q], 0⟩
section
variable {x C mk a n : Nat} {M : MkS}
theorem zia {n : Nat} {t u v : Nat} {Q : VP} (S : St uu ww X vv L l ro rw tl h) (h1 : n ≤ 100000)
  (hq : ∀ it h' io tk', IsRI n (-1) n 0 io → h.get? it = none → St uu ww X vv L l ro ((it, io) :: rw) tl h' → Q (.ref it) ⟨h', g, d, tk', os⟩) :
  wpAny (Mo w) A (call (.type "range") [.int n t, .int 0 u, .int (-1) v]) (fun v s => wpAny (Mo w) A (pyIter v) Q E s) E ⟨h, g, d, tk, os⟩ := by
 have sz : Builtin.Range.rangeSize n 0 (-1) = n := by
  unfold Builtin.Range.rangeSize
  rw [zG (by decide), show (-(-1) : Int) = 1 from rfl, Int.ediv_one]
  split <;> (first | exact om240 | exact om241 (by assumption))
 refine call_range_3 (by decide) ?_ (.inl ?_)
 ·refine wpAny_pyIter_range (zL _ rfl) ?_ ?_
  ·unfold Builtin.Range.small
   rw [sz]
   unfold Builtin.Range.rangeFitsLong
   simp
   exact om242 h1
  ·rw [sz]
   refine hq _ _ (ze1 n n (-1)) _ ?_ ?_ ((S.push _).allocW (ze1 n n (-1)) rfl (clsNe (by decide)))
   ·unfold IsRI
    simp
   ·cases e : h.get? ((h.push { cls := .type "range", data := .fields #[.int n t, .int 0 u, .int (-1) v] }).objs.size) with
    | none => rfl
    | some o => have := ltS e; rw [Heap.size_push] at this; exact absurd this (Nat.not_lt.mpr (Nat.le_succ _))
 ·exact PyProof.noPylong_small (by exact om243)
end
section
theorem St.off {C : Nat} {m : Str → Option Value} (S : St uu ww X vv L l ro rw tl h) {h' : Heap} (hs : Heap.SameBut C h h') (hn : h.Ns C m) (hCL : C ≠ L) (hCF : C ∉ zab vv) (hCb : uu.get? C = none) (hC0 : ww.get? C = none)
  (hro : ∀ p ∈ ro, p.1 ≠ C) (hrw : ∀ p ∈ rw, p.1 ≠ C) : St uu ww X vv L l ro rw tl h' := by
 obtain ⟨oC, esC, epC, hgC, hdC, _⟩ := hn
 have mv : ∀ (b : Nat) o, h.get? b = some o → b ≠ C → h'.get? b = some o := fun b o e hb => (hs.2 b hb).trans e
 have tupK : ∀ (b : Nat) o, h.get? b = some o → o.cls = .type "tuple" → (∃ vs n, o.data = .seq vs n) → h'.get? b = some o := by
  intro b o e hc ⟨vs, n, hd⟩
  refine mv b o e fun q => ?_
  subst q; rw [hgC] at e; cases e; rw [hdC] at hd; cases hd
 have nC : ∀ (b : Nat) o, ww.get? b = some o → b ≠ C := by rintro b o e rfl; rw [hC0] at e; cases e
 obtain ⟨oL, esL, epL, hgL, hz⟩ := S.ns
 refine ⟨S.inv.keeps fun b o e ⟨o', hb⟩ => mv b o e (fun q => by rw [q, hCb] at hb; cases hb), S.fr.keeps fun b o hb e => ⟨o.slots, mv b o e (fun q => hCF (q ▸ hb))⟩, ?_, S.above, S.low, S.based, ⟨oL, esL, epL, mv _ _ hgL (Ne.symm hCL), hz⟩, ?_, ?_, S.nd, S.sep, fun t ht => (S.htl t ht).move tupK⟩
 ·refine ⟨fun b o e p q r => mv b o (S.keep.obj b o e p q r) (nC b o e), fun b o e p => ?_, fun b o e p q => tupK b o (S.keep.tup b o e p q) p q, fun b o e => ?_⟩
  ·obtain ⟨sl, e'⟩ := S.keep.frm b o e p
   exact ⟨sl, mv _ _ e' (nC b o e)⟩
  ·obtain ⟨o', e'⟩ := S.keep.there b o e
   exact ⟨o', mv _ _ e' (nC b o e)⟩
 ·intro p hp
  obtain ⟨a1, a2, a3⟩ := S.hro p hp
  exact ⟨mv _ _ a1 (hro p hp), a2, a3⟩
 ·intro p hp
  obtain ⟨a1, a2, a3⟩ := S.hrw p hp
  exact ⟨mv _ _ a1 (hrw p hp), a2, a3⟩
def zno (w : World) (A : Around) (env : Env) (elt target iter : Expr) (ifs : List Expr) (scope : Scope) (pos : Pos) (cl : List (Str × Addr)) (y : Str) (py : Pos) (Q : SP) (E : VP) (it : Value) (s : Shared) : Prop :=
 wpAny (Mo w) A (newList []) (fun acc s₃ => wpAny (Mo w) A (newFunctionEnv scope env.globals cl [] env.qual none .none (some env)) (fun cenv s₄ =>
  codeAny (Mo w) A (.compStart (.ListComp elt [⟨target, iter, ifs, 0⟩] scope pos) 0 it acc { cenv with scope := relabel scope env }) (compPost (Mo w) A E (some (assign (.Name y py) env)) (fun j s' => Q s') acc cenv.locals) s₄) E s₃) E s
theorem zgm {elt target iter : Expr} {ifs : List Expr} {scope : Scope} {cl : List (Str × Addr)} {y : Str} {py spos : Pos} {rest : List Stmt} {s : Shared} {Q : Flow → SP}
  (hsw : swapsWith (.ListComp elt [⟨target, iter, ifs, 0⟩] scope pos) (some (.Name y py)) spos.line env = pure true)
  (h : wpAny (Mo w) A (eval iter env) (fun x s₁ => wpAny (Mo w) A (pyIter x) (fun it s₂ => zno w A env elt target iter ifs scope pos cl y py (fun s' => wpAny (Mo w) A (execs rest env) Q E s') E it s₂) E s₁) E s)
  (hclos : closureFor scope env = pure cl) (hkind : scope.kind = .function) (hnames : ∀ x ∈ scope.names, x.2 = .local → scope.names.lookup x.1 = some .local) (hs : ∀ x, foldedSetIterable iter env x = pure x := by intro _; rfl) :
  wpAny (Mo w) A (execs (.Assign [.Name y py] (.ListComp elt [⟨target, iter, ifs, 0⟩] scope pos) spos :: rest) env) Q E s := by
 refine wpAny_execs_cons ?_
 rw [exec_Assign_Name_used _ _ _ _ hsw]
 refine zB (wpAny_standAt (zB ?_))
 show wpAny _ A (do let _ ← comprehension (.ListComp elt [⟨target, iter, ifs, 0⟩] scope pos) scope env _ (newList []) false (eval iter env) (some (assign (.Name y py) env))) _ _ s
 refine zB (zM (wpAny_comprehension_free (use := some (assign (.Name y py) env)) (Q := fun j s' => wpAny (Mo w) A (execs rest env) Q E s') rfl hs hclos hkind hnames h) (fun j s' hq => zP (zP hq)) fun j j e => e)
theorem zjq {elt target iter : Expr} {ifs : List Expr} {scope : Scope} {cl : List (Str × Addr)} {it : Value} {n : Nat} {Its : Nat → LO → Prop} {V : Nat → Value → LO → Prop} {its : LO} {oL : Obj} {y : Str} {py : Pos} {Q : SP}
  (hL : h.get? L = some oL) (hit : Itr w uu ww X vv ((L, oL) :: ro) target it n Its V) (hh : A.handled = none) (hn : n ≤ 1000000) (P : Nat → List Value → Prop) (hP : ∀ i vs, P i vs → vs.length ≤ i)
  (S : St uu ww X vv L l ro (its ++ rw) tl h) (h0 : P 0 []) (hits : Its 0 its) (hcell : ∀ y ∈ scope.names, y.2 ≠ .cell) (hkind : scope.kind = .function)
  (turn : ∀ C acc i v new vs m l its h tk, i < n → V i v new → P i vs → St uu ww X vv C l (new ++ (L, oL) :: ro) (its ++ (acc, zaa vs m) :: rw) tl h →
   wpAny (Mo w) A (assign target (compEnvC scope cl C env) v) (fun j s₂ => wpAny (Mo w) A (zej ifs (compEnvC scope cl C env)) (CpB w A elt (compEnvC scope cl C env) (fun x => CpE uu ww X vv C ((L, oL) :: ro) (its ++ (acc, zaa vs m) :: rw) tl g d os (P (i + 1) (vs ++ [x]))) (CpE uu ww X vv C ((L, oL) :: ro) (its ++ (acc, zaa vs m) :: rw) tl g d os (P (i + 1) vs))) (fun j j => False) s₂) (fun j j => False) ⟨h, g, d, tk, os⟩)
  (stop : ∀ acc vs m h' tk', P n vs → h.get? acc = none → St uu ww X vv L ((y, .ref acc) :: l) ro ((acc, zaa vs m) :: rw) tl h' → Q ⟨h', g, d, tk', os⟩)
  (hk : env.scope.kind = .function := by rfl) (hl : env.kindOf y = some .local := by rfl) (hLe : env.locals = L := by rfl) :
  zno w A env elt target iter ifs scope pos cl y py Q E it ⟨h, g, d, tk, os⟩ := by
 refine wpAny_newList (wpAny_newFunctionEnv hcell (by intro y hy; simp at hy) (fun h₁ hns₁ hsb₁ => ?_) hkind)
 have S4 := S.comp hL hns₁ (fun b o e => hsb₁.extBut b o (Nat.ne_of_lt (ltS e)) (zQ _ e))
 have loop : ∀ tk, codeAny (Mo w) A (.compLoop (.ListComp elt [⟨target, iter, ifs, 0⟩] scope pos) 0 it (.ref h.objs.size) (compEnvC scope cl (h.push (zaa [])).objs.size env))
   (compPost (Mo w) A E (some (assign (.Name y py) env)) (fun j s' => Q s') (.ref h.objs.size) (h.push (zaa [])).objs.size) ⟨h₁, g, d, tk, os⟩ := fun tk =>
  zhq hit.toItN hh hn P hP S4 h0 hits (fun i v new vs m l its h tk => turn _ _ i v new vs m l its h tk) fun vs m l' h' tk' hp S' => by
   have S5 := S.leave hL S' (.refl ..)
   have hlL := S'.hro _ (.head _)
   dsimp only at hlL
   have cL : (h.push (zaa [])).objs.size ≠ L := Ne.symm hlL.2.1
   refine wpAny_assign_Name (wpAny_storeName_local hl (by rw [hLe]; exact S5.ns) (fun h₂ hn₂ hs₂ => ?_) (by rw [hk]; rfl))
   rw [hLe] at hn₂ hs₂
   have S6 := S5.set hn₂ hs₂
   have nC : h₂.Ns (h.push (zaa [])).objs.size _ := S'.ns.sameBut hs₂ cL
   refine ⟨_, nC, fun h₃ hs₃ => stop _ _ _ _ _ hp getN (S6.off hs₃ nC cL (fun z => S'.neL z rfl) S'.baseL S'.above ?_ ?_)⟩
   ·intro p hp
    exact (S'.hro p (.tail _ hp)).2.1
   ·intro p hp
    exact (S'.hrw p hp).2.1
 exact codeAny_compStart_list (loop _) (hit.self A _ _ _ _ _ _ _ _ _ _ _ _ _ S4 hits (loop _))
end
noncomputable def zbh (v : Option Int) : Scal := match v with | none => .none | some i => .int i
noncomputable def zbi (x : Str) : List Nat := (List.range x.length).filter fun k => x.cps.getD k 0 == 46
noncomputable def za2 (x : Str) (vals : List (Option Int)) (b : Str) : Str :=
 if (vals.all Option.isSome) = true ∧ b ≠ ofString "x" then Txt.join dotS (((vals.filterMap id ++ if b.length = 0 then [] else [42]).take 3).map zag)
 else if 2 < (zbi x).length then Txt.slice x none (some (((zbi x).getD 2 0 : Nat) : Int))
 else if b.length ≠ 0 ∧ (zbi x).length = 1 then (x ++ dotS) ++ b else x
theorem dot_eq (c : Nat) : ((⟨#[c]⟩ : Str) == ofString ".") = (c == 46) := by
 by_cases h : c = 46
 ·subst h; rfl
 ·have h1 : (c == 46) = false := by simpa using h
  rw [h1]
  have h2 : (⟨#[c]⟩ : Str) ≠ ofString "." := by
   intro e
   have e2 := congrArg (fun s : Str => s.cps.getD 0 0) e
   exact h e2
  simpa using h2
theorem zgo : ∀ {vals : List (Option Int)} {vs : List Value}, vals.all Option.isSome = true → All2 Sc vs (vals.map zbh) → IntsAre vs (vals.filterMap id)
 | [], vs, _, h => by cases h; exact .nil
 | none :: r, vs, ha, h => by simp at ha
 | some i :: r, vs, ha, h => by
  rw [Zi] at h
  cases h with
  | cons a t =>
   obtain ⟨u, rfl⟩ := Sc.int a
   rw [List.all_cons] at ha
   exact .cons _ _ (zgo (by simpa using ha) t)
theorem nvals {vals : List (Option Int)} : ((vals.map zbh).any Scal.isNone) = !(vals.all Option.isSome) := by
 induction vals with
 | nil => rfl
 | cons v r ih =>
  rw [Zi, List.any_cons, List.all_cons, ih]
  cases v <;> rfl
section
theorem zjc {value slice : Expr} {x : Str} {t u : Nat} {k : Nat} {i : Int} (hi : i = k) (hk : k < x.length) (hs : x.length ≤ 1000000) (hq : Q (.str ⟨#[x.cps.getD k 0]⟩ tk) ⟨h, g, d, tk + 1, os⟩)
  (h1 : subscripted slice false (.str x t) (.int i u) = operate [.str x t, .int i u] (getItem (.str x t) (.int i u)) := by rfl) (h2 : ∀ r, letTemporaryGo value (.str x t) r = pure () := by intro _; rfl) :
  wpAny (Mo w) A (subscriptTail value slice (.str x t) (.int i u)) Q E ⟨h, g, d, tk, os⟩ := by
 subst hi
 refine item_str ?_ (by exact om438) (by exact om439 hk) (fun j => ?_) h1 h2
 ·unfold fitsSsize
  simp
  exact om440 hk hs
 ·have : Txt.item x k = ⟨#[x.cps.getD k 0]⟩ := by
   have hi : seqIndex? k x.length = some k := by
    unfold seqIndex?
    simp
    omega
   unfold Txt.item Txt.charAt
   rw [hi]
   show (⟨#[(x.cps[k]?).getD 0]⟩ : Str) = _
   rw [Array.getD_eq_getD_getElem?]
  rw [this]; exact hq
theorem o_sliceS {value slice : Expr} {x : Str} {t uj sl : Nat} {j : Int} (hsl : h.IsSliceOf sl .none (.int j uj) .none) (hs : x.length ≤ sizeLine) (hq : ∀ t' tk', Q (.str (Txt.slice x none (some j)) t') ⟨h, g, d, tk', os⟩)
  (h1 : ∃ ops, subscripted slice false (.str x t) (.ref sl) = operate ops (getItem (.str x t) (.ref sl)) := by exact ⟨_, rfl⟩) (h2 : ∀ r, letTemporaryGo value (.str x t) r = pure () := by intro _; rfl) :
  wpAny (Mo w) A (subscriptTail value slice (.str x t) (.ref sl)) Q E ⟨h, g, d, tk, os⟩ :=
 tail_of_ItemOn ⟨"str", _, F.slot_str_getitem.lookup, typeIs_str _ _ _, wpAny_getItem_str_slice (l := none) (u := some (j, uj)) (st := none) hsl rfl (post_val_or_str ⟨zT (Txt.slice_le x _ _) hs, fun t' k => hq t' k⟩)⟩ h1.choose_spec h2
theorem ze8 {x : Str} {v : Value} {c : Nat} {oc : Obj} (S : St uu ww X vv L l ro rw tl h) (hm : (c, oc) ∈ ro) (hd : oc.data = .cell (some v)) (hq : Q v ⟨h, g, d, tk, os⟩)
  (hk : env.scope.kind = .function := by rfl) (hl : env.kindOf x = some .cell := by rfl) (hc : env.cells.lookup x = some c := by rfl) (hdb : (x == ("__debug__" : Str)) = false := by rfl) :
  wpAny (Mo w) A (eval (.Name x pos) env) Q E ⟨h, g, d, tk, os⟩ :=
 wpAny_Name (wpAny_loadName_cell hk hl hc ⟨_, (S.hro _ hm).1, hd⟩ hq) hdb
end
theorem zha {vals : List (Option Int)} {b : Str} (hvb : ∀ i, some i ∈ vals → i.natAbs < 10 ^ 8) : ∀ k ∈ (vals.filterMap id ++ if b.length = 0 then [] else [42]).take 3, k.natAbs < 10 ^ 9 := by
 intro k hk
 rcases zD (List.mem_of_mem_take hk) with hm | hm
 ·obtain ⟨o, ho, e⟩ := List.mem_filterMap.mp hm
  have e' : o = some k := e
  subst e'
  exact om429 (hvb k ho)
 ·split at hm
  ·cases hm
  ·rw [zS hm]; decide
theorem zhf {ks : List Int} (h : ∀ k ∈ ks, k.natAbs < 10 ^ 9) : ∀ y ∈ ks.map zag, y.length ≤ 20 := by
 intro y hy
 obtain ⟨k, hk, rfl⟩ := List.mem_map.mp hy
 have : (zag k).length ≤ 10 := by
  unfold zag
  rw [PySem.ofString_length]
  exact int_text_length_le10 (k := 9) (by decide) (h k hk)
 exact om142 this
section
inductive NrB (h : Heap) (g : Array GenState) (d : Drawn) (os : OsState) (p : Bool → Prop) (b : Bool) : SP where
 | mk {tk'} : p b → NrB h g d os p b ⟨h, g, d, tk', os⟩
inductive NrL (uu h : Heap) (vv : List Env) (L : Nat) (l : LS) (ro : LO) (g : Array GenState) (d : Drawn) (os : OsState) (f : Nat → List Value) : VP where
 | mk {ab t h' tk'} : St uu h [] vv L l ro [(ab, zaa (f t))] [] h' → NrL uu h vv L l ro g d os f (.ref ab) ⟨h', g, d, tk', os⟩
set_option tactic.hygienic true in
theorem c_normed {x b : Str} {t1 t2 aV nV : Nat} {vV : List Value} {vals : List (Option Int)} {Q : VP} (G : Gd w uu) (W : Wd uu vv h) (P : Rm A vv 20)
  (hV : h.get? aV = some (zaa vV nV)) (hVF : aV ∉ zab vv) (hVT : ¬ za9 aV) (hvs : All2 Sc vV (vals.map zbh)) (hvl : vals.length ≤ 20) (hvb : ∀ i, some i ∈ vals → i.natAbs < 10 ^ 8)
  (hasc : ∀ c ∈ x.cps.toList, c ≠ 0 ∧ c < 128) (hlen : x.length ≤ 640) (hb : b.length ≤ 10)
  (hq : ∀ (t : Nat) h' tk', Ret uu vv h h' → Q (.str (za2 x vals b) t) ⟨h', g, d, tk', os⟩) :
  wpAny (Mo w) A (call (.ref 277) [.str x t1, .ref aV, .str b t2]) Q E ⟨h, g, d, tk, os⟩ := by
 refine callCell (n0 := ofString "text") (n1 := ofString "values") (n2 := ofString "build") G W P (G.get W.inv (a := 277) rfl) rfl rfl rfl rfl ⟨_, _, _, _, rfl, G.get W.inv (a := 276) rfl, rfl, rfl⟩ rfl rfl rfl (by decide) rfl rfl rfl (zP ⟨rfl, rfl⟩) ?_
 intro L c oc h₁ tk₁ hoc S0 R
 have S := S0.entry hV hVF List.not_mem_nil hVT (fun q hq => nomatch hq)
 clear S0
 have sz : sizeLine = 16777216 := rfl
 have lV := hvs.length
 rw [List.length_map] at lV
 refine x_if (zM (Q := NrB h₁ g d os (fun bb => bb = true ↔ (vals.all Option.isSome = true ∧ b ≠ ofString "x"))) (E := fun y y => False) ?_ ?_ (fun y y z => z.elim))
 ·walk_at "All"
  refine zh9 R.u9 (S.hro _ (.head _)).1 hvs (by intro s hs; obtain ⟨v, _, rfl⟩ := List.mem_map.mp hs; cases v <;> trivial) ?_
  rw [nvals]
  walk_at "All"
  by_cases ha : vals.all Option.isSome = true
  ·rw [zH (by simp [ha])]
   walk_at "All"
   by_cases hx : b = ofString "x"
   ·rw [zG (by simp [hx])]
    exact .mk (by simp [hx])
   ·rw [zH (by simpa using hx)]
    walk_at "All"
    exact .mk (by simp [ha, hx])
  ·rw [zG (by simpa using ha)]
   exact .mk (by simp [ha])
 rintro bb s₂ ⟨hbb⟩
 rename_i tk2
 cases bb with
 | true =>
  refine iteT ?_
  have hc := hbb.mp rfl
  have hn : za2 x vals b = Txt.join dotS (((vals.filterMap id ++ if b.length = 0 then [] else [42]).take 3).map zag) := by unfold za2; rw [if_pos hc]
  refine zjx ?_
  with_reducible refine zeb (x := ofString "") (t := 0) ?_ F.slot_str_join F.type_str_join ?za ?zb ?zc
  case za => walk_at "ab"
  case zb => rfl
  case zc => rfl
  walk_at "All"
  refine ⟨_, _, rfl, ?_⟩
  walk_at "All"
  refine e_comp (cl := []) ?_ rfl rfl (by decide)
  refine Subscript_ (wpAny_BinOp ?_)
  refine zij S (by walk_at "lk") ?_
  refine zM (Q := NrL uu h vv L [(ofString "build", .str b t2), (ofString "values", .ref aV)] [(aV, zaa vV nV), (c, oc)] g d os (fun t => if b.length = 0 then [] else [.int 42 t])) (E := fun y y => False) ?_ ?_ (fun y y z => z)
  ·walk_at "All"
   refine wpAny_isTrue_value ?_
   walk_at "All"
   refine zbr (by exact om422 hb) ?_
   by_cases hb0 : b.length = 0
   ·rw [zG (by simp [hb0])]
    walk_at "All"
    exact .mk (t := 0) (by rw [zH hb0]; assumption)
   ·rw [zH (by simp [hb0])]
    walk_at "All"
    exact NrL.mk (by rw [zG hb0]; assumption)
  rintro _ _ ⟨S3⟩
  rename_i ab t h3 tk3
  have HI : IntsAre (vV ++ if b.length = 0 then [] else [.int 42 t]) (vals.filterMap id ++ if b.length = 0 then [] else [42]) := by
   refine (zgo hc.1 hvs).append ?_
   split
   ·exact .nil
   ·exact .cons _ _ .nil
  have lL : (if b.length = 0 then [] else [Value.int 42 t]).length ≤ 1 := by split <;> exact blT rfl
  have hkb := zha (b := b) hvb
  have l3 : ((vals.filterMap id ++ if b.length = 0 then [] else [42]).take 3).length ≤ 3 := by rw [List.length_take]; exact om431
  have HI3 := HI.take 3
  clear HI
  generalize (if b.length = 0 then ([] : List Value) else [Value.int 42 t]) = L0 at S3 HI3 lL
  generalize (vals.filterMap id ++ if b.length = 0 then [] else [42]).take 3 = ks at hn HI3 hkb l3
  have lsz : vV.length + L0.length ≤ sizeLine := zT (zJ (zT (zW lV) hvl) lL) (blT rfl)
  have e3 := zf3 HI3
  walk_at "All"
  refine zmx (by with_reducible assumption) (by walk_at "either") (by walk_at "either") lsz ?_
  intro ac h4 S4
  walk_at "All"
  refine zja (by with_reducible assumption) (by walk_at "either") (by assumption) .none (.int _ _) (by rw [zY]; exact lsz) (zd1 _) ?_
  intro as h5 S5
  refine zea (by with_reducible assumption) (.inl (.head _)) ?_
  intro it h6 io hio hne hnew S6
  obtain ⟨oL, _, _, hoL, _⟩ := id S6.ns
  refine zmy (its := [(it, io)]) hoL (zjk (.tail _ (.head _)) List.not_mem_nil) R.handled (by rw [e3]; exact zT l3 (blT rfl)) (fun i vs => StrsAre vs ((ks.take i).map zag) ∧ vs.length ≤ i) (fun y y hp => hp.2) S6 ⟨.nil, Ze _⟩ ⟨_, rfl, hio⟩ (by decide) rfl ?_ ?_
  ·rintro C acc i v new vs m l its h7 tk7 hi ⟨rfl, hv⟩ ⟨hvs', hvl'⟩ S7
   obtain ⟨k, tn, hk, rfl⟩ := zie HI3 hv
   have hst : ((ks.take (i + 1)).map zag) = ((ks.take i).map zag) ++ [zag k] := by
    rw [List.take_add_one, hk]; simp
   rw [hst]
   walk_at "All"
   refine zb4 ?_
   walk_at "All"
   rename_i h8 S8
   refine zdr R.handled G S8.inv (hkb k (zR hk)) ?_
   exact CpE.mk ⟨zbe hvs' _ _, by simp; exact om50 hvl'⟩ S8
  ·rintro acc vs m h7 tk7 ⟨hvs', hvl'⟩ hacc S7
   walk_at "All"
   rw [e3, List.take_length] at hvs'
   have := zdx (zhf hkb)
   rw [List.length_map] at this
   refine join_listW (S7.isList (.inr (.head _))) hvs' (by decide) (by rw [List.length_map]; exact om442 l3 this) ?_
   intro t' k
   have := hq t' _ k S7.ret
   rw [hn] at this
   exact this
 | false =>
  refine iteF ?_
  have hc : ¬ (vals.all Option.isSome = true ∧ b ≠ ofString "x") := fun z => by have := hbb.mpr z; cases this
  walk_at "All"
  refine zgm (cl := [(ofString "text", c)]) rfl ?_ rfl rfl (by decide)
  walk_at "All"
  refine ze8 S (.tail _ (.head _)) hoc ?_
  walk_at "All"
  refine zb9 (by exact om445 hlen) ?_
  walk_at "All"
  refine n_range1 S (by exact om23) (by exact om446 hlen) ?_
  intro it h2 io tk3 hio S2
  obtain ⟨oL, _, _, hoL, _⟩ := id S2.ns
  refine zjq (its := [(it, io)]) (rw := []) hoL (itr_rng List.not_mem_nil) R.handled (by exact om447 hlen) (fun i vs => IntsAre vs ((((List.range x.length).take i).filter fun k => x.cps.getD k 0 == 46).map (fun k : Nat => (k : Int))) ∧ vs.length ≤ i) (fun y y hp => hp.2) S2 ⟨.nil, Ze _⟩ ⟨_, rfl, hio⟩ (by decide) rfl ?_ ?_
  ·rintro C acc i v new vs m l its h3 tk3 hi ⟨rfl, t, rfl⟩ ⟨hvs', hvl'⟩ S3
   have hi' : i < x.length := by exact om448 hi
   have ek : (0 : Int) + 1 * (i : Int) = i := by exact om449
   rw [ek]
   have hst : ((List.range x.length).take (i + 1)).filter (fun k => x.cps.getD k 0 == 46) = ((List.range x.length).take i).filter (fun k => x.cps.getD k 0 == 46) ++ (if (x.cps.getD i 0 == 46) = true then [i] else []) := by
    rw [List.take_add_one, List.filter_append]
    congr 1
    have : (List.range x.length)[i]? = some i := by rw [List.getElem?_range hi']
    rw [this]
    by_cases z : (x.cps.getD i 0 == 46) = true
    ·rw [zH z]; simp only [Option.toList_some, List.filter_cons, z, if_true, List.filter_nil]
    ·rw [zG z]; simp only [Option.toList_some, List.filter_cons, z, List.filter_nil]; rfl
   rw [hst, List.map_append]
   walk_at "All"
   refine wpAny_tests_one ?_
   walk_at "All"
   rename_i h4 S4
   refine ze8 S4 (by walk_at "mem") hoc ?_
   walk_at "All"
   refine zjc rfl hi' (by exact om450 hlen) ?_
   walk_at "All"
   have ed : ((⟨#[x.cps.getD i 0]⟩ : Str) == ofString ".") = (x.cps.getD i 0 == 46) := dot_eq _
   rw [ed]
   by_cases z : (x.cps.getD i 0 == 46) = true
   ·rw [zH z]
    refine CpB.yes z ?_
    walk_at "All"
    exact CpE.mk ⟨hvs'.append (.cons _ _ .nil), by simp; exact om50 hvl'⟩ S4
   ·rw [zG z]
    refine CpB.no z ?_
    exact CpE.mk ⟨by simpa using hvs', by exact zlh hvl'⟩ S4
  ·rintro acc vs m h3 tk4 ⟨hvs', hvl'⟩ hacc S3
   have ex : (List.range x.length).take (x.length : Int).toNat = List.range x.length := by
    apply Zh; simp
   rw [ex] at hvs'
   have hvs2 : IntsAre vs ((zbi x).map fun k : Nat => (k : Int)) := hvs'
   have ld := zf3 hvs2
   rw [List.length_map] at ld
   have ldm : (zbi x).length ≤ x.length := by
    unfold zbi
    refine zT (List.length_filter_le _ _) ?_
    simp
   refine x_if ?_
   walk_at "All"
   refine zdf S3 (.inr (.head _)) (by exact om451 hlen ld ldm) ?_
   walk_at "All"
   by_cases h2 : 2 < (zbi x).length
   ·rw [zH (by simp; exact om452 ld h2)]
    have hn : za2 x vals b = Txt.slice x none (some (((zbi x).getD 2 0 : Nat) : Int)) := by unfold za2; rw [if_neg hc, if_pos h2]
    obtain ⟨tj, hvj⟩ : ∃ tj, vs[2]? = some (.int (((zbi x).getD 2 0 : Nat) : Int) tj) := by
     refine zdu hvs2 ?_
     rw [List.getElem?_map, List.getD_eq_getElem?_getD, zI h2]; rfl
    walk_at "All"
    refine ze8 S3 (.tail _ (.head _)) hoc ?_
    walk_at "All"
    refine zjd S3 (.inr (.head _)) (.inl rfl) (j := 2) hvj (by exact om453 hlen ld ldm) ?_
    walk_at "All"
    refine o_sliceS (by assumption) (by exact om454 hlen) ?_
    intro t' tk'
    rename_i S9
    have := hq t' _ tk' S9.ret
    rw [hn] at this
    exact this
   ·rw [zG (by simp; exact om455 ld h2)]
    have hn2 : za2 x vals b = if b.length ≠ 0 ∧ (zbi x).length = 1 then (x ++ dotS) ++ b else x := by unfold za2; rw [if_neg hc, if_neg h2]
    walk_at "All"
    refine wpAny_isTrue_value ?_
    walk_at "All"
    refine zbr (by exact om422 hb) ?_
    by_cases hb0 : b.length = 0
    ·rw [zG (by simp [hb0])]
     rw [zG (by simp [hb0])] at hn2
     walk_at "All"
     refine ze8 S3 (.tail _ (.head _)) hoc ?_
     have := hq t1 _ (tk4 + 1 + 1 + 1 + 1 + 1) S3.ret
     rw [hn2] at this
     exact this
    ·rw [zH (by simp [hb0])]
     walk_at "All"
     refine zdf S3 (.inr (.head _)) (by exact om456 ld h2) ?_
     walk_at "All"
     by_cases h1 : (zbi x).length = 1
     ·rw [zH ⟨hb0, h1⟩] at hn2
      rw [zH (by simp; exact om457 ld h1)]
      walk_at "All"
      refine ze8 S3 (.tail _ (.head _)) hoc ?_
      walk_at "All"
      have lD : (ofString ".").length = 1 := rfl
      refine zc3 ?_ (by exact om458 hlen)
      intro _ _
      walk_at "All"
      refine zc3 ?_ (by rw [Str.length_append]; exact om459 hlen hb)
      intro t' tk'
      have := hq t' _ tk' S3.ret
      rw [hn2] at this
      exact this
     ·rw [zG (fun z => h1 z.2)] at hn2
      rw [zG (by simp; exact om460 ld h1)]
      walk_at "All"
      refine ze8 S3 (.tail _ (.head _)) hoc ?_
      have key : ∀ tk', Q (.str x t1) ⟨h3, g, d, tk', os⟩ := fun tk' => by
       have := hq t1 _ tk' S3.ret
       rw [hn2] at this
       exact this
      exact key _
end
section
theorem ce_cmp {M : Model} {s : Shared} {a b : Expr} {op : CmpOp} (h : wpC M A (eval a env) (fun va s₁ => wpC M A (eval b env) (fun vb s₂ => wpC M A (compareOp op va vb) Q E s₂) E s₁) E s)
  (hm : behindInMarks op b = false := by with_unfolding_all rfl) : wpC M A (eval (.Compare a [op] [b] pos) env) Q E s := by
 have e : markedEach [op] [b] (evalEach [b] env) = [eval b env] := by
  show [markedBehindIn op b (eval b env)] = _
  unfold markedBehindIn
  rw [hm]
 show wpC M A (do compareChain pos (← eval a env) [op] (markedEach [op] [b] (evalEach [b] env))) Q E s
 rw [e]
 refine zw (h.mono (fun va s₁ q => ?_) fun j j z => z)
 refine zw (wpC.holding (q.mono (fun vb s₂ q => ?_) fun j j z => z))
 exact zw (zy (wpAny_standAt (wpC.operate q)))
end
section
theorem St.argR {env : Env} (S : St uu ww X vv L l ro rw tl h) {a : Nat} {o : Obj} (hm : (a, o) ∈ ro) (hL : env.frame = some L) : h.get? a = some o ∧ a ∉ zab (env :: vv) ∧ ¬ za9 a := by
 obtain ⟨a1, a2, a3, a4⟩ := S.hro _ hm
 refine ⟨a1, fun z => ?_, a4⟩
 have eF : zab (env :: vv) = L :: zab vv := by unfold zab; rw [List.filterMap_cons, hL]
 rw [eF] at z
 rcases zC z with z | z
 ·exact a2 z
 ·exact a3 z
end
structure Cx (w : World) (A : Around) (F : Fx) (env : Env) (n : Nat) : Prop where
 G : Gd w F.uu
 P : Rm A (env :: F.vv) n
 fr : env.frame = some F.L
 md : env.scope.kind ≠ .module
@[reducible] noncomputable def Fx.sg (F : Fx) (g : Array GenState) : Fx := { F with g := g }
noncomputable abbrev LC := Nat → Array GenState → LS → LO → LT → Prop
@[reducible] def KIfC (M : Model) (A : Around) (E : VP) (env : Env) (body orelse : List Stmt) (Q : Flow → SP) (b : Bool) : SP := Br (wpC M A (execs body env) Q E) (wpC M A (execs orelse env) Q E) b
def KCallC (M : Model) (A : Around) (E : VP) (env : Env) (pos : Pos) (args : List Expr) (Q : VP) (f : Value) (s : Shared) : Prop := wpC M A (callWith pos f [] (backTo pos (starEach args env)) []) Q E s
def KOwn (w : World) (A : Around) (E : VP) (f : Nat) (Q : VP) (vs : List Value) (s : Shared) : Prop := (KS w).In s.heap ∧ wpAny (Mo w) A (call (.ref f) vs) Q E s
def KOwnC (w : World) (A : Around) (E : VP) (f : Nat) (Q : VP) (vs : List Value) (s : Shared) : Prop := (KS w).In s.heap ∧ wpC (Mo w) A (call (.ref f) vs) Q E s
def KCmpC (M : Model) (A : Around) (E : VP) (env : Env) (op : CmpOp) (r : Expr) (Q : Bool → SP) (a : Value) (s : Shared) : Prop := wpC M A (eval r env) (fun b s₂ => wpC M A (compareOp op a b) (fun c s₃ => wpC M A (truthy c) Q E s₃) E s₂) E s
def KTruC (M : Model) (A : Around) (E : VP) (Q : Bool → SP) (c : Value) (s : Shared) : Prop := wpC M A (truthy c) Q E s
def KForC (w : World) (A : Around) (E : VP) (env : Env) (target : Expr) (body rest : List Stmt) (Q : Flow → SP) (x : Value) (s : Shared) : Prop := wpAny (Mo w) A (pyIter x) (fun it s₂ => codeC (Mo w) A (.forLoop target it body [] env) (FlO (Mo w) A E env rest Q) s₂) E s
@[reducible] def KBodyC (M : Model) (A : Around) (env : Env) (body : List Stmt) (Q : Flow → SP) (u : Unit) : SP := wpC M A (execs body env) Q (fun _ _ => False)
def FlG (F : Fx) (ro : LO) (p : Nat × Obj) (C : LC) (i : Nat) (B : SP) (Q : Flow → SP) (f : Flow) (s : Shared) : Prop := match f with
 | .next | .cont => LpS F.uu F.ww F.X F.vv F.L ro F.d F.os (C (i + 1)) p s
 | .brk => B s
 | .ret v => Q (.ret v) s
section
variable {F : Fx} {M : Model} {P P' : SP}
variable {pos' : Pos} {kk : Nat} {R : Flow → SP} {B : Bool → SP} {U : Unit → SP} {body rest orelse : List Stmt} {st : Stmt} {f : Nat} {args : List Expr} {n : Nat}
theorem Cx.sg {g : Array GenState} (C : Cx w A F env n) : Cx w A (F.sg g) env n := ⟨C.G, C.P, C.fr, C.md⟩
theorem At.cany (k : At F l ro rw tl tk (wpAny M A (execs [st] env) (FlC M A E env rest R) E)) : At F l ro rw tl tk (wpC M A (execs (st :: rest) env) R E) := .mk fun h S => zbu (k.go h S)
theorem At.flc (k : At F l ro rw tl tk (wpC M A (execs rest env) R E)) : At F l ro rw tl tk (FlC M A E env rest R .next) := k
theorem At.cnil (k : At F l ro rw tl tk (R .next)) : At F l ro rw tl tk (wpC M A (execs [] env) R E) := .mk fun h S => za6 (k.go h S)
theorem At.toC {α : Type} {t : Sem α} {Q : α → SP} (k : At F l ro rw tl tk (wpAny M A t Q E)) : At F l ro rw tl tk (wpC M A t Q E) := .mk fun h S => zy (k.go h S)
theorem At.cif {test : Expr} (k : At F l ro rw tl tk (wpC M A (PySem.isTrue test env (eval test env)) (KIfC M A E env body orelse (FlC M A E env rest R)) E)) : At F l ro rw tl tk (wpC M A (execs (.If test body orelse pos :: rest) env) R E) :=
 .mk fun h S => zhp (k.go h S)
theorem At.cret {e : Expr} (k : At F l ro rw tl tk (wpC M A (eval e env) (KRet R) E)) : At F l ro rw tl tk (wpC M A (execs (.Return (some e) pos :: rest) env) R E) := .mk fun h S => zdo (k.go h S)
theorem At.callNC {id : Str} {p : Pos} (k : At F l ro rw tl tk (wpAny M A (eval (.Name id p) env) (KCallC M A E env pos args Q) E)) : At F l ro rw tl tk (wpC M A (eval (.Call (.Name id p) args [] pos) env) Q E) := .mk fun h S => zbc (k.go h S)
theorem At.kcallOC (hk : keepIn (KS w) (.ref f) = true) (k : At F l ro rw tl tk (wpAny (Mo w) A (spliced (backTo pos (starEach args env))) (KOwnC w A E f Q) E)) (hp : (backTo pos (starEach args env)).any (·.1) = false) : At F l ro rw tl tk (KCallC (Mo w) A E env pos args Q (.ref f)) := .mk fun h S => zim hk (k.go h S) hp
theorem At.kcallO (hk : keepIn (KS w) (.ref f) = true) (k : At F l ro rw tl tk (wpAny (Mo w) A (spliced (backTo pos (starEach args env))) (KOwn w A E f Q) E)) (hp : (backTo pos (starEach args env)).any (·.1) = false) : At F l ro rw tl tk (zix (Mo w) A E env pos args Q (.ref f)) := .mk fun h S => zeh hk (k.go h S) hp
theorem At.kown {vs : List Value} (G : Gd w F.uu) (k : At F l ro rw tl tk (wpAny (Mo w) A (call (.ref f) vs) Q E)) : At F l ro rw tl tk (KOwn w A E f Q vs) := .mk fun h S => ⟨G.ks S.inv, k.go h S⟩
theorem At.kownC {vs : List Value} (G : Gd w F.uu) (k : At F l ro rw tl tk (wpC (Mo w) A (call (.ref f) vs) Q E)) : At F l ro rw tl tk (KOwnC w A E f Q vs) := .mk fun h S => ⟨G.ks S.inv, k.go h S⟩
theorem At.ccmp {a r : Expr} {op : CmpOp} {whole : Sem Value} (k : At F l ro rw tl tk (wpC M A (eval a env) (KCmpC M A E env op r B) E)) (hm : behindInMarks op r = false) : At F l ro rw tl tk (wpC M A (PySem.isTrue (.Compare a [op] [r] pos) env whole) B E) := .mk fun h S => ct_cmp (k.go h S) hm
theorem At.ktruC {c : Bool} (k : At F l ro rw tl tk (B c)) : At F l ro rw tl tk (KTruC M A E B (.bool c)) := .mk fun h S => zy (wpAny_truthy_bool (k.go h S))
theorem At.cforL {target iter : Expr} (k : At F l ro rw tl tk (wpAny (Mo w) A (eval iter env) (KForC w A E env target body rest R) E)) (hs : ∀ x, foldedSetIterable iter env x = pure x := by intro _; rfl) : At F l ro rw tl tk (wpC (Mo w) A (execs (.For target iter body [] pos :: rest) env) R E) := .mk fun h S => zms (k.go h S) hs
theorem At.kforCT {target : Expr} {a : Nat} {vs : List Value} (hh : A.handled = none) (C : LC) (hX : ∀ x, x ∉ F.X) (hm : (a, zac vs) ∈ ro) (h0 : C 0 F.g l rw tl)
  (turn : ∀ i v g l rw tl tk p, vs[i]? = some v → C i g l rw tl → At (F.sg g) l ro (p :: rw) tl tk (wpAny (Mo w) A (assign target env v) (KBodyC (Mo w) A env body (FlG F ro p C i (wpC (Mo w) A (execs rest env) R E) R)) (fun j j => False)))
  (stop : ∀ g l rw tl tk, C vs.length g l rw tl → At (F.sg g) l ro rw tl tk (wpC (Mo w) A (execs rest env) R E)) : At F l ro rw tl tk (KForC w A E env target body rest R (.ref a)) :=
 .mk fun h S => zlw S hm fun it h' io hio S' => zf6 (zkx (a := a)) hh C (hX it) (fun j j j j S => (S.hro _ hm).1) hio S' h0
  (fun i v g l rw tl h tk io j hv c S => zM ((turn i v g l rw tl tk (it, io) hv c).go h S) (fun j s q => q.mono (fun f s₃ q => by cases f <;> exact q) fun j j z => z) fun j j z => z) fun g l rw tl h tk c S => (stop g l rw tl tk c).go h S
theorem At.endG {g : Array GenState} {C : LC} {i : Nat} {Z : SP} {p : Nat × Obj} (h : C (i + 1) g l rw tl) : At (F.sg g) l ro (p :: rw) tl tk (FlG F ro p C i Z R .next) := .mk fun h' S => .mk h S
theorem At.joinL {a m t : Nat} {vs : List Value} {ys : List Str} {e : Str} (hm : (a, zaa vs m) ∈ ro ∨ (a, zaa vs m) ∈ rw) (hv : StrsAre vs ys) (he : e.length ≤ 16) (hs : (ys.map (·.length)).sum + ys.length ≤ 1048576) (k : ∀ t' tk', At F l ro rw tl tk' (Q (.str (Txt.join e ys) t'))) : At F l ro rw tl tk (wpAny (Mo w) A (call (.builtin "str.join") [.str e t, .ref a]) Q E) :=
 .mk fun h S => join_listW (S.isList hm) hv he hs fun t' tk' => (k t' tk').go h S
theorem At.itemSk {value slice : Expr} {x : Str} {t u j : Nat} {i : Int} (hi : i = j) (hj : j < x.length) (hs : x.length ≤ 1000000) (k : At F l ro rw tl (tk + 1) (Q (.str ⟨#[x.cps.getD j 0]⟩ tk)))
  (h1 : subscripted slice false (.str x t) (.int i u) = operate [.str x t, .int i u] (getItem (.str x t) (.int i u)) := by rfl) (h2 : ∀ r, letTemporaryGo value (.str x t) r = pure () := by intro _; rfl) : At F l ro rw tl tk (wpAny (Mo w) A (subscriptTail value slice (.str x t) (.int i u)) Q E) := .mk fun h S => zjc hi hj hs (k.go h S) h1 h2
theorem At.tuple2 {x y : Str} {px py : Pos} {n t : Nat} {v1 v2 : Value} (hh : A.handled = none) (hm : (t, zac [v1, v2]) ∈ ro) (k : At F ((y, v2) :: (x, v1) :: l) ro rw tl (tk + 1 + 1) (U ()))
  (hk : env.scope.kind = .function := by rfl) (hx : env.kindOf x = some .local := by rfl) (hy : env.kindOf y = some .local := by rfl) (hL : env.locals = F.L := by rfl) :
  At F l ro rw tl tk (wpAny (Mo w) A (assign (.Tuple [.Name x px, .Name y py] n pos) env (.ref t)) U E) :=
 .mk fun h S => zjw hh S (S.hro _ hm).1 fun h' S' => zcm S' (fun j S' => zcm S' (fun h' S' => k.go h' S') hk hy hL) hk hx hL
end
section
variable {F : Fx} {M : Model} {a b : Nat} {u v : Str}
theorem At.inS (k : At F l ro rw tl tk (Q (.bool !(Builtin.Str.occurrences v u 0 v.length 1).isEmpty))) : At F l ro rw tl tk (wpAny (Mo w) A (compareOp .In (.str u a) (.str v b)) Q E) := .mk fun h S => PyProof.Rows.in_str (k.go h S)
end
def KAt (w : World) (A : Around) (E : VP) (name : Str) (Q : VP) (o : Value) (s : Shared) : Prop := wpAny (Mo w) A (getAttr o name true) Q E s
def KMf (w : World) (A : Around) (E : VP) (env : Env) (pos : Pos) (args : List Expr) (Q : VP) (fx : Value × List Value) (s : Shared) : Prop := wpAny (Mo w) A (callWith pos fx.1 fx.2 (backTo pos (starEach args env)) []) Q E s
def KMc (w : World) (A : Around) (E : VP) (env : Env) (pos : Pos) (name : Str) (o : Expr) (args : List Expr) (Q : VP) (ov : Value) (s : Shared) : Prop := wpAny (Mo w) A (getMethod ov name (do return (← importBound o env).getD true)) (KMf w A E env pos args Q) E s
def KOwM (w : World) (A : Around) (E : VP) (f : Nat) (first : List Value) (Q : VP) (vs : List Value) (s : Shared) : Prop := (KS w).In s.heap ∧ wpAny (Mo w) A (call (.ref f) (first ++ vs)) Q E s
def KNt (B : Bool → SP) (c : Bool) (s : Shared) : Prop := B (!c) s
def KXp (M : Model) (A : Around) (E : VP) (env : Env) (rest : List Stmt) (R : Flow → SP) (v : Value) (s : Shared) : Prop := (∀ a, v ≠ .ref a) ∧ wpAny M A (execs rest env) R E s
@[reducible] def KTp (M : Model) (A : Around) (E : VP) (env : Env) (elts : List Expr) (k : Nat) (pos : Pos) (rest : List Stmt) (R : Flow → SP) (v : Value) : SP := wpAny M A (assign (.Tuple elts k pos) env v) (KRs M A E env rest R) E
section
variable {F : Fx} {N : Model} {n m a mk f : Nat} {P P' : SP}
variable {pos' : Pos} {R : Flow → SP} {B : Bool → SP} {U : Unit → SP} {v : Value} {first : List Value} {rest : List Stmt} {o e : Expr} {args : List Expr} {es : List DictEntry}
theorem At.attr (k : At F l ro rw tl tk (wpAny (Mo w) A (eval e env) (KAt w A E name Q) E)) (hb : attributeBase e name env (eval e env) = eval e env) : At F l ro rw tl tk (wpAny (Mo w) A (eval (.Attribute e name pos) env) Q E) := .mk fun h S => zmm (k.go h S) hb
theorem At.mcall (k : At F l ro rw tl tk (wpAny (Mo w) A (eval o env) (KMc w A E env pos name o args Q) E)) (hb : attributeBase o name env (eval o env) = eval o env)
  (hform : methodCallForm (args.length + ([] : List Keyword).length) (backTo pos (starEach args env)) (backToKw pos (keywordEach [] env)) = true) (hline : (apos.endLine == pos.line) = true) : At F l ro rw tl tk (wpAny (Mo w) A (eval (.Call (.Attribute o name apos) args [] pos) env) Q E) := .mk fun h S => zf9 (k.go h S) hb hform hline
theorem At.kmf (G : Gd w F.uu) (hk : keepIn (KS w) (.ref f) = true) (k : At F l ro rw tl tk (wpAny (Mo w) A (spliced (backTo pos (starEach args env))) (KOwM w A E f first Q) E)) (hp : (backTo pos (starEach args env)).any (·.1) = false) : At F l ro rw tl tk (KMf w A E env pos args Q (.ref f, first)) := .mk fun h S => zeh hk (k.go h S) hp
theorem At.kowm (G : Gd w F.uu) (k : At F l ro rw tl tk (wpAny (Mo w) A (call (.ref f) (first ++ vs)) Q E)) : At F l ro rw tl tk (KOwM w A E f first Q vs) := .mk fun h S => ⟨G.ks S.inv, k.go h S⟩
theorem At.xpr (k : At F l ro rw tl tk (wpAny N A (eval e env) (KXp N A E env rest R) E)) (h1 : interactive env = false) (h2 : swapsWith e none pos.line env = pure false) : At F l ro rw tl tk (wpAny N A (execs (.Expr e pos :: rest) env) R E) := .mk fun h S => ziz (k.go h S) h1 h2
theorem At.kxpN (k : At F l ro rw tl tk (wpAny N A (execs rest env) R E)) : At F l ro rw tl tk (KXp N A E env rest R .none) := .mk fun h S => ⟨(fun j z => nomatch z), k.go h S⟩
theorem At.ret0 (k : At F l ro rw tl tk (R (.ret .none))) : At F l ro rw tl tk (wpAny N A (execs (.Return none pos :: rest) env) R E) := .mk fun h S => wpAny_execs_cons (wpAny_Return_none (k.go h S))
theorem At.cont (k : At F l ro rw tl tk (R .cont)) : At F l ro rw tl tk (wpAny N A (execs (.Continue pos :: rest) env) R E) := .mk fun h S => wpAny_execs_cons (wpAny_Continue (k.go h S))
theorem At.brk (k : At F l ro rw tl tk (R .brk)) : At F l ro rw tl tk (wpAny N A (execs (.Break pos :: rest) env) R E) := .mk fun h S => wpAny_execs_cons (wpAny_Break (k.go h S))
theorem At.xtup {elts : List Expr} {c : Nat} (k : At F l ro rw tl tk (wpAny N A (eval e env) (KTp N A E env elts c pos' rest R) E)) (h1 : swapsWithSole [.Tuple elts c pos'] e pos.line env = pure false) (h2 : swappedStores [.Tuple elts c pos'] e env = pure none) : At F l ro rw tl tk (wpAny N A (execs (.Assign [.Tuple elts c pos'] e pos :: rest) env) R E) :=
 .mk fun h S => zfh (k.go h S) h1 h2
theorem At.tnot {whole : Sem Value} (k : At F l ro rw tl tk (wpAny N A (PySem.isTrue e env (eval e env)) (KNt B) E)) : At F l ro rw tl tk (wpAny N A (PySem.isTrue (.UnaryOp .Not e pos) env whole) B E) := .mk fun h S => PyProof.Rows.isTrue_not (k.go h S)
theorem At.knt {c : Bool} (k : At F l ro rw tl tk (B (!c))) : At F l ro rw tl tk (KNt B c) := k
theorem At.tval {whole : Sem Value} (k : At F l ro rw tl tk (wpAny N A whole (KTru N A E B) E)) (he : PySem.isTrue e env whole = (do let v ← whole; standAt e.pos; holding [v] (truthy v))) : At F l ro rw tl tk (wpAny N A (PySem.isTrue e env whole) B E) := .mk fun h S => PyProof.Rows.isTrue_plain (k.go h S) he
end
@[reducible] noncomputable def R3 (w : World) (M : MkS) (ax : Nat) (vs : List Value) (n t : Nat) (kv : Value) (lines : List Value) (lm : Nat) : LO := [(M.ac, zad ax vs n), (ax, iniD w t kv), (M.ln, zaa lines lm)]
@[reducible] noncomputable def O2 (w : World) (M : MkS) (mk dx : Nat) : LO := [(dx, mkD w M), (mk, instObj 144 dx)]
def KForE (w : World) (A : Around) (E : VP) (env : Env) (target : Expr) (body orelse rest : List Stmt) (Q : Flow → SP) (x : Value) (s : Shared) : Prop := wpAny (Mo w) A (pyIter x) (fun it s₂ => codeAny (Mo w) A (.forLoop target it body orelse env) (fun r s' => match r with | .ok .next => wpAny (Mo w) A (execs rest env) Q E s' | .ok f => Q f s' | .error _ => False) s₂) E s
section
variable {F : Fx} {N : Model} {n m a mk f : Nat} {P P' : SP}
variable {pos' : Pos} {R : Flow → SP} {B : Bool → SP} {U : Unit → SP} {M : MkS} {v : Value} {first : List Value} {rest : List Stmt} {o e : Expr} {args : List Expr} {es : List DictEntry}
theorem Cx.le {k : Nat} (C : Cx w A F env n) (h : k ≤ n) : Cx w A F env k := ⟨C.G, C.P.less h, C.fr, C.md⟩
theorem Fn.sg {g : Array GenState} (N : Fn env F) : Fn env (F.sg g) := ⟨N.hk, N.hL, N.hG, N.hB⟩
theorem At.kcur (G : Gd w F.uu) (x1 : (mk, instObj 144 dx) ∈ ro) (x2 : (dx, mkD w M) ∈ ro) (k : At F l ro rw tl (tk + 1) (Q (.ref M.ac))) : At F l ro rw tl tk (KAt w A E "_current_line" Q (.ref mk)) := .mk fun h S => n_cur G S x1 x2 (k.go h S)
theorem At.klines (G : Gd w F.uu) (x1 : (mk, instObj 144 dx) ∈ ro) (x2 : (dx, mkD w M) ∈ ro) (k : At F l ro rw tl (tk + 1) (Q (.ref M.ln))) : At F l ro rw tl tk (KAt w A E "_lines" Q (.ref mk)) := .mk fun h S => n_lines G S x1 x2 (k.go h S)
theorem At.kmax (G : Gd w F.uu) (x1 : (mk, instObj 144 dx) ∈ ro) (x2 : (dx, mkD w M) ∈ ro) (k : At F l ro rw tl (tk + 1) (Q (.int M.wd M.u))) : At F l ro rw tl tk (KAt w A E "_maxlen" Q (.ref mk)) := .mk fun h S => n_maxlen G S x1 x2 (k.go h S)
theorem At.kspl (G : Gd w F.uu) (x1 : (mk, instObj 144 dx) ∈ ro) (x2 : (dx, mkD w M) ∈ ro) (k : At F l ro rw tl (tk + 1) (Q (.str (ofString ".") M.spl))) : At F l ro rw tl tk (KAt w A E "_splitchars" Q (.ref mk)) := .mk fun h S => zlv G S x1 x2 (k.go h S)
theorem At.katI {t : Nat} (G : Gd w F.uu) (hx : (a, zad ax vs n) ∈ ro ∨ (a, zad ax vs n) ∈ rw) (hd : (ax, iniD w t v) ∈ ro ∨ (ax, iniD w t v) ∈ rw) (hh : handedIn v = true) (k : At F l ro rw tl (tk + 1) (Q v)) : At F l ro rw tl tk (KAt w A E "_initial_size" Q (.ref a)) := .mk fun h S => zly G S hx hd hh (k.go h S)
theorem At.kmcL (G : Gd w F.uu) (hx : (a, zad ax vs n) ∈ ro ∨ (a, zad ax vs n) ∈ rw) (hd : (ax, dictOf es m) ∈ ro ∨ (ax, dictOf es m) ∈ rw) (hf : findIn (KS w) (.ref 228) name = some (some (.ref f))) (ht : typeIn (KS w) (.ref f) = some (.type "function")) (hl : getL name es = some none)
  (k : At F l ro rw tl tk (KMf w A E env pos args Q (.ref f, [.ref a]))) : At F l ro rw tl tk (KMc w A E env pos name o args Q (.ref a)) := .mk fun h S => zib G S hx hd hf ht hl (k.go h S)
theorem At.kmcM (G : Gd w F.uu) (x1 : (mk, instObj 144 dx) ∈ ro) (x2 : (dx, mkD w M) ∈ ro) (ha : findIn (KS w) (.ref 144) name = some (some (.ref f))) (ht : typeIn (KS w) (.ref f) = some (.type "function"))
  (hl : getL name [ent w "_maxlen" (M.t 0) (.int M.wd M.u), ent w "_continuation_ws" (M.t 1) M.cws, ent w "_continuation_ws_len" (M.t 2) M.cwl, ent w "_splitchars" (M.t 3) (.str (ofString ".") M.spl), ent w "_lines" (M.t 4) (.ref M.ln), ent w "_current_line" (M.t 5) (.ref M.ac)] = some none)
  (k : At F l ro rw tl tk (KMf w A E env pos args Q (.ref f, [.ref mk]))) : At F l ro rw tl tk (KMc w A E env pos name o args Q (.ref mk)) := .mk fun h S => n_meth G S za7 (.inl x1) (.inl x2) rfl rfl rfl ha ht hl (k.go h S)
variable {q : Str × Str} {tq uq t t1 lm i : Nat} {k : Int} {kv : Value} {lines : List Value} {g' : Array GenState}
theorem nd3 {h : Heap} (S : St F.uu F.ww F.X F.vv F.L l ro (R3 w M ax vs n t kv lines lm) tl h) : M.ac ≠ ax ∧ M.ac ≠ M.ln ∧ ax ≠ M.ln := by
 have := S.nd
 simp only [List.map_cons, List.map_nil, List.nodup_cons, List.mem_cons, List.not_mem_nil, or_false, not_or, not_false_eq_true] at this
 exact ⟨this.1.1, this.1.2, this.2.1⟩
theorem zfr : ∀ p ∈ [(a, zad ax vs m)], p.2.cls ≠ .type "tuple" := by intro p hp; rw [zS hp]; exact ac_noT
theorem chg1 {h h' : Heap} {us : List Value} (C : Cx w A F env i) (S : St F.uu F.ww F.X F.vv F.L l ro (R3 w M ax vs n t kv lines lm) tl h) (r : RetX F.uu (env :: F.vv) [M.ac] h h') (ha : h'.get? M.ac = some (zad ax us m)) :
  St F.uu F.ww F.X F.vv F.L l ro (R3 w M ax us m t kv lines lm) tl h' := by
 obtain ⟨n1, n2, n3⟩ := nd3 S
 exact S.backX r C.fr (fun y hy => by rw [zS hy]; exact ⟨_, .head _⟩) (.chg ha ac_noT (.keep (by simpa using n1.symm) (.keep (by simpa using n2.symm) .nil)))
theorem At.push (C : Cx w A F env 3) (hs : ps.length ≤ 1000)
  (k : ∀ v m tk', (∃ T, v = .ref T ∧ F.ww.get? T = none) → At F l ro (R3 w M ax (vs ++ [v]) m t kv lines lm) [(vs ++ [v], (ps ++ [q]).map psc)] tk' (Q .none)) :
  At F l ro (R3 w M ax vs n t kv lines lm) [(vs, ps.map psc)] tk (wpAny (Mo w) A (call (.ref 172) [.ref M.ac, .str q.1 tq, .str q.2 uq]) Q E) := .mk fun h S => by
 refine c_push C.G (S.wd C.fr C.md) C.P (S.own (.cons_cons _ (zO _)) zfr C.fr) (Rd.of S (.inr (.tail _ (.head _))) C.fr) (fun z => (nd3 S).1 z.symm) (S.htl _ (.head _)).prs hs fun v m h2 tk2 r ha hp hf => (k v m tk2 ?_).go h2 ?_
 ·obtain ⟨T, e, hT⟩ := hf
  exact ⟨T, e, (S.fresh hT).2.2.2.2⟩
 ·exact (chg1 C S r ha).setTl noT3 (fun t ht => by rw [zS ht]; exact hp.tps)
theorem At.pop (C : Cx w A F env 4) (hs : ps.length ≤ 1000) {ps' : List (Str × Str)} (hq : zap ps = q) (hd : ps.dropLast = ps')
  (k : ∀ T t' u us m tk', us.length = ps'.length → At F l ((T, zac [.str q.1 t', .str q.2 u]) :: ro) (R3 w M ax us m t kv lines lm) [(us, ps'.map psc)] tk' (Q (.ref T))) :
  At F l ro (R3 w M ax vs n t kv lines lm) [(vs, ps.map psc)] tk (wpAny (Mo w) A (call (.ref 188) [.ref M.ac]) Q E) := .mk fun h S => by
 subst hq; subst hd
 refine c_pop C.G (S.wd C.fr C.md) C.P (S.own (.cons_cons _ (zO _)) zfr C.fr) (Rd.of S (.inr (.tail _ (.head _))) C.fr) (fun z => (nd3 S).1 z.symm) (S.htl _ (.head _)).prs hs fun T t' u us m h2 tk2 r ha hp hT => (k T t' u us m tk2 hp.length).go h2 ?_
 exact ((chg1 C S r ha).setTl noT3 (fun t ht => by rw [zS ht]; exact hp.tps)).addTup noT3 hT
theorem At.lenAc (C : Cx w A F env 4) (hB : AllBare F.g) (hs : zb5 ps) (hk : 0 ≤ k ∧ k ≤ 1000)
  (q : ∀ t' g' tk', AllBare g' → At (F.sg g') l ro (R3 w M ax vs n t (.int k t1) lines lm) [(vs, ps.map psc)] tk' (Q (.int (k + plens ps) t'))) :
  At F l ro (R3 w M ax vs n t (.int k t1) lines lm) [(vs, ps.map psc)] tk (wpAny (Mo w) A (call (.builtin "len") [.ref M.ac]) Q E) := .mk fun h S =>
 o_lenAc C.G (S.wd C.fr C.md) C.P hB (Rd.of S (.inr (.head _)) C.fr) (Rd.of S (.inr (.tail _ (.head _))) C.fr) (S.htl _ (.head _)).prs hs hk fun t' h' g' tk' r b => (q t' g' tk' b).go h' (S.back0 r C.fr)
theorem At.strAc (C : Cx w A F env 5) (hB : AllBare F.g) (hs : zb5 ps) (hm : (vs, ps.map psc) ∈ tl)
  (q : ∀ t' g' tk', AllBare g' → At (F.sg g') l ro (R3 w M ax vs n t kv lines lm) tl tk' (Q (.str (zar ps) t'))) :
  At F l ro (R3 w M ax vs n t kv lines lm) tl tk (wpAny (Mo w) A (call (.type "str") [.ref M.ac]) Q E) := .mk fun h S =>
 zlj C.G (S.wd C.fr C.md) C.P hB (Rd.of S (.inr (.head _)) C.fr) (Rd.of S (.inr (.tail _ (.head _))) C.fr) (S.htl _ hm).prs hs fun t' h' g' tk' r b => (q t' g' tk' b).go h' (S.back0 r C.fr)
theorem At.count {od : Obj} (C : Cx w A F env 3) (hx : (a, zad ax vs n) ∈ ro ∨ (a, zad ax vs n) ∈ rw) (hd : (ax, od) ∈ ro ∨ (ax, od) ∈ rw)
  (q : ∀ t' tk', At F l ro rw tl tk' (Q (.int vs.length t'))) : At F l ro rw tl tk (wpAny (Mo w) A (call (.ref 225) [.ref a]) Q E) := .mk fun h S =>
 zio C.G (S.wd C.fr C.md) C.P (Rd.of S hx C.fr) (Rd.of S hd C.fr) fun t' h' tk' r => (q t' tk').go h' (S.back0 r C.fr)
theorem At.popFrom (C : Cx w A F env 3) (hi : i ≤ vs.length) (hs : vs.length ≤ 1000)
  (q : ∀ b m m' tk', At F l ((b, zaa (vs.drop i) m') :: ro) (R3 w M ax (vs.take i) m t kv lines lm) [(vs.take i, (ps.take i).map psc), (vs.drop i, (ps.drop i).map psc)] tk' (Q (.ref b))) :
  At F l ro (R3 w M ax vs n t kv lines lm) [(vs, ps.map psc)] tk (wpAny (Mo w) A (call (.ref 180) [.ref M.ac, .int i t1]) Q E) := .mk fun h S => by
 refine zm8 C.G (S.wd C.fr C.md) C.P (S.own (.cons_cons _ (zO _)) zfr C.fr) (Rd.of S (.inr (.tail _ (.head _))) C.fr) (fun z => (nd3 S).1 z.symm) hi hs fun b m m' h' tk' r hb hbb ha => (q b m m' tk').go h' ?_
 have S1 := chg1 C S r ha
 have hp := (S1.htl _ (.head _)).prs
 have S2 := S.addNew S1 hb hbb (by
  intro q hq
  simp only [List.mem_cons, List.not_mem_nil, or_false] at hq
  rcases hq with rfl | rfl | rfl
  ·exact ⟨_, .head _⟩
  ·exact ⟨_, .tail _ (.head _)⟩
  ·exact ⟨_, .tail _ (.tail _ (.head _))⟩)
 refine S2.setTl noT3 (fun t ht => ?_)
 simp only [List.mem_cons, List.not_mem_nil, or_false] at ht
 rcases ht with rfl | rfl
 ·exact Prs.tps (All2.take hp i)
 ·exact Prs.tps (All2.drop hp i)
theorem At.reset1 {b mb : Nat} {us : List Value} (C : Cx w A F env 3) (hb : (b, zaa us mb) ∈ ro) (hs : vs.length ≤ 1000) (hs2 : us.length ≤ 1000)
  (q : ∀ m u tk', At F l ro (R3 w M ax us m t (.int 0 u) lines lm) tl tk' (Q .none)) :
  At F l ro (R3 w M ax vs n t kv lines lm) tl tk (wpAny (Mo w) A (call (.ref 210) [.ref M.ac, .ref b]) Q E) := .mk fun h S => by
 obtain ⟨n1, n2, n3⟩ := nd3 S
 refine c_reset1 C.G (S.wd C.fr C.md) C.P (S.own (p := [(M.ac, zad ax vs n), (ax, iniD w t kv)]) (.cons_cons _ (.cons_cons _ (zO _))) (fun q hq => ?_) C.fr) (Rd.of S (.inl hb) C.fr) hs hs2 fun m u h' tk' r ha hx => (q m u tk').go h' ?_
 ·simp only [List.mem_cons, List.not_mem_nil, or_false] at hq
  rcases hq with rfl | rfl
  ·exact ac_noT
  ·exact zcb
 ·refine S.backX r C.fr (fun y hy => ?_) (.chg ha ac_noT (.chg hx zcb (.keep (by simpa using ⟨n2.symm, n3.symm⟩) .nil)))
  simp only [List.mem_cons, List.not_mem_nil, or_false] at hy
  rcases hy with rfl | rfl
  ·exact ⟨_, .head _⟩
  ·exact ⟨_, .tail _ (.head _)⟩
theorem At.itemAc {value slice : Expr} {j : Int} {c : Nat} {od : Obj} (G : Gd w F.uu) (hx : (a, zad ax vs n) ∈ ro ∨ (a, zad ax vs n) ∈ rw) (hd : (ax, od) ∈ ro ∨ (ax, od) ∈ rw) (hi : j = i) (hv : vs[i]? = some v) (hs : vs.length ≤ sizeLine) (q : At F l ro rw tl tk (Q v))
  (hsub : subscripted slice false (.ref a) (.int j c) = operate [.ref a, .int j c] (getItem (.ref a) (.int j c)) := by rfl) : At F l ro rw tl tk (wpAny (Mo w) A (subscriptTail value slice (.ref a) (.int j c)) Q E) := .mk fun h S => o_itemL G S hx hd hi hv hs (q.go h S) hsub
theorem notX {it : Nat} {io : Obj} {h : Heap} (hX : ∀ x ∈ F.X, x ∈ rw.map (·.1)) (S : St F.uu F.ww F.X F.vv F.L l ro ((it, io) :: rw) tl h) : it ∉ F.X := fun z => by
 have := S.nd
 rw [Zi, List.nodup_cons] at this
 exact this.1 (hX _ z)
theorem At.forE {target iter : Expr} {body orelse : List Stmt} (k : At F l ro rw tl tk (wpAny (Mo w) A (eval iter env) (KForE w A E env target body orelse rest R) E)) (hs : ∀ x, foldedSetIterable iter env x = pure x := by intro _; rfl) : At F l ro rw tl tk (wpAny (Mo w) A (execs (.For target iter body orelse pos :: rest) env) R E) := .mk fun h S => zgl (k.go h S) hs
theorem At.kforSX {target : Expr} {body orelse : List Stmt} {x : Str} (hh : A.handled = none) (C : CT) (hX : ∀ x ∈ F.X, x ∈ rw.map (·.1)) (ha : (x.cps.all fun c => decide (c < 128)) = true) (h0 : C 0 l rw tl)
  (turn : ∀ i c tc l rw tl tk p, i < x.cps.size → x.cps[i]? = some c → C i l rw tl → At F l ro (p :: rw) tl tk (wpAny (Mo w) A (assign target env (.str ⟨#[c]⟩ tc)) (znn (Mo w) A env body (FlF F ro p C i (wpAny (Mo w) A (execs rest env) R E) R)) (fun j j => False)))
  (stop : ∀ l rw tl tk, C x.cps.size l rw tl → At F l ro rw tl tk (wpAny (Mo w) A (execs orelse env) (FlN (Mo w) A E env rest R) (fun j j => False))) : At F l ro rw tl tk (KForE w A E env target body orelse rest R (.str x t)) :=
 .mk fun h S => zlx S ha fun it h' io hio j S' => zf7 zky hh C (notX hX S') (fun j j j j j j => trivial) hio S' h0
  (fun i v l rw tl h tk io hlt hv c S => by
   obtain ⟨ch, tc, hc, rfl⟩ := hv
   exact zM ((turn i ch tc l rw tl tk (it, io) hlt hc c).go h S) (fun j s q => zM q (fun f s₃ q => by cases f <;> exact q) fun j j z => z) fun j j z => z) fun l rw tl h tk c S => zM ((stop l rw tl tk c).go h S) (fun f j q => by cases f <;> exact q) fun j j z => z
theorem At.rangeDown {target : Expr} {body orelse : List Stmt} {u v : Nat} {z : Int} (hz : z = n) (hh : A.handled = none) (C : CT) (hX : ∀ x ∈ F.X, x ∈ rw.map (·.1)) (h1 : n ≤ 100000) (h0 : C 0 l rw tl)
  (turn : ∀ i tc l rw tl tk p, i < n → C i l rw tl → At F l ro (p :: rw) tl tk (wpAny (Mo w) A (assign target env (.int ((n : Int) + -1 * i) tc)) (znn (Mo w) A env body (FlF F ro p C i (wpAny (Mo w) A (execs rest env) R E) R)) (fun j j => False)))
  (stop : ∀ l rw tl tk, C n l rw tl → At F l ro rw tl tk (wpAny (Mo w) A (execs orelse env) (FlN (Mo w) A E env rest R) (fun j j => False))) : At F l ro rw tl tk (wpAny (Mo w) A (call (.type "range") [.int z t, .int 0 u, .int (-1) v]) (KForE w A E env target body orelse rest R) E) :=
 .mk fun h S => hz ▸ zia S h1 fun it h' io tk' hio j S' => zf7 zkz hh C (notX hX S') (fun j j j j j j => trivial) hio S' h0
  (fun i v l rw tl h tk io hlt hv c S => by
   obtain ⟨tc, rfl⟩ := hv
   exact zM ((turn i tc l rw tl tk (it, io) hlt c).go h S) (fun j s q => zM q (fun f s₃ q => by cases f <;> exact q) fun j j z => z) fun j j z => z) fun l rw tl h tk c S => zM ((stop l rw tl tk c).go h S) (fun f j q => by cases f <;> exact q) fun j j z => z
theorem At.flnF {f : Flow} (hf : f ≠ .next) (k : At F l ro rw tl tk (R f)) : At F l ro rw tl tk (FlN N A E env rest R f) := .mk fun h S => by cases f <;> first | exact (hf rfl).elim | exact k.go h S
theorem At.openP (hm : (vs, ps.map psc) ∈ tl) (hv : vs[i]? = some v) (k : ∀ p T t u, ps[i]? = some p → v = .ref T → At F l ((T, zac [.str p.1 t, .str p.2 u]) :: ro) rw tl tk P) : At F l ro rw tl tk P := .mk fun h S => by
 obtain ⟨p, hp, T, t, u, e, hT⟩ := (S.htl _ hm).prs.at hv
 exact (k p T t u hp e).go h (S.addTupIn ⟨_, hm, by rw [← e]; exact zR hv⟩ hT)
theorem At.itemX {value slice : Expr} {x y : Str} {j : Int} {c : Nat} (hr : fitsSsize j = true) (h1 : -(x.length : Int) ≤ j) (h2 : j < x.length) (e : Txt.item x j = y) (k : At F l ro rw tl (tk + 1) (Q (.str y tk)))
  (hsub : subscripted slice false (.str x t) (.int j c) = operate [.str x t, .int j c] (getItem (.str x t) (.int j c)) := by rfl) (ht : ∀ r, letTemporaryGo value (.str x t) r = pure () := by intro _; rfl) : At F l ro rw tl tk (wpAny (Mo w) A (subscriptTail value slice (.str x t) (.int j c)) Q E) := .mk fun h S => item_str hr h1 h2 (fun z => by subst e; exact k.go h S) hsub ht
theorem At.isspace {x : Str} (k : At F l ro rw tl tk (Q (.bool (Txt.isspace x)))) : At F l ro rw tl tk (wpAny (Mo w) A (call (.builtin "str.isspace") [.str x t]) Q E) := .mk fun h S => SC.isspace (k.go h S)
theorem At.endFc {C : CT} {i : Nat} {Z : SP} {p : Nat × Obj} (h : C (i + 1) l rw tl) : At F l ro (p :: rw) tl tk (FlF F ro p C i Z R .cont) := .mk fun h' S => ⟨_, _, _, _, _, rfl, h, S⟩
theorem At.endFb {ro0 : LO} {C : CT} {i : Nat} {p : Nat × Obj} (k : At F l ro rw tl tk P) : At F l ro (p :: rw) tl tk (FlF F ro0 p C i P R .brk) := .mk fun h' S => k.go h' (S.drop (.refl _) (.cons _ (.refl _)))
end
section
variable {F : Fx} {N : Model} {n m a mk f : Nat} {P P' : SP}
variable {pos' : Pos} {M : MkS} {v : Value} {o : Expr} {args : List Expr} {q : Str × Str} {t t1 lm : Nat} {k : Int} {kv : Value} {lines : List Value}
theorem At.mcallS (k : At F l ro rw tl tk (wpAny (Mo w) A (eval o env) (KAt w A E name (zix (Mo w) A E env pos args Q)) E)) (hb : attributeBase o name env (eval o env) = eval o env)
  (hform : methodCallForm (args.length + ([] : List Keyword).length) (backTo pos (starEach args env)) (backToKw pos (keywordEach [] env)) = false) : At F l ro rw tl tk (wpAny (Mo w) A (eval (.Call (.Attribute o name apos) args [] pos) env) Q E) := .mk fun h S => e_mcallS (k.go h S) hb hform
theorem At.pushStar {T tt tu : Nat} {x : Str} {p sp : Pos} (N : Fn env F) (C : Cx w A F env 3) (hT : (T, zac [.str q.1 tt, .str q.2 tu]) ∈ ro) (hs : ps.length ≤ 1000) (hx : l.lookup x = some (.ref T)) (hl : env.kindOf x = some .local) (hd : (x == ("__debug__" : Str)) = false)
  (k : ∀ v m tk', At F l ro (R3 w M ax (vs ++ [v]) m t kv lines lm) [(vs ++ [v], (ps ++ [q]).map psc)] tk' (Q .none)) :
  At F l ro (R3 w M ax vs n t kv lines lm) [(vs, ps.map psc)] tk (KAt w A E "push" (zix (Mo w) A E env pos [.Starred (.Name x p) sp] Q) (.ref M.ac)) := .mk fun h S => by
 refine n_boundL C.G S (.inr (.head _)) (.inr (.tail _ (.head _))) fun b h5 tk5 hb S5 => ?_
 refine cw_star (a := M.ac) (T := T) (C.G.ks S5.inv) L_pushFn hb (zij S5 hx ⟨rfl, rfl⟩ N.hk hl N.hL hd) (S5.hro _ hT).1 (blT rfl) (fun h6 k6 => ?_) rfl
 have S6 := S5.ext k6
 refine zm7 (q := q) C.G (S6.wd C.fr C.md) C.P (S6.own (.cons_cons _ (zO _)) zfr C.fr) (Rd.of S6 (.inr (.tail _ (.head _))) C.fr) (fun z => (nd3 S6).1 z.symm) (S6.htl _ (.head _)).prs hs fun v m h2 tk2 r ha hp hf => (k v m tk2).go h2 ?_
 exact (chg1 C S6 r ha).setTl noT3 (fun t ht => by rw [zS ht]; exact hp.tps)
theorem At.neT2 {b c : Nat} {us vs : List Value} {p q : Str × Str} (hu : A.units ≤ 9000) (h1 : (b, zac us) ∈ ro) (h2 : (c, zac vs) ∈ ro) (hs : All2 Sc us [.str p.1, .str p.2]) (ht : All2 Sc vs [.str q.1, .str q.2])
  (hok : PyData.strOk p.1 = true ∧ PyData.strOk p.2 = true) (hok2 : PyData.strOk q.1 = true ∧ PyData.strOk q.2 = true) (e : p ≠ q) (k : At F l ro rw tl tk (Q (.bool true))) : At F l ro rw tl tk (wpAny (Mo w) A (compareOp .NotEq (.ref b) (.ref c)) Q E) := .mk fun h S => o_neT2 hu (S.hro _ h1).1 (S.hro _ h2).1 hs ht hok hok2 e (k.go h S)
theorem At.onlyws (C : Cx w A F env 6) (hB : AllBare F.g) (hs : zb5 ps) (hk : 0 ≤ k ∧ k ≤ 1000) (hno : k ≠ 0 ∨ (0 < plens ps ∧ Txt.isspace (zar ps) = false))
  (q : ∀ g' tk', AllBare g' → At (F.sg g') l ro (R3 w M ax vs n t (.int k t1) lines lm) [(vs, ps.map psc)] tk' (Q (.bool false))) :
  At F l ro (R3 w M ax vs n t (.int k t1) lines lm) [(vs, ps.map psc)] tk (wpAny (Mo w) A (call (.ref 217) [.ref M.ac]) Q E) := .mk fun h S =>
 c_onlyws C.G (S.wd C.fr C.md) C.P hB (Rd.of S (.inr (.head _)) C.fr) (Rd.of S (.inr (.tail _ (.head _))) C.fr) (S.htl _ (.head _)).prs hs hk hno fun h' g' tk' r b => (q g' tk' b).go h' (S.back0 r C.fr)
theorem At.reset0 (C : Cx w A F env 3) (hs : vs.length ≤ 1000)
  (q : ∀ m u tk', At F l ro (R3 w M ax [] m t (.int 0 u) lines lm) tl tk' (Q .none)) :
  At F l ro (R3 w M ax vs n t kv lines lm) tl tk (wpAny (Mo w) A (call (.ref 210) [.ref M.ac]) Q E) := .mk fun h S => by
 obtain ⟨n1, n2, n3⟩ := nd3 S
 refine c_reset0 C.G (S.wd C.fr C.md) C.P (S.own (p := [(M.ac, zad ax vs n), (ax, iniD w t kv)]) (.cons_cons _ (.cons_cons _ (zO _))) (fun q hq => ?_) C.fr) hs fun m u h' tk' r ha hx => (q m u tk').go h' ?_
 ·simp only [List.mem_cons, List.not_mem_nil, or_false] at hq
  rcases hq with rfl | rfl
  ·exact ac_noT
  ·exact zcb
 ·refine S.backX r C.fr (fun y hy => ?_) (.chg ha ac_noT (.chg hx zcb (.keep (by simpa using ⟨n2.symm, n3.symm⟩) .nil)))
  simp only [List.mem_cons, List.not_mem_nil, or_false] at hy
  rcases hy with rfl | rfl
  ·exact ⟨_, .head _⟩
  ·exact ⟨_, .tail _ (.head _)⟩
end
section
variable {x C mk a n : Nat} {M : MkS}
theorem callA {f k0 : Nat} {fd : FuncData} {o : Obj} {body : List Stmt} {args : List Value} {kw binds : LS} {Q : VP} {p : LO} (G : Gd w uu) (W : Wd uu vv h) (P : Rm A vv (k0 + 1)) (O : Own uu vv h p)
  (ho : h.get? f = some o) (hdat : o.data = .func fd) (hco : fd.scope.isCoroutine = false) (hgen : fd.scope.isGenerator = false) (hbody : fd.body = .stmts body) (hcd : h.CodeRec fd.code fd.qualname)
  (hk : fd.scope.kind = .function) (hcell : ∀ x ∈ fd.scope.names, x.2 ≠ .cell) (hloc : ∀ x ∈ binds, fd.scope.names.lookup x.1 = some .local) (hG : fd.globals = 3) (hB : fd.builtins = 0)
  (hbind : wpAny (Mo w) A.in1 (bindArgs fd ⟨args, kw⟩) (fun b s => b = binds ∧ s = ⟨h, g, d, tk, os⟩) (fun j j => False) ⟨h, g, d, tk, os⟩)
  (k : ∀ (F : Fx) (L : Nat) (A' : Around) (R : Flow → SP) tk', F = ⟨uu, h, p.map (·.1), vv, L, g, d, os⟩ → R = (fun fl s' => Q (match fl with | .ret v => v | _ => .none) s') → Fn (fenv fd f L) F → Cx w A' F (fenv fd f L) k0 →
   At F binds.reverse [] p [] tk' (wpAny (Mo w) A' (execs body (fenv fd f L)) R (fun j j => False))) :
  wpAny (Mo w) A (call (.ref f) args kw) Q E ⟨h, g, d, tk, os⟩ :=
 zhr G W P O ho hdat hco hgen hbody hcd hk hcell hloc hbind fun L h₁ tk₁ S R => (k _ _ _ _ _ rfl rfl ⟨hk, rfl, hG, hB⟩ ⟨G, R, rfl, by rw [show (fenv fd f L).scope.kind = fd.scope.kind from rfl, hk]; intro z; cases z⟩).go h₁ S
theorem callV {f k0 : Nat} {fd : FuncData} {o : Obj} {body : List Stmt} {args : List Value} {kw binds : LS} {t lm : Nat} {kv : Value} {lines : List Value} {Q : VP} (G : Gd w uu) (W : Wd uu vv h) (P : Rm A vv (k0 + 1)) (O : Own uu vv h (R3 w M ax vs n t kv lines lm))
  (r1 : Rd vv h mk (instObj 144 dx)) (r2 : Rd vv h dx (mkD w M)) (hne : mk ∉ [M.ac, ax, M.ln] ∧ dx ∉ [M.ac, ax, M.ln]) (hp : Prs h vs ps)
  (ho : h.get? f = some o) (hdat : o.data = .func fd) (hco : fd.scope.isCoroutine = false) (hgen : fd.scope.isGenerator = false) (hbody : fd.body = .stmts body) (hcd : h.CodeRec fd.code fd.qualname)
  (hk : fd.scope.kind = .function) (hcell : ∀ x ∈ fd.scope.names, x.2 ≠ .cell) (hloc : ∀ x ∈ binds, fd.scope.names.lookup x.1 = some .local) (hG : fd.globals = 3) (hB : fd.builtins = 0)
  (hbind : wpAny (Mo w) A.in1 (bindArgs fd ⟨args, kw⟩) (fun b s => b = binds ∧ s = ⟨h, g, d, tk, os⟩) (fun j j => False) ⟨h, g, d, tk, os⟩)
  (k : ∀ (F : Fx) (L : Nat) (A' : Around) (R : Flow → SP) tk', F = ⟨uu, h, [M.ac, ax, M.ln], vv, L, g, d, os⟩ → R = (fun fl s' => Q (match fl with | .ret v => v | _ => .none) s') → Fn (fenv fd f L) F → Cx w A' F (fenv fd f L) k0 →
   At F binds.reverse (O2 w M mk dx) (R3 w M ax vs n t kv lines lm) [(vs, ps.map psc)] tk' (wpAny (Mo w) A' (execs body (fenv fd f L)) R (fun j j => False))) :
  wpAny (Mo w) A (call (.ref f) args kw) Q E ⟨h, g, d, tk, os⟩ := by
 refine callA G W P O ho hdat hco hgen hbody hcd hk hcell hloc hG hB hbind fun F L A' R tk' hF hR N C => .mk fun h₁ S => ?_
 have ne : ∀ {y : Nat}, y ∉ [M.ac, ax, M.ln] → ∀ q ∈ R3 w M ax vs n t kv lines lm, y ≠ q.1 := fun hy q hq e => hy (e ▸ List.mem_map_of_mem (f := (·.1)) hq)
 have k := k F L A' R tk' hF hR N C
 subst hF
 have S := (S.entry r1.1 r1.2.1 hne.1 r1.2.2 (ne hne.1)).entry r2.1 r2.2.1 hne.2 r2.2.2 (ne hne.2)
 exact k.go h₁ (S.setTl noT3 fun t ht => by rw [zS ht]; exact (hp.keeps S.keep).tps)
set_option tactic.hygienic true in
theorem zm9 {k : Int} {t u lm : Nat} {lines : List Value} {ps' : List (Str × Str)} {Q : VP} (G : Gd w uu) (W : Wd uu vv h) (P : Rm A vv 8) (hB : AllBare g)
  (O : Own uu vv h [(M.ac, zad ax vs n), (ax, iniD w t (.int k u)), (M.ln, zaa lines lm)]) (r1 : Rd vv h mk (instObj 144 dx)) (r2 : Rd vv h dx (mkD w M))
  (hne : mk ∉ [M.ac, ax, M.ln] ∧ dx ∉ [M.ac, ax, M.ln]) (hp : Prs h vs ps) (hl : lines.length ≤ 1000) (hk : 0 ≤ k ∧ k ≤ 1000) (hps : ps' = ps.dropLast ++ [zap ps]) (hs : zb5 ps')
  (hlast : zap ps ≠ (ofString " ", ofString "")) (hok : PyData.strOk (zap ps).1 = true ∧ PyData.strOk (zap ps).2 = true) (hpos : 0 < k + plens ps') (hno : k ≠ 0 ∨ (0 < plens ps' ∧ Txt.isspace (zar ps') = false))
  (hq : ∀ t' m1 u' m2 h' g' tk', RetX uu vv [M.ac, ax, M.ln] h h' → AllBare g' → h'.get? M.ac = some (zad ax [] m1) → h'.get? ax = some (iniD w t (.int 0 u')) → h'.get? M.ln = some (zaa (lines ++ [.str (zar ps') t']) m2) → Q .none ⟨h', g', d, tk', os⟩) :
  wpAny (Mo w) A (call (.ref 106) [.ref mk]) Q E ⟨h, g, d, tk, os⟩ := by
 have hs0 : ps.length ≤ 1000 := by have := hs.1; rw [hps] at this; simp at this; exact om233 this
 have x1 : (mk, instObj 144 dx) ∈ O2 w M mk dx := .tail _ (.head _)
 have x2 : (dx, mkD w M) ∈ O2 w M mk dx := .head _
 refine callV (binds := [(ofString "self", .ref mk)]) G W P O r1 r2 hne hp (G.get W.inv (a := 106) rfl) rfl rfl rfl rfl ⟨_, _, _, _, rfl, G.get W.inv (a := 105) rfl, rfl, rfl⟩ rfl (by decide) (zba rfl) rfl rfl (zP ⟨rfl, rfl⟩) fun F L A' R0 tk₁ hF hR N C => ?_
 have G := C.G
 have R := C.P
 have hB : AllBare F.g := by rw [hF]; exact hB
 have lp' : ps'.length ≤ 1000 := zT hs.1 (blT rfl)
 have ld : ps.dropLast.length ≤ 1000 := by rw [List.length_dropLast]; exact zT (Nat.sub_le _ _) hs0
 clear O W P hp r1 r2
 walk_at "Mt"
 refine At.kmcL (f := 188) G (.inr (.head _)) (.inr (.tail _ (.head _))) rfl rfl rfl ?_
 walk_at "Mt"
 refine At.pop (q := zap ps) (ps' := ps.dropLast) (C.le (by exact om234)) hs0 rfl rfl fun T tt tu us m tk2 lus => ?_
 walk_at "Mt"
 refine At.ifN ?_
 walk_at "Mt"
 rename_i T2
 refine At.neT2 (p := zap ps) (q := (ofString " ", ofString "")) R.u9 (.tail _ (.head _)) (.head _) (.cons rfl (.cons rfl .nil)) (.cons rfl (.cons rfl .nil)) hok ⟨ok_sp, ok_em⟩ hlast ?_
 refine At.drop (.cons _ (.refl _)) (.refl _) ?_
 have y1 : (mk, instObj 144 dx) ∈ (T, zac [.str (zap ps).1 tt, .str (zap ps).2 tu]) :: O2 w M mk dx := .tail _ x1
 have y2 : (dx, mkD w M) ∈ (T, zac [.str (zap ps).1 tt, .str (zap ps).2 tu]) :: O2 w M mk dx := .tail _ x2
 walk_at "Mt"
 refine At.mcallS ?_ (by walk_at "ab") rfl
 walk_at "Mt"
 refine At.pushStar (q := zap ps) N (C.le (by exact om235)) (.head _) ld (by walk_at "lk") (by rfl) (by rfl) fun v m2 tk7 => ?_
 rw [← hps]
 walk_at "Mt"
 refine At.ifN ?_
 walk_at "Mt"
 refine At.lenAc (C.le (by exact om234)) hB hs hk fun t8 g8 tk8 b8 => ?_
 replace N := N.sg (g := g8)
 replace C := C.sg (g := g8)
 walk_at "Mt"
 refine At.brT (by simpa using hpos) ?_
 walk_at "Mt"
 refine At.ifN ?_
 walk_at "Mt"
 refine At.kmcL (f := 217) G (.inr (.head _)) (.inr (.tail _ (.head _))) rfl rfl rfl ?_
 walk_at "Mt"
 refine At.onlyws (C.le (by exact om237)) b8 hs hk hno fun g9 tk9 b9 => ?_
 replace N := N.sg (g := g9)
 replace C := C.sg (g := g9)
 walk_at "Mt"
 refine At.strAc (ps := ps') (C.le (by exact om238)) b9 hs (.head _) fun ts g10 tk10 b10 => ?_
 replace N := N.sg (g := g10)
 replace C := C.sg (g := g10)
 walk_at "Mt"
 refine At.kap2 (.tail (.tail .head)) (by exact om222 hl) ?_
 walk_at "Mt"
 refine At.kmcL (f := 210) G (.inr (.head _)) (.inr (.tail _ (.head _))) rfl rfl rfl ?_
 walk_at "Mt"
 refine At.reset0 (C.le (by exact om235)) (by rw [zY, lus]; have := lp'; rw [hps, zY] at this; exact this) fun m3 u3 tk12 => ?_
 walk_at "Mt"
 refine .mk fun h' S' => ?_
 subst hF hR
 exact hq _ _ _ _ _ _ _ S'.retX b10 (S'.getR (.inr (.head _))) (S'.getR (.inr (.tail _ (.head _)))) (S'.getR (.inr (.tail _ (.tail _ (.head _)))))
end
section
variable {F : Fx} {n mk : Nat} {M : MkS} {t t1 lm : Nat} {k : Int} {lines : List Value}
theorem UpdW.pre {h' : Heap} {Y : List Nat} {r r' : LO} (u : UpdW h' Y r r') : ∀ {p : LO}, (∀ q ∈ p, q.1 ∉ Y) → UpdW h' Y (p ++ r) (p ++ r')
 | [], _ => u
 | _ :: _, h => .keep (h _ (.head _)) (UpdW.pre u fun q hq => h q (.tail _ hq))
theorem back3 {p : LO} {h h' : Heap} {vs' : List Value} {m' t' lm' i : Nat} {kv kv' : Value} {lines' : List Value} (C : Cx w A F env i) (S : St F.uu F.ww F.X F.vv F.L l ro (p ++ R3 w M ax vs n t kv lines lm) tl h) (r : RetX F.uu (env :: F.vv) [M.ac, ax, M.ln] h h')
  (ha : h'.get? M.ac = some (zad ax vs' m')) (hx : h'.get? ax = some (iniD w t' kv')) (hl : h'.get? M.ln = some (zaa lines' lm')) : St F.uu F.ww F.X F.vv F.L l ro (p ++ R3 w M ax vs' m' t' kv' lines' lm') tl h' := by
 have nd := S.nd
 rw [List.map_append] at nd
 refine S.backX r C.fr (fun y hy => ?_) (UpdW.pre (.chg ha ac_noT (.chg hx zcb (.chg hl zfy .nil))) fun q hq hY => (List.nodup_append.mp nd).2.2 _ (List.mem_map_of_mem hq) _ hY rfl)
 obtain ⟨q, hq, e⟩ := List.mem_map.mp (show y ∈ (R3 w M ax vs n t kv lines lm).map (·.1) from hy)
 exact ⟨q.2, by rw [← e]; exact List.mem_append_right _ hq⟩
theorem At.newline {ps' : List (Str × Str)} (C : Cx w A F env 8) (hB : AllBare F.g) (x1 : (mk, instObj 144 dx) ∈ ro) (x2 : (dx, mkD w M) ∈ ro) (hne : mk ∉ [M.ac, ax, M.ln] ∧ dx ∉ [M.ac, ax, M.ln]) (hl : lines.length ≤ 1000) (hk : 0 ≤ k ∧ k ≤ 1000) (hps : ps' = ps.dropLast ++ [zap ps]) (hs : zb5 ps')
  (hlast : zap ps ≠ (ofString " ", ofString "")) (hok : PyData.strOk (zap ps).1 = true ∧ PyData.strOk (zap ps).2 = true) (hpos : 0 < k + plens ps') (hno : k ≠ 0 ∨ (0 < plens ps' ∧ Txt.isspace (zar ps') = false))
  (q : ∀ t' m1 u' m2 g' tk', AllBare g' → At (F.sg g') l ro (R3 w M ax [] m1 t (.int 0 u') (lines ++ [.str (zar ps') t']) m2) [([], [])] tk' (Q .none)) :
  At F l ro (R3 w M ax vs n t (.int k t1) lines lm) [(vs, ps.map psc)] tk (wpAny (Mo w) A (call (.ref 106) [.ref mk]) Q E) := .mk fun h S => by
 refine zm9 C.G (S.wd C.fr C.md) C.P hB (S.own (.refl _) noT3 C.fr) (Rd.of S (.inl x1) C.fr) (Rd.of S (.inl x2) C.fr) hne (S.htl _ (.head _)).prs hl hk hps hs hlast hok hpos hno fun t' m1 u' m2 h' g' tk' r b ha hx hln => (q t' m1 u' m2 g' tk' b).go h' ?_
 exact (back3 (p := []) C S r ha hx hln).setTl noT3 (fun t ht => by rw [zS ht]; exact .nil)
end
theorem small_em : zb5 [zc5] := by
 refine ⟨by decide, fun p hp => ?_⟩
 rw [zS hp]
 decide +kernel
theorem ze3 (ps : List (Str × Str)) (q : Str × Str) : plens (ps ++ [q]) = plens ps + plen q := by simp [plens]
section
variable {x C mk a n : Nat} {M : MkS}
inductive Three (w : World) (uu : Heap) (vv : List Env) (M : MkS) (ax : Nat) (us : List Value) (h h' : Heap) (g' : Array GenState) (c : ChS) : Prop where
 | mk {vs m t u lines lm} : RetX uu vv [M.ac, ax, M.ln] h h' → AllBare g' → h'.get? M.ac = some (zad ax vs m) → Prs h' vs c.ps → h'.get? ax = some (iniD w t (.int c.k u)) → h'.get? M.ln = some (zaa lines lm) → StrsAre lines c.ls → (∀ v ∈ vs, v ∈ us ∨ ∃ T, v = .ref T ∧ h.get? T = none) → Three w uu vv M ax us h h' g' c
inductive KC1 (rw0 : LO) (tl0 : LT) (mk : Nat) (fv : Value) : CT where
 | mk {i l} : l.lookup (ofString "self") = some (.ref mk) → l.lookup (ofString "fws") = some fv → KC1 rw0 tl0 mk fv i l rw0 tl0
inductive KC2 (rw0 : LO) (tl0 : LT) (mk : Nat) : CT where
 | mk {i l} : i = 0 → l.lookup (ofString "self") = some (.ref mk) → KC2 rw0 tl0 mk i l rw0 tl0
inductive KC3 (rw0 : LO) (tl0 : LT) (mk : Nat) : CT where
 | mk {i l t} : i = 0 → l.lookup (ofString "self") = some (.ref mk) → l.lookup (ofString "ch") = some (.str (ofString ".") t) → KC3 rw0 tl0 mk i l rw0 tl0
theorem c_chunk {q : Str × Str} {tq uq : Nat} {k : Int} {t u lm : Nat} {lines : List Value} {ls : List Str} {Q : VP} (G : Gd w uu) (W : Wd uu vv h) (P : Rm A vv 10) (hB : AllBare g)
  (O : Own uu vv h [(M.ac, zad ax vs n), (ax, iniD w t (.int k u)), (M.ln, zaa lines lm)]) (r1 : Rd vv h mk (instObj 144 dx)) (r2 : Rd vv h dx (mkD w M))
  (hne : mk ∉ [M.ac, ax, M.ln] ∧ dx ∉ [M.ac, ax, M.ln]) (hp : Prs h vs ps) (hls : StrsAre lines ls) (hl : ls.length ≤ 900) (hk : 0 ≤ k ∧ k ≤ 1000) (hs : zb5 (ps ++ [q]))
  (hok : PyData.strOk q.1 = true ∧ PyData.strOk q.2 = true) (hdot : ∀ p ∈ ps, zdn p.2) (hw : -1000 ≤ M.wd ∧ M.wd ≤ 1000)
  (hq : ∀ h' g' tk', Three w uu vv M ax vs h h' g' (zb6 M.wd q ⟨ls, ps, k⟩) → Q .none ⟨h', g', d, tk', os⟩) :
  wpAny (Mo w) A (call (.ref 141) [.ref mk, .str q.1 tq, .str q.2 uq]) Q E ⟨h, g, d, tk, os⟩ := by
 have hs1 : q.1.length < sizeLine := by have := hs.2 q (by simp); unfold plen at this; exact om244 this
 have hsp : zb5 ps := ⟨by have := hs.1; simp at this; exact om245 this, fun p hp => hs.2 p (List.mem_append_left _ hp)⟩
 have hs0 : ps.length ≤ 99 := by have := hs.1; simp at this; exact om246 this
 have el := hp.length
 have x1 : (mk, instObj 144 dx) ∈ O2 w M mk dx := .tail _ (.head _)
 have x2 : (dx, mkD w M) ∈ O2 w M mk dx := .head _
 refine callV (binds := [(ofString "self", .ref mk), (ofString "fws", .str q.1 tq), (ofString "string", .str q.2 uq)]) G W P O r1 r2 hne hp (G.get W.inv (a := 141) rfl) rfl rfl rfl rfl ⟨_, _, _, _, rfl, G.get W.inv (a := 140) rfl, rfl, rfl⟩ rfl (by decide) (zba rfl) rfl rfl (zP ⟨rfl, rfl⟩) fun F L A' R0 tk₁ hF hR N C => ?_
 have G := C.G
 have hh := C.P.handled
 clear O W P hp r1 r2
 have lX : ∀ x ∈ F.X, x ∈ [M.ac, ax, M.ln] := by intro x hx; rw [hF] at hx; exact hx
 walk_at "Mt"
 refine At.kmcL (f := 172) G (.inr (.head _)) (.inr (.tail _ (.head _))) rfl rfl rfl ?_
 walk_at "Mt"
 refine At.push (C.le (by exact zg6)) (by exact om248 hs0) fun v m1 tk2 hf2 => ?_
 walk_at "Mt"
 refine At.ifN ?_
 walk_at "Mt"
 refine At.lenAc (C.le (by exact om249)) (by rw [hF]; exact hB) hs hk fun t3 g3 tk3 b3 => ?_
 replace N := N.sg (g := g3)
 replace C := C.sg (g := g3)
 walk_at "Mt"
 refine At.ite (fun hfit => ?_) (fun hfit => ?_)
 rotate_left
 ·walk_at "Mt"
  refine .mk fun h' S' => ?_
  subst hF hR
  refine hq _ _ _ ?_
  unfold zb6
  rw [zH (Int.not_lt.mp hfit)]
  exact ⟨S'.retX, b3, S'.getR (.inr (.head _)), (S'.htl _ (.head _)).prs, S'.getR (.inr (.tail _ (.head _))), S'.getR (.inr (.tail _ (.tail _ (.head _)))), hls, fun v' hv => (zD hv).imp id fun z => by rw [zS z]; exact hf2⟩
 have hfit := Int.not_le.mpr hfit
 refine At.forE ?_
 walk_at "Mt"
 by_cases hps : ps = []
 ·subst hps
  refine At.kforSX hh (KC1 (R3 w M ax (vs ++ [v]) m1 t (.int k u) lines lm) [(vs ++ [v], ([] ++ [q]).map psc)] mk (.str q.1 tq)) lX (by decide +kernel) ⟨by walk_at "lk", by walk_at "lk"⟩ (fun i c tc l rw tl tk p hi hc z => ?_) (fun l rw tl tk z => ?_)
  ·cases z with
   | mk l1 l2 =>
   walk_at "Mt"
   refine At.forE ?_
   walk_at "Mt"
   refine At.kmcL (f := 225) G (.inr (.tail _ (.head _))) (.inr (.tail _ (.tail _ (.head _)))) rfl rfl rfl ?_
   walk_at "Mt"
   refine At.count (C.le (by exact zg6)) (.inr (.tail _ (.head _))) (.inr (.tail _ (.tail _ (.head _)))) fun t7 tk7 => ?_
   walk_at "Mt"
   refine At.rangeDown (n := 0) (by rw [zY, el]; rfl) hh (KC1 (p :: R3 w M ax (vs ++ [v]) m1 t (.int k u) lines lm) [(vs ++ [v], ([] ++ [q]).map psc)] mk (.str q.1 tq)) (fun x hx => .tail _ (lX x hx)) (by decide) ⟨by walk_at "lk", by walk_at "lk"⟩ (fun i y y y y y y hi => absurd hi (Nat.not_lt_zero i)) (fun l rw tl tk z => ?_)
   cases z with
   | mk l1 l2 =>
   walk_at "Mt"
   refine At.flnF (fun z => nomatch z) (At.endFc ⟨l1, l2⟩)
  ·cases z with
   | mk l1 l2 =>
   walk_at "Mt"
   refine At.kmcL (f := 188) G (.inr (.head _)) (.inr (.tail _ (.head _))) rfl rfl rfl ?_
   walk_at "Mt"
   refine At.pop (ps := [] ++ [q]) (q := q) (ps' := []) (C.le (by exact om249)) (by simp) rfl rfl fun T tt tu us m6 tk6 eus => ?_
   have eus : us = [] := List.eq_nil_of_length_eq_zero eus
   subst eus
   walk_at "Mt"
   refine At.tuple2 hh (.head _) ?_ N.hk rfl rfl N.hL
   have y1 : (mk, instObj 144 dx) ∈ (T, zac [.str q.1 tt, .str q.2 tu]) :: O2 w M mk dx := .tail _ x1
   have y2 : (dx, mkD w M) ∈ (T, zac [.str q.1 tt, .str q.2 tu]) :: O2 w M mk dx := .tail _ x2
   walk_at "Mt"
   refine At.ifN ?_
   walk_at "Mt"
   refine At.katI G (.inr (.head _)) (.inr (.tail _ (.head _))) rfl ?_
   walk_at "Mt"
   refine At.ite (fun hk0 => ?_) (fun hk0 => ?_)
   ·walk_at "Mt"
    refine At.kmcM (f := 106) G y1 y2 (by rfl) (by rfl) (by rfl) ?_
    walk_at "Mt"
    refine At.newline (ps := []) (ps' := [zc5]) (C.le (by exact om251)) b3 y1 y2 hne (by have := zax hls; exact om252 hl this) hk rfl small_em (by decide +kernel) (by decide +kernel) (by omega) (.inl (by omega)) fun tn m9 u9 m9' g9 tk9 b9 => ?_
    have N := N.sg (g := g9)
    have C := C.sg (g := g9)
    walk_at "Mt"
    refine At.ifN ?_
    walk_at "Mt"
    refine At.truS (by exact om255 hs1) ?_
    walk_at "Mt"
    by_cases hf : q.1.length = 0
    ·refine At.brT (by simp [hf]) ?_
     walk_at "Mt"
     refine At.kmcL (f := 172) G (.inr (.head _)) (.inr (.tail _ (.head _))) rfl rfl rfl ?_
     walk_at "Mt"
     refine At.push (ps := []) (q := (ofString " ", q.2)) (C.le (by exact zg6)) (by simp) fun vz mz tkz hfz => ?_
     walk_at "Mt"
     refine .mk fun h' S' => ?_
     subst hF hR
     refine hq _ _ _ ?_
     unfold zb6
     rw [zG hfit, zH rfl, zH hk0, zH hf]
     exact ⟨S'.retX, b9, S'.getR (.inr (.head _)), (S'.htl _ (.head _)).prs, S'.getR (.inr (.tail _ (.head _))), S'.getR (.inr (.tail _ (.tail _ (.head _)))), zbe hls _ _, fun v' hv => .inr (by have e : v' = vz := zS hv; rw [e]; exact hfz)⟩
    ·refine At.brF (by simp [hf]) ?_
     walk_at "Mt"
     refine At.kmcL (f := 172) G (.inr (.head _)) (.inr (.tail _ (.head _))) rfl rfl rfl ?_
     walk_at "Mt"
     refine At.push (ps := []) (q := q) (C.le (by exact zg6)) (by simp) fun vz mz tkz hfz => ?_
     walk_at "Mt"
     refine .mk fun h' S' => ?_
     subst hF hR
     refine hq _ _ _ ?_
     unfold zb6
     rw [zG hfit, zH rfl, zH hk0, zG hf]
     exact ⟨S'.retX, b9, S'.getR (.inr (.head _)), (S'.htl _ (.head _)).prs, S'.getR (.inr (.tail _ (.head _))), S'.getR (.inr (.tail _ (.tail _ (.head _)))), zbe hls _ _, fun v' hv => .inr (by have e : v' = vz := zS hv; rw [e]; exact hfz)⟩
   ·walk_at "Mt"
    refine At.kmcL (f := 172) G (.inr (.head _)) (.inr (.tail _ (.head _))) rfl rfl rfl ?_
    walk_at "Mt"
    refine At.push (ps := []) (q := q) (C.le (by exact zg6)) (by simp) fun vz mz tkz hfz => ?_
    walk_at "Mt"
    refine .mk fun h' S' => ?_
    subst hF hR
    refine hq _ _ _ ?_
    unfold zb6
    rw [zG hfit, zH rfl, zG hk0]
    exact ⟨S'.retX, b3, S'.getR (.inr (.head _)), (S'.htl _ (.head _)).prs, S'.getR (.inr (.tail _ (.head _))), S'.getR (.inr (.tail _ (.tail _ (.head _)))), hls, fun v' hv => .inr (by have e : v' = vz := zS hv; rw [e]; exact hfz)⟩
 have hps1 : 1 ≤ ps.length := by cases ps with
  | nil => exact absurd rfl hps
  | cons a r => simp
 have lenv : (vs ++ [v]).length = ps.length + 1 := by rw [zY, el]; rfl
 refine At.kforSX hh (KC2 (R3 w M ax (vs ++ [v]) m1 t (.int k u) lines lm) [(vs ++ [v], (ps ++ [q]).map psc)] mk) lX (by decide +kernel) ⟨rfl, by walk_at "lk"⟩ (fun i c tc l rw tl tk p hi hc z => ?_) (fun l rw tl tk z => ?_)
 rotate_left
 ·cases z with
  | mk e0 l1 => exact absurd e0 (by decide)
 cases z with
 | mk e0 l1 =>
 subst e0
 have ec : c = 46 := by
  have : (ofString ".").cps[0]? = some 46 := by decide +kernel
  rw [this] at hc; cases hc; rfl
 subst ec
 walk_at "Mt"
 refine At.forE ?_
 walk_at "Mt"
 refine At.kmcL (f := 225) G (.inr (.tail _ (.head _))) (.inr (.tail _ (.tail _ (.head _)))) rfl rfl rfl ?_
 walk_at "Mt"
 refine At.count (C.le (by exact zg6)) (.inr (.tail _ (.head _))) (.inr (.tail _ (.tail _ (.head _)))) fun t7 tk7 => ?_
 walk_at "Mt"
 refine At.rangeDown (n := ps.length) (by exact om256 lenv) hh (KC3 (p :: R3 w M ax (vs ++ [v]) m1 t (.int k u) lines lm) [(vs ++ [v], (ps ++ [q]).map psc)] mk) (fun x hx => .tail _ (lX x hx)) (by exact om257 hs0) ⟨rfl, by walk_at "lk", by exact lk_hit⟩ (fun i ti l rw tl tk p2 hi z => ?_) (fun l rw tl tk z => ?_)
 rotate_left
 ·cases z with
  | mk e0 l1 => omega
 cases z with
 | mk e0 l1 l2 =>
 subst e0
 walk_at "Mt"
 refine At.ifN ?_
 refine At.tval ?_ (by rfl)
 with_reducible refine At.mstr PySem.F.slot_str_isspace PySem.F.type_str_isspace ?_ ?za ?zb ?zc
 case za => walk_at "ab"
 case zb => rfl
 case zc => rfl
 walk_at "Mt"
 refine At.isspace ?_
 walk_at "Mt"
 refine At.brF (by decide +kernel) ?_
 walk_at "Mt"
 have hj : (vs ++ [v])[ps.length - 1]? = some ((vs ++ [v])[ps.length - 1]'(by exact om258 lenv)) := zI _
 refine At.itemAc (i := ps.length - 1) G (.inr (.tail _ (.tail _ (.head _)))) (.inr (.tail _ (.tail _ (.tail _ (.head _))))) (by exact om260 hps1) hj (by exact om261 hs0 lenv) ?_
 refine At.openP (.head _) hj fun pr T tp up hpj eT => ?_
 rw [eT]
 have hpm : pr ∈ ps := by
  rw [List.getElem?_append_left (by exact om259 hps1)] at hpj
  exact zR hpj
 obtain ⟨dot1, dot2⟩ := hdot pr hpm
 have plen1 : pr.2.length ≤ 10000 := by have := hs.2 pr (List.mem_append_left _ hpm); unfold plen at this; exact om262 this
 walk_at "Mt"
 refine At.itemT (.head _) (j := 1) rfl rfl (blT rfl) ?_
 walk_at "Mt"
 refine At.ifN ?_
 walk_at "Mt"
 refine At.truS (by exact om263 plen1) ?_
 walk_at "Mt"
 refine At.brT (by simp; exact om8 dot2) ?_
 walk_at "Mt"
 refine At.itemX (by decide) (by exact om264 dot2) (by exact om265) dot1 ?_
 walk_at "Mt"
 refine At.brT (by rfl) ?_
 walk_at "Mt"
 refine At.flnF (fun z => nomatch z) (At.endFb ?_)
 walk_at "Mt"
 refine At.endFb (At.drop (.cons _ (.refl _)) (.refl _) ?_)
 walk_at "Mt"
 refine At.kmcL (f := 180) G (.inr (.head _)) (.inr (.tail _ (.head _))) rfl rfl rfl ?_
 walk_at "Mt"
 rw [show ((ps.length : Nat) : Int) + -1 * ((0 : Nat) : Int) = ((ps.length : Nat) : Int) from by exact om266]
 refine At.popFrom (C.le (by exact zg6)) (by exact om12 lenv) (by exact om267 hs0 lenv) fun b m12 mb tk12 => ?_
 have elv : vs.length = ps.length := el
 have e1 : (vs ++ [v]).take ps.length = vs := by rw [← elv, List.take_left]
 have e2 : (vs ++ [v]).drop ps.length = [v] := by rw [← elv, List.drop_left]
 have e3 : (ps ++ [q]).take ps.length = ps := List.take_left
 have e4 : (ps ++ [q]).drop ps.length = [q] := List.drop_left
 rw [e1, e2, e3, e4]
 walk_at "Mt"
 have z1 : (mk, instObj 144 dx) ∈ (b, zaa [v] mb) :: O2 w M mk dx := .tail _ x1
 have z2 : (dx, mkD w M) ∈ (b, zaa [v] mb) :: O2 w M mk dx := .tail _ x2
 walk_at "Mt"
 refine At.strAc (ps := ps) (C.le (by exact om268)) b3 hsp (.head _) fun ts g15 tk15 b15 => ?_
 have N := N.sg (g := g15)
 have C := C.sg (g := g15)
 walk_at "Mt"
 refine At.kap2 (.tail (.tail .head)) (by have : sizeLine = 16777216 := rfl; have := zax hls; exact om269 hl this) ?_
 walk_at "Mt"
 refine At.kmcL (f := 210) G (.inr (.head _)) (.inr (.tail _ (.head _))) rfl rfl rfl ?_
 walk_at "Mt"
 refine At.reset1 (C.le (by exact zg6)) (.head _) (by exact om270 hs0 elv) (by simp) fun m17 u17 tk17 => ?_
 walk_at "Mt"
 refine .mk fun h' S' => ?_
 subst hF hR
 refine hq _ _ _ ?_
 unfold zb6
 rw [zG hfit, zG hps]
 exact ⟨S'.retX, b15, S'.getR (.inr (.head _)), (S'.htl _ (.tail _ (.head _))).prs, S'.getR (.inr (.tail _ (.head _))), S'.getR (.inr (.tail _ (.tail _ (.head _)))), zbe hls _ _, fun v' hv => .inr (by rw [zS hv]; exact hf2)⟩
end
theorem zew : entryFor table "list.__new__" = some Builtin.«list.__new__» := entryFor_of_tree (by kernel_rfl)
theorem zf1 : builtinKind "list.__new__" = some .builtinFn := by rw [Fast.te11380579304954806539]; decide +kernel
theorem zep : splitId "list.__new__" = some ("list", "__new__") := by decide +kernel
theorem zgj (a b : Value) : argsOk "list.__new__" ⟨[a, b], []⟩ := by unfold argsOk; kernel_rfl
section
variable {t : Nat} {R : Result → SP}
theorem wF {M : Model} {α : Type} {c : Bool} {x y : Sem α} {Q : α → SP} {E : VP} {s : Shared} (hc : c = false) (h : wpAny M A y Q E s) : wpAny M A (if c = true then x else y) Q E s := by subst hc; exact h
theorem zhw {w : World} : ∃ oc od cd sl, (KS w).lookup 228 = some ⟨oc, od, .cls cd, sl⟩ ∧ cd.abstract = false ∧ cd.hasDel = false ∧ cd.mro = [.ref 228, .type "list", .type "object"] ∧ (sl.toList[4]?).join = some (.builtin "list.__new__") := ⟨_, _, _, _, rfl, rfl, rfl, rfl, rfl⟩
theorem L_call {w : World} : specialIn (KS w) (.ref 228) "__call__" = some (some (.builtin "type.__call__")) := by rfl
theorem L_type {w : World} : instIn (KS w) (.ref 228) (.type "type") = some true := by rfl
theorem L_init {w : World} : findIn (KS w) (.ref 228) "__init__" = some (some (.ref 165)) := by rfl
theorem zds {M : Model} (X : (KS w).In h) : Looks M h (Bind.madeBy (.ref 228)) (some "list.__new__") := by
 obtain ⟨oc, od, cd, sl, ho, _, _, e1, e3⟩ := zhw (w := w)
 have hc : clsIn (KS w) 228 = some cd := by unfold clsIn; rw [ho]
 have hm : Looks M h (mroOf (.ref 228)) cd.mro := (looks_clsIn X hc).andThen .now
 intro A Q E s k q
 unfold Bind.madeBy
 refine zB (hm A _ E s k ?_)
 rw [e1, List.forIn_cons]
 refine zB (zB (zB (zB (wpAny_loadPart (k _ _ (X _ _ ho)) (zP ?_)))))
 dsimp only
 rw [← Array.getElem?_toList, e3]
 exact zP (zP (zP q))
theorem base_L {M : Model} (X : (KS w).In h) : Looks M h (Bind.staticBase (.ref 228)) (.ref 228) := by
 obtain ⟨oc, od, cd, sl, ho, _, _, e1, e3⟩ := zhw (w := w)
 have hc : clsIn (KS w) 228 = some cd := by unfold clsIn; rw [ho]
 have hm : Looks M h (mroOf (.ref 228)) cd.mro := (looks_clsIn X hc).andThen .now
 intro A Q E s k q
 unfold Bind.staticBase
 refine zB (hm A _ E s k ?_)
 rw [e1, List.forIn_cons]
 exact zB (zB (zB (zds X A _ E s k (zP (zP (zP q))))))
theorem zm3 {s : Shared} {v : Value} {E : VP} {Q : Unit → SP} (X : (KS w).In s.heap) (q : Q () s) : wpAny (Mo w) A (checkBuiltinCall "list.__new__" ⟨[.ref 228, v], []⟩) Q E s := by
 obtain ⟨oc, od, cd, sl, ho, ea, ed, e1, e3⟩ := zhw (w := w)
 have hC := X _ _ ho
 have hk := zf1
 have hs := zep
 delta checkBuiltinCall
 generalize builtinKind "list.__new__" = k1 at hk ⊢
 generalize splitId "list.__new__" = k2 at hs ⊢
 subst hk
 subst hs
 dsimp only
 have here : Looks (Mo w) s.heap (Bind.madeHere "list.__new__" (.ref 228)) () := (base_L X).andThen ((zds X).andThen (Looks.of_pure (by simp only [Option.map_some, bne_self_eq_false, Bool.false_eq_true, if_false])))
 have sub : Looks (Mo w) s.heap (isSubtype (.ref 228) (.type "list")) true := looks_mroIn X rfl
 have ha := zgj (.ref 228) v
 have ty : Looks (Mo w) s.heap (isType (.ref 228)) true := fun A Q E s' k q => ks_wpAny_isType_cls (k _ _ hC) rfl q
 have uu := base_L (M := Mo w) X
 have made := zds (M := Mo w) X
 repeat (first | with_reducible refine wF (bne_self_eq_false _) ?_ | with_reducible refine wF rfl ?_ | lk)
 exact q
theorem new_L {v : Value} (X : (KS w).In h) (hq : R (.ok (.ret (.ref (h.objs.size + 1)))) ⟨(h.push emptyDict).push (zad h.objs.size [] 0), g, d, t, os⟩) :
  codeAny (Mo w) A (.call (.builtin "list.__new__") ⟨[.ref 228, v], []⟩) R ⟨h, g, d, t, os⟩ := by
 obtain ⟨oc, od, cd, sl, ho, ea, ed, e1, e3⟩ := zhw (w := w)
 have hC := X _ _ ho
 have sub : Looks (Mo w) h (isSubtype (.ref 228) (.type "list")) true := looks_mroIn X rfl
 have ty : Looks (Mo w) h (isType (.ref 228)) true := fun A Q E s' k q => ks_wpAny_isType_cls (k _ _ hC) rfl q
 refine codeAny_call_builtin_code (Code.quiet_builtin _ (by decide +kernel)) (zm3 X ?_)
 refine codeAny_builtinAt zew ?_
 unfold Builtin.«list.__new__»
 refine PySem.wpAt_bind (PySem.wpAt_stack fun p below => ?_)
 dsimp only
 rw [split_list]
 refine wpAt_of_wpAny ?_
 dsimp only [List.headD]
 have hC' := zQ (zad h.objs.size [] 0) (zQ emptyDict hC)
 repeat (first | with_reducible refine wF rfl ?_ | with_reducible refine wF (bne_self_eq_false _) ?_ | refine wF ed ?_ | lk)
 show R _ _
 rw [Heap.size_push]
 exact hq
theorem bind165 {M : Model} (X : (KS w).In h) (self : Value) : Looks M h (bindSpecial (.ref 165) self) (.ref 165, [self]) := bind_fn X self (by rfl)
theorem make_L {v : Value} (X : (KS w).In h) (hq : codeAny (Mo w) (A.under (.builtin "type.__call__" ⟨[.ref 228, v], []⟩)) (.call (.ref 165) ⟨[.ref (h.objs.size + 1), v], []⟩) (InitBack (h.objs.size + 1) R) ⟨(h.push emptyDict).push (zad h.objs.size [] 0), g, d, t, os⟩) :
  codeAny (Mo w) A (.call (.ref 228) ⟨[v], []⟩) R ⟨h, g, d, t, os⟩ := by
 obtain ⟨oc, od, cd, sl, ho, ea, ed, e1, e3⟩ := zhw (w := w)
 have hC := X _ _ ho
 have call := looks_specialIn (M := Mo w) X L_call
 have typ := looks_instIn (M := Mo w) X L_type
 have made := zds (M := Mo w) X
 have e4 : cd.mro.isEmpty = false := by rw [e1]; rfl
 refine codeAny_of_tree ?_
 show wpAny _ _ (callAny (.ref 228) _) _ _ _
 refine nd_load hC ?_
 show wpAny _ _ (callAny.viaDunder (.ref 228) _) _ _ _
 unfold callAny.viaDunder
 refine zB (call.at ?_)
 dsimp only
 rw [tc_bind]
 refine zB (zP (zB (zP ?_)))
 refine zP (a := PySem.Fin.again (.call (.builtin "type.__call__") ⟨[.ref 228, v], []⟩)) (And.intro rfl ?_)
 refine codeAny_call_builtin_at (Code.quiet_builtin _ (by decide +kernel)) entry_typeCall ?_
 with_reducible refine check_slot tc_kind tc_split typ (tc_args _ _ _) ?_
 unfold Builtin.«type.__call__»
 have hm : Looks (Mo w) h (mroOf (.ref 228)) cd.mro := ((Looks.ld (part := none) hC).andThen .now).andThen .now
 repeat (first | simp only [e4, Bool.false_eq_true, if_false] | with_reducible refine wpAny_call ?_ | lk)
 refine new_L X ?_
 have k : ∀ b o, h.get? b = some o → ((h.push emptyDict).push (zad h.objs.size [] 0)).get? b = some o := fun b o e => zQ _ (zQ _ e)
 have hx : ((h.push emptyDict).push (zad h.objs.size [] 0)).get? (h.objs.size + 1) = some (zad h.objs.size [] 0) := by heap_get
 have t1 : Looks (Mo w) ((h.push emptyDict).push (zad h.objs.size [] 0)) (typeOf (.ref (h.objs.size + 1))) (.ref 228) := (Looks.ld hx).andThen .now
 have s1 := (looks_mroIn (M := Mo w) X L_sub).keeps k
 have i1 := (looks_findIn (M := Mo w) X L_init).keeps k
 have b1 := (bind165 (M := Mo w) X (.ref (h.objs.size + 1))).keeps k
 unfold isInstance callSpecial? specialOf
 repeat (first | with_reducible refine wpAny_call ?_ | lk)
 refine codeAny_mono hq fun r s' z => ?_
 rcases r with e | (v | _ | _ | _) <;> first | exact z | exact z.elim | skip
 obtain ⟨rfl, z⟩ := z
 exact zP (zP z)
end
section
variable {x C a n : Nat}
theorem c_initAc {v : Value} {R : Result → SP} (G : Gd w uu) (W : Wd uu vv h) (P : Rm A vv 3) (O : Own uu vv h [(a, zad ax [] n), (ax, dictOf [] 0)])
  (hq : ∀ m u h' tk', RetX uu vv [a, ax] h h' → h'.get? a = some (zad ax [] m) → h'.get? ax = some (iniD w u v) → R (.ok (.ret .none)) ⟨h', g, d, tk', os⟩) :
  codeAny (Mo w) A (.call (.ref 165) ⟨[.ref a, v], []⟩) R ⟨h, g, d, tk, os⟩ := by
 refine zkh (binds := [(ofString "self", .ref a), (ofString "initial_size", v)]) G W P O (G.get W.inv (a := 165) rfl) rfl rfl rfl rfl ⟨_, _, _, _, rfl, G.get W.inv (a := 164) rfl, rfl, rfl⟩ rfl (by decide) (zba rfl) ?_ ?_
 ·have hdf := G.get W.inv (a := 157) rfl
  repeat (any_goals (first | exact hdf | assumption | wp_step))
  exact ⟨rfl, rfl⟩
 intro L h₁ tk₁ S0 R
 refine ks_wpAt_execs_cons (ks_wpAt_Assign_Attr (PySem.wpAt_of_wpAny ?_))
 walk_at "All"
 refine o_setL (x := a) (dx := ax) (es := []) (n := 0) (es' := [ent w "_initial_size" (tk₁ + 1) v]) (n' := 1) (rw' := [(a, zad ax [] n), (ax, iniD w (tk₁ + 1) v)]) G S0 (.inr (.head _)) (.tail .head) rfl rfl rfl znk rfl rfl (by simp) ?_
 intro h1 S1
 refine ks_wpAt_execs_cons (ks_wpAt_Expr_any ?_)
 refine zii (a := a) (ax := ax) (vs := []) (n := n) (odb := iniD w (tk₁ + 1) v) (c := 164) G S1 (.inr (.head _)) (.inr (.tail _ (.head _))) (G.get S1.inv (a := 165) rfl) rfl rfl rfl (G.get S1.inv (a := 164) rfl) rfl rfl rfl rfl rfl rfl rfl rfl rfl rfl rfl rfl rfl ?_ rfl
 intro so h2 hso S2
 refine zfv (i := "list.__init__") G S2 hso (.inr (.head _)) (.inr (.tail _ (.head _))) rfl rfl zcl zcr.lookup (fun x ox od A E Q s K I q => get_wd zcl zfq K I q) ?_
 intro b h3 hb S3
 obtain ⟨m, em⟩ := S3.chgSeq (f := fun j => #[]) (us := []) (.head _) rfl
 refine zmt (.inr rfl) hb (zge hb (.inr rfl) F.slot_list_init.plain F.entry_list_init (fun Q A q => zkj q) (zne (S3.getR (.inr (.head _))) rfl (by simp) ⟨_, rfl, ?_⟩))
 have S4 := S3.chgS (rw' := [(a, zad ax [] m), (ax, iniD w (tk₁ + 1) v)]) .head (.update ..) em ac_noT
 refine PySem.wpAt_of_wpAny ?_
 walk_at "All"
 exact hq m _ _ _ S4.retX (S4.getR (.inr (.head _))) (S4.getR (.inr (.tail _ (.head _))))
end
theorem tcall_w (C : Nat) (vs : List Value) : (Code.builtin "type.__call__" ⟨.ref C :: vs, []⟩).weight = 1 := by kernel_rfl
theorem tcall_u (C : Nat) (vs : List Value) : (Code.builtin "type.__call__" ⟨.ref C :: vs, []⟩).cUnits = 1 := by kernel_rfl
theorem Rm.tcall {A : Around} {vv : List Env} {n C : Nat} {vs : List Value} (r : Rm A vv (n + 1)) : Rm (A.under (.builtin "type.__call__" ⟨.ref C :: vs, []⟩)) vv n := by
 refine ⟨?_, r.handled, ?_, ?_⟩
 ·unfold Around.under
  dsimp only
  rw [r.frames]; rfl
 ·show A.depth + _ + n ≤ 900
  rw [tcall_w]; have := r.depth; exact om13 this
 ·show A.units + _ + 20 * n ≤ 9000
  rw [tcall_u]; have := r.units; exact om16 this
section
variable {x C a n : Nat}
theorem UpdW.keeps {h' : Heap} {Y : List Nat} : ∀ {r : LO}, (∀ p ∈ r, p.1 ∉ Y) → UpdW h' Y r r
 | [], _ => .nil
 | p :: r, k => .keep (k p (.head _)) (UpdW.keeps fun q hq => k q (.tail _ hq))
theorem n_newAc {v : Value} {Q : VP} (G : Gd w uu) (S : St uu ww X vv L l ro rw tl h) (hL : env.frame = some L) (hk : env.scope.kind ≠ .module) (P : Rm A (env :: vv) 4)
  (hq : ∀ a ax m u h' tk', St uu ww X vv L l ro ((a, zad ax [] m) :: (ax, iniD w u v) :: rw) tl h' → Q (.ref a) ⟨h', g, d, tk', os⟩) :
  wpAny (Mo w) A (call (.ref 228) [v]) Q E ⟨h, g, d, tk, os⟩ := by
 refine wpAny_call (make_L (G.ks S.inv) ?_)
 have S1 := S.allocW emptyDict rfl (clsNe (by decide))
 have S2 := S1.allocW (zad h.objs.size [] 0) rfl ac_noT
 rw [Heap.size_push] at S2
 have nd := S2.nd
 simp only [List.map_cons, List.nodup_cons] at nd
 refine c_initAc (a := h.objs.size + 1) (ax := h.objs.size) (n := 0) (vv := env :: vv) G (S2.wd hL hk) P.tcall (S2.own (p := [(h.objs.size + 1, zad h.objs.size [] 0), (h.objs.size, dictOf [] 0)]) (.cons_cons _ (.cons_cons _ (zO _))) (by
  intro q hq
  simp only [List.mem_cons, List.not_mem_nil, or_false] at hq
  rcases hq with rfl | rfl
  ·exact ac_noT
  ·exact clsNe (by decide)) hL) ?_
 intro m u h' tk' rr ha hx
 refine ⟨rfl, ?_⟩
 have S3 := S2.backX (rw' := (h.objs.size + 1, zad h.objs.size [] m) :: (h.objs.size, iniD w u v) :: rw) rr hL (fun y hy => by
  simp only [List.mem_cons, List.not_mem_nil, or_false] at hy
  rcases hy with rfl | rfl
  ·exact ⟨_, .head _⟩
  ·exact ⟨_, .tail _ (.head _)⟩) (.chg ha ac_noT (.chg hx zcb (UpdW.keeps fun p hp => ?_)))
 ·exact hq _ _ _ _ _ _ S3
 ·simp only [List.mem_cons, List.not_mem_nil, or_false, not_or]
  refine ⟨fun e => nd.1 (.tail _ ?_), fun e => nd.2.1 ?_⟩
  ·rw [← e]; exact List.mem_map.mpr ⟨p, hp, rfl⟩
  ·rw [← e]; exact List.mem_map.mpr ⟨p, hp, rfl⟩
end
theorem mk_of {w : World} {h : Heap} {dx ta tb tc td te tf u spl ln ac : Nat} {wd : Int} {cws cwl : Value}
  (e : h.get? dx = some (dictOf [ent w "_maxlen" ta (.int wd u), ent w "_continuation_ws" tb cws, ent w "_continuation_ws_len" tc cwl, ent w "_splitchars" td (.str (ofString ".") spl), ent w "_lines" te (.ref ln), ent w "_current_line" tf (.ref ac)] 6)) :
  ∃ M : MkS, M.wd = wd ∧ M.ac = ac ∧ M.ln = ln ∧ h.get? dx = some (mkD w M) :=
 ⟨⟨fun i => ([ta, tb, tc, td, te, tf] : List Nat).getD i 0, wd, u, cws, cwl, spl, ln, ac⟩, rfl, rfl, rfl, e⟩
theorem zde {w : World} : plainOver (KS w) 144 = true := by rfl
section
variable {x C mk a n : Nat}
set_option tactic.hygienic true in
theorem c_initMk {head wd : Int} {t1 t2 t3 t4 : Nat} {R : Result → SP} (G : Gd w uu) (W : Wd uu vv h) (P : Rm A vv 6) (O : Own uu vv h [(dx, dictOf [] 0)]) (r1 : Rd vv h mk (instObj 144 dx)) (hne : mk ≠ dx)
  (hq : ∀ (M : MkS) ax tI uI mA mL h' tk', M.wd = wd → RetX uu vv [dx] h h' → (h.get? M.ac = none ∧ h.get? ax = none ∧ h.get? M.ln = none) → [M.ac, ax, M.ln].Nodup → h'.get? dx = some (mkD w M) → h'.get? M.ac = some (zad ax [] mA) →
   h'.get? ax = some (iniD w tI (.int head uI)) → h'.get? M.ln = some (zaa [] mL) → R (.ok (.ret .none)) ⟨h', g, d, tk', os⟩) :
  codeAny (Mo w) A (.call (.ref 85) ⟨[.ref mk, .int head t1, .int wd t2, .str (ofString " ") t3, .str (ofString ".") t4], []⟩) R ⟨h, g, d, tk, os⟩ := by
 refine zkh (binds := [(ofString "self", .ref mk), (ofString "headerlen", .int head t1), (ofString "maxlen", .int wd t2), (ofString "continuation_ws", .str (ofString " ") t3), (ofString "splitchars", .str (ofString ".") t4)]) G W P O (G.get W.inv (a := 85) rfl) rfl rfl rfl rfl ⟨_, _, _, _, rfl, G.get W.inv (a := 84) rfl, rfl, rfl⟩ rfl (by decide) (zba rfl) (zP ⟨rfl, rfl⟩) ?_
 intro L h₁ tk₁ S0 R
 have S := S0.entry r1.1 r1.2.1 (by simpa using hne) r1.2.2 (fun q hq => by rw [List.mem_singleton.mp hq]; exact hne)
 clear S0
 refine PySem.wpAt_of_wpAny ?_
 with_reducible refine zbd ?_ ?zz
 case zz => rfl
 walk_at "All"
 refine ze6 (x := mk) (dx := dx) (C := 144) (es' := [ent w "_maxlen" _ (.int wd t2)]) (n' := 1) (rw' := [(dx, dictOf ([ent w "_maxlen" _ (.int wd t2)]) 1)]) G S za7 zde (.inl (.head _)) .head rfl rfl rfl rfl rfl rfl (by simp) ?_
 intro h1 S1
 walk_at "All"
 with_reducible refine zbd ?_ ?zz
 case zz => rfl
 walk_at "All"
 refine ze6 (x := mk) (dx := dx) (C := 144) (es' := [ent w "_maxlen" _ (.int wd t2), ent w "_continuation_ws" _ (.str (ofString " ") t3)]) (n' := 2) (rw' := [(dx, dictOf ([ent w "_maxlen" _ (.int wd t2), ent w "_continuation_ws" _ (.str (ofString " ") t3)]) 2)]) G S1 za7 zde (.inl (.head _)) .head rfl rfl rfl rfl rfl rfl (by simp) ?_
 intro h2 S2
 walk_at "All"
 with_reducible refine zbd ?_ ?zz
 case zz => rfl
 walk_at "All"
 refine zb9 (by decide) ?_
 walk_at "All"
 refine ze6 (x := mk) (dx := dx) (C := 144) (es' := [ent w "_maxlen" _ (.int wd t2), ent w "_continuation_ws" _ (.str (ofString " ") t3), ent w "_continuation_ws_len" _ (.int 1 _)]) (n' := 3) (rw' := [(dx, dictOf ([ent w "_maxlen" _ (.int wd t2), ent w "_continuation_ws" _ (.str (ofString " ") t3), ent w "_continuation_ws_len" _ (.int 1 _)]) 3)]) G S2 za7 zde (.inl (.head _)) .head rfl rfl rfl rfl rfl rfl (by simp) ?_
 intro h3 S3
 walk_at "All"
 with_reducible refine zbd ?_ ?zz
 case zz => rfl
 walk_at "All"
 refine ze6 (x := mk) (dx := dx) (C := 144) (es' := [ent w "_maxlen" _ (.int wd t2), ent w "_continuation_ws" _ (.str (ofString " ") t3), ent w "_continuation_ws_len" _ (.int 1 _), ent w "_splitchars" _ (.str (ofString ".") t4)]) (n' := 4) (rw' := [(dx, dictOf ([ent w "_maxlen" _ (.int wd t2), ent w "_continuation_ws" _ (.str (ofString " ") t3), ent w "_continuation_ws_len" _ (.int 1 _), ent w "_splitchars" _ (.str (ofString ".") t4)]) 4)]) G S3 za7 zde (.inl (.head _)) .head rfl rfl rfl rfl rfl rfl (by simp) ?_
 intro h4 S4
 walk_at "All"
 with_reducible refine zbd ?_ ?zz
 case zz => rfl
 walk_at "All"
 rename_i ln hB SB
 refine ze6 (x := mk) (dx := dx) (C := 144) (es' := [ent w "_maxlen" _ (.int wd t2), ent w "_continuation_ws" _ (.str (ofString " ") t3), ent w "_continuation_ws_len" _ (.int 1 _), ent w "_splitchars" _ (.str (ofString ".") t4), ent w "_lines" _ (.ref ln)]) (n' := 5) (rw' := (ln, zaa []) :: [(dx, dictOf ([ent w "_maxlen" _ (.int wd t2), ent w "_continuation_ws" _ (.str (ofString " ") t3), ent w "_continuation_ws_len" _ (.int 1 _), ent w "_splitchars" _ (.str (ofString ".") t4), ent w "_lines" _ (.ref ln)]) 5)]) G SB za7 zde (.inl (.head _)) (.tail .head) rfl rfl rfl rfl rfl rfl (by simp) ?_
 intro h5 S5
 walk_at "All"
 with_reducible refine zbd ?_ ?zz
 case zz => rfl
 walk_at "All"
 refine zeh (by rfl) ?_ rfl
 walk_at "All"
 refine ⟨G.ks S5.inv, ?_⟩
 refine n_newAc G S5 rfl (by intro z; cases z) (R.less (by exact om231)) ?_
 intro ac ax mA uI hA tkA SA
 walk_at "All"
 refine ze6 (x := mk) (dx := dx) (C := 144) (es' := [ent w "_maxlen" _ (.int wd t2), ent w "_continuation_ws" _ (.str (ofString " ") t3), ent w "_continuation_ws_len" _ (.int 1 _), ent w "_splitchars" _ (.str (ofString ".") t4), ent w "_lines" _ (.ref ln), ent w "_current_line" _ (.ref ac)]) (n' := 6) (rw' := (ac, zad ax [] mA) :: (ax, iniD w uI (.int head t1)) :: (ln, zaa []) :: [(dx, dictOf ([ent w "_maxlen" _ (.int wd t2), ent w "_continuation_ws" _ (.str (ofString " ") t3), ent w "_continuation_ws_len" _ (.int 1 _), ent w "_splitchars" _ (.str (ofString ".") t4), ent w "_lines" _ (.ref ln), ent w "_current_line" _ (.ref ac)]) 6)]) G SA za7 zde (.inl (.head _)) (.tail (.tail (.tail .head))) rfl rfl rfl rfl rfl rfl (by simp) ?_
 intro h6 S6
 walk_at "All"
 obtain ⟨M, e1, rfl, rfl, e4⟩ := mk_of (S6.getR (.inr (.tail _ (.tail _ (.tail _ (.head _))))))
 have nd := S6.nd
 simp only [List.map_cons, List.map_nil, List.nodup_cons, List.mem_cons, List.not_mem_nil, or_false, not_or, not_false_eq_true] at nd
 refine hq M ax _ _ _ _ _ _ e1 S6.retX ⟨(S6.newX (.head _) ?_).1, (S6.newX (.tail _ (.head _)) ?_).1, (S6.newX (.tail _ (.tail _ (.head _))) ?_).1⟩ ?_ e4 (S6.getR (.inr (.head _))) (S6.getR (.inr (.tail _ (.head _)))) (S6.getR (.inr (.tail _ (.tail _ (.head _)))))
 ·simpa using nd.1.2.2
 ·simpa using nd.2.1.2
 ·simpa using nd.2.2.1
 ·simp only [List.nodup_cons, List.mem_cons, List.not_mem_nil, or_false, not_or, not_false_eq_true, List.nodup_nil, and_true]
  exact ⟨⟨nd.1.1, nd.1.2.1⟩, nd.2.1.1⟩
end
@[reducible] noncomputable def zsH1 (h : Heap) (i : Nat) : Heap := h.push (zac [.ref i, .ref i])
@[reducible] noncomputable def zsH2 (h : Heap) (i : Nat) : Heap := (zsH1 h i).push (zac [.none, .none])
structure ZApart (z TI TO i l : Nat) : Prop where
 TIz : TI ≠ z
 TOz : TO ≠ z
 iz : i ≠ z
 TITO : TI ≠ TO
 TIi : TI ≠ i
 TOi : TO ≠ i
 lz : l ≠ z
 lTO : l ≠ TO
 li : l ≠ i
section
variable {prog : Program}
theorem zs_item {z TI TO i l : Addr} {k : Nat} {xs : Array Value} {x y a b : Value} {Q : VP} (D : ZApart z TI TO i l)
  (hz : IsZip s.heap z TI TO .none) (hTI : IsPair s.heap TI (.ref i) (.ref i)) (hTO : IsPair s.heap TO a b)
  (h1 : s.heap.IsListIter i l k) (hl : s.heap.IsList l xs) (hx : xs[k]? = some x) (hy : xs[k + 1]? = some y)
  (hQ : ∀ h', IsZip h' z TI TO (rawInt s.heap.objs.size) → IsPair h' TO x y → h'.IsListIter i l (k + 1 + 1) → IsPair h' s.heap.objs.size x y → h'.objs.size = s.heap.objs.size + 1 →
   (∀ c o, c ≠ z → c ≠ TO → c ≠ i → s.heap.get? c = some o → h'.get? c = some o) → Q (.ref s.heap.objs.size) { s with heap := h' }) :
  wpAny (model prog w) A (Builtin.«zip.__next__» ⟨[.ref z], []⟩) (fun fin s' => ∃ v, fin = .done (.ret v) ∧ Q v s') E s := by
 show wpAny _ _ (field (.ref z) 2 >>= _) _ _ _
 refine zB (wpAny_field hz rfl (x := .bool false) rfl ?_)
 show wpAny _ _ (field (.ref z) 3 >>= _) _ _ _
 refine zB (wpAny_field hz rfl (x := .ref TI) rfl ?_)
 refine zB (wpAny_seqItems hTI rfl ?_)
 show wpAny _ _ (Builtin.SmallTypes.ownedTupleIsFree (.ref z) >>= _) _ _ _
 refine zB ?_
 unfold Builtin.SmallTypes.ownedTupleIsFree
 refine zB (wpAny_field hz rfl (x := .none) rfl (zP ?_))
 simp only [if_true]
 refine zB (wpAny_rule ?_)
 refine zB (wpAny_field hz rfl (x := .ref TO) rfl ?_)
 refine zB (wpAny_setField_rec hz (by simp) fun h₁ hz₁ hs₁ => ?_)
 replace hz₁ : IsZip h₁ z TI TO .ellipsis := hz₁
 refine zB ?_
 simp only [List.zipIdx_cons, List.zipIdx_nil, List.forIn_cons, List.forIn_nil]
 refine zB (zB (wpAny_onRaise ?_))
 show wpAny _ _ (Builtin.SmallTypes.nextOf (.ref i) >>= _) _ _ _
 refine zB (wpAny_nextOf_list_item (h1.extBut hs₁.extBut D.iz) (hl.extBut hs₁.extBut D.lz) hx fun h₂ h1₂ hs₂ => zP ?_)
 have hTO₂ : IsPair h₂ TO a b := hs₂.extBut _ _ D.TOi (hs₁.extBut _ _ D.TOz hTO)
 refine zB (wpAny_seqItems hTO₂ rfl ?_)
 refine zB (wpAny_updateSeq_pair hTO₂ fun h₃ hTO₃ hs₃ => ?_)
 replace hTO₃ : IsPair h₃ TO x b := hTO₃
 refine zB (wpAny_letGo (zP ?_))
 refine zB (zB (wpAny_onRaise ?_))
 show wpAny _ _ (Builtin.SmallTypes.nextOf (.ref i) >>= _) _ _ _
 refine zB (wpAny_nextOf_list_item (h1₂.extBut hs₃.extBut D.TOi.symm)
  (((hl.extBut hs₁.extBut D.lz).extBut hs₂.extBut D.li).extBut hs₃.extBut D.lTO) hy fun h₄ h2₄ hs₄ => zP ?_)
 have hTO₄ : IsPair h₄ TO x b := hs₄.extBut _ _ D.TOi hTO₃
 refine zB (wpAny_seqItems hTO₄ rfl ?_)
 refine zB (wpAny_updateSeq_pair hTO₄ fun h₅ hTO₅ hs₅ => ?_)
 replace hTO₅ : IsPair h₅ TO x y := hTO₅
 refine zB (wpAny_letGo (zP (zP ?_)))
 refine zB (wpAny_seqItems hTO₅ rfl ?_)
 refine zB (wpAny_newTuple ?_)
 have hsz : h₅.objs.size = s.heap.objs.size := by rw [hs₅.1, hs₄.1, hs₃.1, hs₂.1, hs₁.1]
 have hz₅ : IsZip h₅ z TI TO .ellipsis := hs₅.extBut _ _ D.TOz.symm (hs₄.extBut _ _ D.iz.symm (hs₃.extBut _ _ D.TOz.symm (hs₂.extBut _ _ D.iz.symm hz₁)))
 have hk₅ : ∀ c o, c ≠ z → c ≠ TO → c ≠ i → s.heap.get? c = some o → h₅.get? c = some o := fun c o c1 c2 c3 e =>
  hs₅.extBut _ _ c2 (hs₄.extBut _ _ c3 (hs₃.extBut _ _ c2 (hs₂.extBut _ _ c3 (hs₁.extBut _ _ c1 e))))
 have h1₅ : h₅.IsListIter i l (k + 1 + 1) := h2₄.extBut hs₅.extBut D.TOi.symm
 have hzlt : z < h₅.objs.size := Heap.lt_size hz₅
 show wpAny _ _ (Builtin.SmallTypes.ownedTupleHandOut (.ref z) (.ref h₅.objs.size) >>= _) _ _ _
 refine zB ?_
 unfold Builtin.SmallTypes.ownedTupleHandOut
 have hz₆ : IsZip (h₅.push { cls := .type "tuple", data := .seq #[x, y] }) z TI TO .ellipsis := zQ _ hz₅
 refine zB (wpAny_setField_rec hz₆ (by simp) fun h₇ hz₇ hs₇ => ?_)
 replace hz₇ : IsZip h₇ z TI TO (rawInt h₅.objs.size) := hz₇
 refine wpAny_setField_rec hz₇ (by simp) fun h₈ hz₈ hs₈ => ?_
 replace hz₈ : IsZip h₈ z TI TO (rawInt h₅.objs.size) := hz₈
 have up : ∀ c o, c ≠ z → h₅.get? c = some o → h₈.get? c = some o := fun c o c1 e => hs₈.extBut _ _ c1 (hs₇.extBut _ _ c1 (zQ _ e))
 have hT₈ : IsPair h₈ h₅.objs.size x y := hs₈.extBut _ _ (Nat.ne_of_gt hzlt) (hs₇.extBut _ _ (Nat.ne_of_gt hzlt) (zL _ rfl))
 have hz8 : h₈.objs.size = h₅.objs.size + 1 := by rw [hs₈.1, hs₇.1, Heap.size_push]
 rw [hsz] at hz₈ hT₈ hz8
 refine zP ⟨_, rfl, ?_⟩
 show Q (.ref h₅.objs.size) _
 rw [hsz]
 exact hQ h₈ hz₈ (up _ _ D.TOz hTO₅) (h1₅.at fun o e => up _ o D.iz e) hT₈ hz8 fun c o c1 c2 c3 e => up c o c1 (hk₅ c o c1 c2 c3 e)
theorem zs_end {z TI TO i l : Addr} {k : Nat} {xs : Array Value} {a b : Value} {Q : PySem.Fin → SP} (hh : A.handled = none) (D : ZApart z TI TO i l)
  (hz : IsZip s.heap z TI TO .none) (hTI : IsPair s.heap TI (.ref i) (.ref i)) (hTO : IsPair s.heap TO a b)
  (h1 : s.heap.IsListIter i l k) (hl : s.heap.IsList l xs) (hx : xs[k]? = none)
  (hE : ∀ h' e, (∀ c o, c ≠ z → c ≠ TO → c ≠ i → s.heap.get? c = some o → h'.get? c = some o) → (∃ o, h'.get? e = some o ∧ o.cls = .type "StopIteration") → E (.ref e) { s with heap := h' }) :
  wpAny (model prog w) A (Builtin.«zip.__next__» ⟨[.ref z], []⟩) Q E s := by
 show wpAny _ _ (field (.ref z) 2 >>= _) _ _ _
 refine zB (wpAny_field hz rfl (x := .bool false) rfl ?_)
 show wpAny _ _ (field (.ref z) 3 >>= _) _ _ _
 refine zB (wpAny_field hz rfl (x := .ref TI) rfl ?_)
 refine zB (wpAny_seqItems hTI rfl ?_)
 show wpAny _ _ (Builtin.SmallTypes.ownedTupleIsFree (.ref z) >>= _) _ _ _
 refine zB ?_
 unfold Builtin.SmallTypes.ownedTupleIsFree
 refine zB (wpAny_field hz rfl (x := .none) rfl (zP ?_))
 simp only [if_true]
 refine zB (wpAny_rule ?_)
 refine zB (wpAny_field hz rfl (x := .ref TO) rfl ?_)
 refine zB (wpAny_setField_rec hz (by simp) fun h₁ hz₁ hs₁ => ?_)
 replace hz₁ : IsZip h₁ z TI TO .ellipsis := hz₁
 refine zB ?_
 simp only [List.zipIdx_cons, List.zipIdx_nil, List.forIn_cons, List.forIn_nil]
 refine zB (zB (wpAny_onRaise ?_))
 show wpAny _ _ (Builtin.SmallTypes.nextOf (.ref i) >>= _) _ _ _
 refine zB (wpAny_nextOf_list_end hh (h1.extBut hs₁.extBut D.iz) (hl.extBut hs₁.extBut D.lz) hx fun h₂ e hs₂ he => ?_)
 obtain ⟨oe, hoe, hce⟩ := he
 have hz₂ : IsZip h₂ z TI TO .ellipsis := hs₂ _ _ D.iz.symm hz₁
 have hez : e ≠ z := fun x => by subst x; rw [hz₂] at hoe; cases hoe; simp at hce
 refine wpAny_setField_rec hz₂ (by simp) fun h₃ j hs₃ => hE h₃ e (fun c o c1 j c3 x => hs₃.extBut _ _ c1 (hs₂ _ _ c3 (hs₁.extBut _ _ c1 x))) ⟨oe, hs₃.extBut _ _ hez hoe, hce⟩
theorem zs_next {z TI TO i l : Addr} {k : Nat} {xs : Array Value} {x y a b : Value} {Q : Option Value → SP} (D : ZApart z TI TO i l)
  (hz : IsZip s.heap z TI TO .none) (hTI : IsPair s.heap TI (.ref i) (.ref i)) (hTO : IsPair s.heap TO a b)
  (h1 : s.heap.IsListIter i l k) (hl : s.heap.IsList l xs) (hx : xs[k]? = some x) (hy : xs[k + 1]? = some y)
  (hQ : ∀ h', IsZip h' z TI TO (rawInt s.heap.objs.size) → IsPair h' TO x y → h'.IsListIter i l (k + 1 + 1) → IsPair h' s.heap.objs.size x y → h'.objs.size = s.heap.objs.size + 1 →
   (∀ c o, c ≠ z → c ≠ TO → c ≠ i → s.heap.get? c = some o → h'.get? c = some o) → Q (some (.ref s.heap.objs.size)) { s with heap := h' }) :
  wpAny (model prog w) A (pyNext (.ref z)) Q E s := by
 have hT : s.TypeIs (.ref z) "zip" := ⟨_, hz, rfl⟩
 unfold pyNext
 exact zB (wpAny_attempt (wpAny_callSpecial?_slot (name := ofString "__next__") hT F.slot_zip_next
  (wpAny_call_entry F.slot_zip_next hT F.entry_zip_next
   (zs_item D hz hTI hTO h1 hl hx hy fun h' a1 a2 a3 a5 a6 a7 => zP (hQ h' a1 a2 a3 a5 a6 a7)) (F.args_zip_next_1 _))))
theorem zs_stop {z TI TO i l : Addr} {k : Nat} {xs : Array Value} {a b : Value} {Q : Option Value → SP} (hh : A.handled = none) (D : ZApart z TI TO i l)
  (hz : IsZip s.heap z TI TO .none) (hTI : IsPair s.heap TI (.ref i) (.ref i)) (hTO : IsPair s.heap TO a b)
  (h1 : s.heap.IsListIter i l k) (hl : s.heap.IsList l xs) (hx : xs[k]? = none)
  (hQ : ∀ h', (∀ c o, c ≠ z → c ≠ TO → c ≠ i → s.heap.get? c = some o → h'.get? c = some o) → Q none { s with heap := h' }) : wpAny (model prog w) A (pyNext (.ref z)) Q E s := by
 have hT : s.TypeIs (.ref z) "zip" := ⟨_, hz, rfl⟩
 unfold pyNext
 refine zB (wpAny_attempt (wpAny_callSpecial?_slot (name := ofString "__next__") hT F.slot_zip_next
  (wpAny_call_entry F.slot_zip_next hT F.entry_zip_next (zs_end hh D hz hTI hTO h1 hl hx fun h' e hk he => ?_) (F.args_zip_next_1 _))))
 obtain ⟨o, ho, hc⟩ := he
 refine zB (wpAny_isInstance (T := "StopIteration") (b := true) ⟨o, ho, hc⟩ isSubtype_stop ?_)
 exact zP (hQ _ hk)
theorem zer (i l : Addr) (k : Nat) :
  Meets (Builtin.«zip.__new__» ⟨[.type "zip", .ref i, .ref i], []⟩) (fun j R s => s.heap.IsListIter i l k ∧
   R (.ok (.ret (.ref (zsH2 s.heap i).objs.size))) { s with heap := (zsH2 s.heap i).push (zb7 .none s.heap.objs.size (zsH1 s.heap i).objs.size) }) :=
 .of_wp fun prog w A R s h => by
  obtain ⟨hp, g, d, tk, os⟩ := s; obtain ⟨hl1, h⟩ := h
  have hsub := sub_zip
  have hL1 : Heap.IsListIter (Shared.heap ⟨hp, g, d, tk, os⟩) i l k := hl1
  wp_walk using wpAny_pyIter_listiter hL1
  exact ⟨_, rfl, h⟩
end
section
theorem n_zipS {la it : Nat} {io : Obj} {Q : VP} (S : St uu ww X vv L l ro rw tl h) (hit : (it, io) ∈ rw) (hio : IsIt la 0 io)
  (hq : ∀ z TI TO h', St uu ww X vv L l ((TI, zac [.ref it, .ref it]) :: ro) ((z, zb7 .none TI TO) :: (TO, zac [.none, .none]) :: rw) tl h' → Q (.ref z) ⟨h', g, d, tk, os⟩) :
  wpAny (Mo w) A (call (.type "zip") [.ref it, .ref it]) Q E ⟨h, g, d, tk, os⟩ := by
 refine callType_new F.called_zip (by decide) (F.typeCall_zip_2 _ _) (F.newCall_zip_2 _ _) (fun obj => F.args_object_init_3 obj _ _) F.entry_zip_new
  (zer it la 0) ⟨⟨_, S.getR (.inr hit), hio.1, hio.2⟩, ⟨_, zL _ rfl, rfl⟩, ?_⟩
 have S1 := S.allocR (zac [.ref it, .ref it]) rfl
 have S2 := S1.addW (h' := zsH2 h it) (a := (zsH1 h it).objs.size) (o := zac [.none, .none]) (fun j j e => zQ _ e) getN (zL _ rfl) (.inr (S1.offNew getN))
 have S3 := S2.allocW (zb7 .none h.objs.size (zsH1 h it).objs.size) rfl (clsNe (by decide))
 exact hq _ _ _ _ S3
@[reducible] noncomputable def zsL (z TI TO it : Nat) (a b : Value) (o : Obj) : LO := [(z, zb7 .none TI TO), (TO, zac [a, b]), (it, o)]
theorem nmem3 {α : Type} {b z1 z2 z3 : α} (h : b ∉ [z1, z2, z3]) : b ≠ z1 ∧ b ≠ z2 ∧ b ≠ z3 := ⟨fun e => h (e ▸ .head _), fun e => h (e ▸ .tail _ (.head _)), fun e => h (e ▸ .tail _ (.tail _ (.head _)))⟩
theorem itr_zipS {la n z TI TO it m : Nat} {xs : List Value} {elts : List Expr} {k : Nat} {tp : Pos} (h1 : (la, zaa xs n) ∈ ro) (hTI : (TI, zac [.ref it, .ref it]) ∈ ro) (hX : ∀ c ∈ [z, TO, it], c ∉ X) (hm : xs.length = 2 * m) :
  Itr w uu ww X vv ro (.Tuple elts k tp) (.ref z) m (fun i its => ∃ a b o, its = zsL z TI TO it a b o ∧ IsIt la (2 * i) o)
   (fun i v new => ∃ T x y, v = .ref T ∧ new = [(T, zac [x, y])] ∧ xs[2 * i]? = some x ∧ xs[2 * i + 1]? = some y) := by
 have apart : ∀ {L l rw tl h a b o}, St uu ww X vv L l ro (zsL z TI TO it a b o ++ rw) tl h → ZApart z TI TO it la := by
  intro L l rw tl h a b o S
  have n1 := List.pairwise_cons.mp (show List.Pairwise (· ≠ ·) (z :: TO :: it :: rw.map (·.1)) from S.nd)
  have n2 := List.pairwise_cons.mp n1.2
  have m0 := S.sep _ hTI
  have m1 := S.sep _ h1
  have k1 : (z, zb7 .none TI TO) ∈ zsL z TI TO it a b o ++ rw := .head _
  have k2 : (TO, zac [a, b]) ∈ zsL z TI TO it a b o ++ rw := .tail _ (.head _)
  have k3 : (it, o) ∈ zsL z TI TO it a b o ++ rw := .tail _ (.tail _ (.head _))
  exact ⟨m0 _ k1, (n1.1 _ (.head _)).symm, (n1.1 _ (.tail _ (.head _))).symm, m0 _ k2, m0 _ k3, n2.1 _ (.head _), m1 _ k1, m1 _ k2, m1 _ k3⟩
 refine ⟨⟨?_, ?_⟩, ?_⟩
 ·rintro A E Q L l rw tl h g d tk os i _ S ⟨a, b, o, rfl, hi1⟩ hlt hq
  have D := apart S
  have k1 := S.hrw _ (.head _)
  have k2 := S.hrw _ (.tail _ (.head _))
  have k3 := S.hrw _ (.tail _ (.tail _ (.head _)))
  have hl1 := om272 hm hlt
  have hl2 := om273 hm hlt
  have hx : xs[2 * i]? = some (xs[2 * i]'hl1) := zI _
  have hy : xs[2 * i + 1]? = some (xs[2 * i + 1]'hl2) := zI _
  refine zs_next D k1.1 (S.hro _ hTI).1 k2.1 ⟨_, k3.1, hi1.1, hi1.2⟩ (S.isList (.inl h1)) (x := xs[2 * i]'hl1) (y := xs[2 * i + 1]'hl2) (by rw [List.getElem?_toArray]; exact hx) (by rw [List.getElem?_toArray]; exact hy) fun h' a1 a2 a3 a5 a6 hk => ?_
  refine ⟨_, rfl, wpAny_letOwnedTupleGo_zip a1 fun h'' a1' hs => ?_⟩
  obtain ⟨o1', e1, f1, f1'⟩ := a3
  have up : ∀ (b : Nat) o, h'.get? b = some o → b ≠ z → h''.get? b = some o := fun b o e hb => (hs.2 b hb).trans e
  have zl : z < h.objs.size := ltS k1.1
  have hs0 : ((zsL z TI TO it (xs[2 * i]'hl1) (xs[2 * i + 1]'hl2) o1').map (·.1)).Sublist ((zsL z TI TO it a b o).map (·.1)) := List.Sublist.refl [z, TO, it]
  refine hq _ _ _ h'' tk ⟨_, _, _, rfl, rfl, hx, hy⟩ ⟨_, _, o1', rfl, ⟨f1, f1'⟩⟩ (S.addNew (S.front hX (fun b o e hb => have n := nmem3 hb; up _ _ (hk _ _ n.1 n.2.1 n.2.2 e) n.1) hs0 ?_) getN (up _ _ a5 (Nat.ne_of_gt zl)) fun q hq => zfw hs0 hq)
  exact List.forall_mem_cons.mpr ⟨⟨a1', .inl (clsNe (by decide))⟩, List.forall_mem_cons.mpr ⟨⟨up _ _ a2 D.TOz, .inr ⟨_, .tail _ (.head _), rfl⟩⟩, List.forall_mem_singleton.mpr ⟨up _ _ e1 D.iz, .inl (f1 ▸ clsNe (by decide))⟩⟩⟩
 ·rintro A E Q L l rw tl h g d tk os _ hh S ⟨a, b, o, rfl, hi1⟩ hq
  have D := apart S
  have k1 := S.hrw _ (.head _)
  have k2 := S.hrw _ (.tail _ (.head _))
  have k3 := S.hrw _ (.tail _ (.tail _ (.head _)))
  refine zs_stop hh D k1.1 (S.hro _ hTI).1 k2.1 ⟨_, k3.1, hi1.1, hi1.2⟩ (S.isList (.inl h1)) (by simp [hm]) fun h' hk => hq h' (S.front (its' := []) hX (fun b o e hb => have n := nmem3 hb; hk _ _ n.1 n.2.1 n.2.2 e) (zO _) fun j z => nomatch z)
 ·rintro A E Q L l rw tl h g d tk os i _ S ⟨a, b, o, rfl, hi1⟩ hq
  exact wpAny_pyIter_zip (S.hrw _ (.head _)).1 hq
end
theorem zka {f : Array Value → Array Value} {vs us : List Value} {n : Nat} (e : f vs.toArray = us.toArray) : ∃ m, Obj.mapSeq f (zaa vs n) = zaa us m := by
 refine ⟨if (f vs.toArray).size == vs.toArray.size then n else n + 1, ?_⟩
 simp only [Obj.mapSeq, zaa]
 rw [e]
section
variable {x C mk a n : Nat} {M : MkS}
theorem o_iterB {a n : Nat} {vs : List Value} {Q : VP} (S : St uu ww X vv L l ro rw tl h) (hm : (a, zaa vs n) ∈ ro ∨ (a, zaa vs n) ∈ rw)
  (hq : ∀ it h' io, IsIt a 0 io → it ≠ a → h.get? it = none → St uu ww X vv L l ro ((it, io) :: rw) tl h' → Q (.ref it) ⟨h', g, d, tk, os⟩) : wpAny (Mo w) A (call (.builtin "iter") [.ref a]) Q E ⟨h, g, d, tk, os⟩ := by
 refine call_function_entry (by decide +kernel) (by decide +kernel) kdk_entry_iter (kdk_args_iter _) ?_
 refine zB (m := someArgs "iter" 1 2 _) (wpAny_of_eq (a := [Value.ref a]) (by first | rfl | kernel_rfl!) ?_)
 refine zB (zea S hm fun it h' io b1 b2 b3 S' => ?_)
 exact zP ⟨_, rfl, hq it h' io b1 b2 b3 S'⟩
theorem o_mul2 {l n u : Nat} {v : Value} {Q : VP} {ls : LS} (S : St uu ww X vv L ls ro rw tl h) (hl : h.get? l = some (zaa [v] n))
  (hq : ∀ b h', h'.get? b = some (zaa [v, v]) → St uu ww X vv L ls ro rw tl h' → Q (.ref b) ⟨h', g, d, tk, os⟩) : wpAny (Mo w) A (binaryOp .Mult (.ref l) (.int 2 u)) Q E ⟨h, g, d, tk, os⟩ := by
 have TI : ∀ s : Shared, s.TypeIs (.int 2 u) "int" := fun s => typeIs_int s 2 u
 refine wpAny_binaryOp_repeat_ref (T := "list") (U := "int") (by decide) ⟨_, hl, rfl⟩ TI noFill_list_mul F.fills_int_mul F.slot_int_rmul repeat_list F.slot_int_index.lookup
  (call_meets F.slot_int_rmul (TI _) F.entry_int_rmul (F.args_int_rmul_2 _ _) (lm_int_rmul_list_any 2 u l [v].toArray n none #[])
   ⟨hl, rfl, ⟨_, hl, rfl⟩, call_meets F.slot_list_mul ⟨_, hl, rfl⟩ F.entry_list_mul (F.args_list_mul_2 _ _)
    (lm_list_mul_any l [v].toArray n none #[] 2 u (by decide) (by simp) (by simp [Builtin.List.listTooLong, sizeLine]))
    ⟨hl, ?_⟩⟩)
 exact hq _ _ (zL _ rfl) (S.push _)
theorem cw_starT {T : String} {e : Expr} {sp : Pos} {Q : VP}
  (he : wpAny (Mo w) A (eval e env) (fun v s₁ => ∃ b n ws h' tk', v = .ref b ∧ s₁ = ⟨h', g, d, tk', os⟩ ∧ h'.get? b = some (zaa ws n) ∧ ws.length ≤ 1000 ∧ ∀ h'', (∀ (b : Nat) o, h'.get? b = some o → h''.get? b = some o) → wpAny (Mo w) A (call (.type T) ws) Q E ⟨h'', g, d, tk', os⟩) E s)
  (hs : starEach [.Starred e sp] env = [(true, eval e env)]) : wpAny (Mo w) A (callWith pos (.type T) [] (backTo pos (starEach [.Starred e sp] env)) []) Q E s := by
 refine ks_call (P := fun j => True) rfl (fun h' j => ⟨.machine, .inr (.inl rfl), fun A Q E s k q => zP q⟩) (ks_lone (zM he (fun v s₁ q => ?_) fun j j z => z))
 obtain ⟨b, n, ws, h', tk', rfl, rfl, hb, hz, q⟩ := q
 have hTT : (⟨h', g, d, tk', os⟩ : Shared).TypeIs (.ref b) "list" := ⟨_, hb, rfl⟩
 refine zB (wpAny_specialOf hTT PySem.F.slot_list_iter.lookup (zP ⟨rfl, ?_⟩))
 refine wpAny_collect_seq b (.inl rfl) hb rfl rfl (fun h' hk => ?_) (by have : sizeLine = 16777216 := rfl; simp; exact om222 hz)
 exact ⟨trivial, q h' hk⟩
theorem o_front {b sl m : Nat} {us : List Value} {vl vu : Value} {Q : Unit → SP} {rw' : Nat → LO} (S : St uu ww X vv L l ro rw tl h) (hl : ∀ m, Led rw a (zaa vs n) (zaa (us ++ vs) m) (rw' m))
  (hb : h.get? b = some (zaa us m)) (hab : a ≠ b) (hsl : h.IsSliceOf sl vl vu .none) (pl : IsPart vl none) (pu : IsPart vu (some 0)) (hs : vs.length + us.length ≤ 1000000)
  (hq : ∀ m h', St uu ww X vv L l ro (rw' m) tl h' → Q () ⟨h', g, d, tk, os⟩) :
  wpAny (Mo w) A (setItem (.ref a) (.ref sl) (.ref b)) Q E ⟨h, g, d, tk, os⟩ := by
 have ha := S.getR (.inr (hl 0).mem)
 have hT : (⟨h, g, d, tk, os⟩ : Shared).TypeIs (.ref a) "list" := ⟨_, ha, rfl⟩
 have e0 : kms_lo none vs.toArray.size = 0 := rfl
 have e1 : kms_hi (some 0) vs.toArray.size = 0 := by unfold kms_hi; dsimp only; simp
 have e : (fun xs' : Array Value => xs'.extract 0 (kms_lo none vs.toArray.size) ++ us.toArray ++ xs'.extract (max (kms_lo none vs.toArray.size) (kms_hi (some 0) vs.toArray.size)) xs'.size) vs.toArray = (us ++ vs).toArray := by
  rw [e0, e1]; simp
 refine wpAny_holding ?_
 refine zB (wpAny_sequenceKey hT (by decide) ?_)
 refine zB (wpAny_callSpecial?_slot (name := ofString "__setitem__") hT slot_list_setitem
  (wpAny_call_entry slot_list_setitem hT entry_list_setitem ?_ (args_list_setitem _ _ _)))
 refine zfd (lo := none) (hi := some 0) ha rfl hb hsl pl pu (by simp; exact om5 hs) hab ?_ ⟨_, rfl, ?_⟩
 ·have := congrArg Array.size e
  dsimp only at this
  rw [this]; simp; exact om275 hs
 ·obtain ⟨m', em⟩ := zka (f := fun xs' : Array Value => xs'.extract 0 (kms_lo none vs.toArray.size) ++ us.toArray ++ xs'.extract (max (kms_lo none vs.toArray.size) (kms_hi (some 0) vs.toArray.size)) xs'.size) (vs := vs) (us := us ++ vs) (n := n) e
  refine zP (hq m' _ (S.chgS (hl m') (.update ..) ?_ zfy))
  rw [← em]; exact Heap.get?_update_self _ ha (by rw [em]; rfl)
end
noncomputable def zdq (qs : List (Str × Str)) : List Str := qs.flatMap fun q => [q.1, q.2]
noncomputable def zaw (wd : Int) (s : ChS) (qs : List (Str × Str)) : ChS := qs.foldl (fun s q => zb6 wd q s) s
structure OkQ (qs : List (Str × Str)) : Prop where
 len : qs.length ≤ 20
 small : ∀ q ∈ qs, plen q ≤ 300
 ok : ∀ q ∈ qs, PyData.strOk q.1 = true ∧ PyData.strOk q.2 = true
 dots : ∀ q ∈ qs.dropLast, zdn q.2
structure FoldInv (k0 : Int) (qs : List (Str × Str)) (i : Nat) (s : ChS) : Prop where
 l1 : s.ls.length ≤ i
 l2 : s.ps.length ≤ i
 k : s.k = k0 ∨ s.k = 0
 line : ∀ y ∈ s.ls, y.length ≤ 6020
 mem : ∀ p ∈ s.ps, plen p ≤ 301 ∧ ∃ q ∈ qs.take i, p.2 = q.2
theorem zdi {wd : Int} {s : ChS} {qs : List (Str × Str)} {q : Str × Str} : zaw wd s (qs ++ [q]) = zb6 wd q (zaw wd s qs) := by
 unfold zaw; rw [List.foldl_append]; rfl
theorem zcy {α : Type} {qs : List α} {i : Nat} {q : α} (h : qs[i]? = some q) : qs.take (i + 1) = qs.take i ++ [q] := by
 rw [List.take_add_one, h]; rfl
theorem FoldInv.init {k0 : Int} {qs : List (Str × Str)} : FoldInv k0 qs 0 ⟨[], [], k0⟩ := ⟨Ze _, Ze _, .inl rfl, fun p hp => (nomatch hp), fun p hp => (nomatch hp)⟩
theorem zgy (ps : List (Str × Str)) : (zar ps).length ≤ plens ps := by
 have := StrLaws.join_length_le (ofString "") (ps.map pcat)
 have e : (ofString "").length = 0 := rfl
 have h := zd5 ps
 unfold zar
 rw [show Txt.join (ofString "") (ps.map pcat) = Str.join (ofString "") (ps.map pcat) from StrLaws.glued_eq_join _ _]
 exact om276 this h
theorem zgz {B : Nat} : ∀ {ps : List (Str × Str)}, (∀ p ∈ ps, plen p ≤ B) → plens ps ≤ ps.length * B
 | [], _ => by simp [plens]
 | p :: r, h => by
  have h1 := h p (.head _)
  have h2 := zgz (B := B) (ps := r) fun q hq => h q (.tail _ hq)
  have e : plens (p :: r) = plen p + plens r := by simp [plens]
  have : (r.length + 1) * B = r.length * B + B := by rw [Nat.succ_mul]
  rw [e, List.length_cons, this]; exact om277 h1 h2
theorem FoldInv.step {wd k0 : Int} {qs : List (Str × Str)} {i : Nat} {s : ChS} {q : Str × Str} (O : OkQ qs) (F : FoldInv k0 qs i s) (h : qs[i]? = some q) : FoldInv k0 qs (i + 1) (zb6 wd q s) := by
 have hq := O.small q (zR h)
 have hm : q ∈ qs.take (i + 1) := by rw [zcy h]; simp
 have mono : ∀ p ∈ s.ps, plen p ≤ 301 ∧ ∃ q ∈ qs.take (i + 1), p.2 = q.2 := by
  intro p hp
  obtain ⟨a, q', b, c⟩ := F.mem p hp
  exact ⟨a, q', by rw [zcy h]; exact List.mem_append_left _ b, c⟩
 have one : ∀ p ∈ [q], plen p ≤ 301 ∧ ∃ q ∈ qs.take (i + 1), p.2 = q.2 := by
  intro p hp
  rw [zS hp]
  exact ⟨by exact om278 hq, q, hm, rfl⟩
 have a1 := F.l1
 have a2 := F.l2
 have hlt : i < qs.length := (List.getElem?_eq_some_iff.mp h).1
 have hlen := O.len
 have hl : (zar s.ps).length ≤ 6020 := by
  have b1 := zgy s.ps
  have b2 := zgz (B := 301) (ps := s.ps) fun p hp => (F.mem p hp).1
  exact om279 a2 hlt hlen b1 b2
 have hl0 : (zar [zc5]).length ≤ 6020 := by decide +kernel
 have lines : ∀ x : Str, x.length ≤ 6020 → ∀ y ∈ s.ls ++ [x], y.length ≤ 6020 := by
  intro x hx y hy
  rcases zD hy with hy | hy
  ·exact F.line y hy
  ·rw [zS hy]; exact hx
 unfold zb6
 split
 ·refine ⟨by dsimp only; exact zlh a1, by simp; exact om50 a2, F.k, F.line, ?_⟩
  intro p hp
  rcases zD hp with hp | hp
  ·exact mono p hp
  ·exact one p hp
 ·split
  ·split
   ·refine ⟨by simp; exact om50 a1, by simp, .inr rfl, lines _ hl0, ?_⟩
    intro p hp
    rw [zS hp]
    refine ⟨?_, q, hm, rfl⟩
    unfold plen at hq ⊢
    dsimp only
    split
    ·rw [show (ofString " ").length = 1 from by decide +kernel]; exact om280 hq
    ·exact om281 hq
   ·exact ⟨by dsimp only; exact zlh a1, by simp, F.k, F.line, one⟩
  ·exact ⟨by simp; exact om50 a1, by simp, .inr rfl, lines _ hl, one⟩
theorem FoldInv.ready {k0 : Int} {qs : List (Str × Str)} {i : Nat} {s : ChS} {q : Str × Str} (O : OkQ qs) (F : FoldInv k0 qs i s) (h : qs[i]? = some q) (hk : 0 ≤ k0 ∧ k0 ≤ 1000) :
  s.ls.length ≤ 900 ∧ (0 ≤ s.k ∧ s.k ≤ 1000) ∧ zb5 (s.ps ++ [q]) ∧ (PyData.strOk q.1 = true ∧ PyData.strOk q.2 = true) ∧ ∀ p ∈ s.ps, zdn p.2 := by
 have hlt : i < qs.length := (List.getElem?_eq_some_iff.mp h).1
 have hl := O.len
 have a1 := F.l1
 have a2 := F.l2
 have hq := O.small q (zR h)
 refine ⟨by exact om282 hlt hl a1, ?_, ⟨by simp; exact om283 hlt hl a2, ?_⟩, O.ok q (zR h), ?_⟩
 ·rcases F.k with e | e <;> (first | exact om284 hk e | exact om285 e)
 ·intro p hp
  rcases zD hp with hp | hp
  ·have := (F.mem p hp).1; exact om286 this
  ·rw [zS hp]; exact om287 hq
 ·intro p hp
  obtain ⟨_, q', hq', e⟩ := F.mem p hp
  rw [e]
  refine O.dots q' ?_
  rw [List.dropLast_eq_take]
  exact List.take_subset_take_left _ (by exact om288 hlt) hq'
section
theorem St.setTlO (S : St uu ww X vv L l ro rw tl h) {tl' : LT} (hr : ∀ p ∈ rw, p.2.cls = .type "tuple" → Off tl' p.1) (t : ∀ t ∈ tl', Tps h t.1 t.2) : St uu ww X vv L l ro rw tl' h :=
 S.setTlG (fun p hp => by
  by_cases e : p.2.cls = .type "tuple"
  ·exact .inr ⟨hr p hp e, ((S.hrw p hp).2.2.2.2.2.resolve_left fun z => z e).2⟩
  ·exact .inl e) t
theorem flatQ_at {qs : List (Str × Str)} : ∀ {i : Nat} {q : Str × Str}, qs[i]? = some q → (zdq qs)[2 * i]? = some q.1 ∧ (zdq qs)[2 * i + 1]? = some q.2 := by
 induction qs with
 | nil => intro i q h; simp at h
 | cons p r ih =>
  intro i q h
  have e : zdq (p :: r) = p.1 :: p.2 :: zdq r := rfl
  cases i with
  | zero =>
   simp at h
   subst h
   exact ⟨rfl, rfl⟩
  | succ j =>
   have h' : r[j]? = some q := h
   obtain ⟨a, b⟩ := ih h'
   exact ⟨by rw [show 2 * (j + 1) = 2 * j + 1 + 1 from by exact om274]; exact a, by rw [show 2 * (j + 1) + 1 = 2 * j + 1 + 1 + 1 from by exact om289]; exact b⟩
theorem zmf {qs : List (Str × Str)} : (zdq qs).length = 2 * qs.length := by
 induction qs with
 | nil => rfl
 | cons p r ih =>
  have e : zdq (p :: r) = p.1 :: p.2 :: zdq r := rfl
  rw [e, List.length_cons, List.length_cons, List.length_cons, ih]; exact om290
theorem St.toRo {p : Nat × Obj} (S : St uu ww X vv L l ro (p :: rw) tl h) : St uu ww X vv L l (p :: ro) rw tl h := by
 obtain ⟨a1, a2, a3, a4, _⟩ := S.hrw p (.head _)
 refine ⟨S.inv, S.fr, S.keep, S.above, S.low, S.based, S.ns, ?_, fun q hq => S.hrw q (.tail _ hq), (List.nodup_cons.mp (by have := S.nd; rwa [Zi] at this)).2, ?_, S.htl⟩
 ·intro q hq
  rcases zC hq with rfl | hq
  ·refine ⟨a1, a2, a3, fun ht => ?_⟩
   obtain ⟨o, e⟩ := S.inv.tabLow ht
   rw [a4] at e; cases e
  ·exact S.hro q hq
 ·intro q hq r hr
  rcases zC hq with rfl | hq
  ·intro e
   have := S.nd
   rw [Zi, List.nodup_cons] at this
   exact this.1 (e ▸ List.mem_map.mpr ⟨r, hr, rfl⟩)
  ·exact S.sep q hq r (.tail _ hr)
end
def KPat (w : World) (A : Around) (E : VP) (env : Env) (pos : Pos) (args : List Expr) (Q : VP) (ov : Value) (s : Shared) : Prop := ∃ (a T : Nat) (p0 p1 : Value), ov = .ref a ∧ s.heap.get? a = some (zd6 p0 p1 T) ∧ wpAny (Mo w) A (callWith pos (.builtin "re.Pattern.split") [ov] (backTo pos (starEach args env)) []) Q E s
def KStT (w : World) (A : Around) (E : VP) (F : Fx) (T : String) (Q : VP) (v : Value) (s : Shared) : Prop := ∃ b n ws h' tk', v = .ref b ∧ s = ⟨h', F.g, F.d, tk', F.os⟩ ∧ h'.get? b = some (zaa ws n) ∧ ws.length ≤ 1000 ∧ ∀ h'', (∀ (b : Nat) o, h'.get? b = some o → h''.get? b = some o) → wpAny (Mo w) A (call (.type T) ws) Q E ⟨h'', F.g, F.d, tk', F.os⟩
def FlZ (F : Fx) (ro its : LO) (C : Nat → LS → LO → LT → Array GenState → Prop) (i : Nat) (B : SP) (Q : Flow → SP) (f : Flow) (s : Shared) : Prop := match f with
 | .next | .cont => ∃ h tk l rw tl g, s = ⟨h, g, F.d, tk, F.os⟩ ∧ C (i + 1) l rw tl g ∧ St F.uu F.ww F.X F.vv F.L l ro (its ++ rw) tl h
 | .brk => B s
 | .ret v => Q (.ret v) s
@[reducible] noncomputable def zgk (it z TI TO : Nat) (a b : Value) (o : Obj) : LO := [(z, zb7 .none TI TO), (TO, zac [a, b]), (it, o)]
section
variable {F : Fx} {n m a b mk f it z TI TO : Nat} {P P' : SP}
variable {pos' : Pos} {R : Flow → SP} {M : MkS} {v : Value} {us : List Value} {rest body : List Stmt} {o e : Expr} {args : List Expr} {io : Obj}
theorem At.mpat (k : At F l ro rw tl tk (wpAny (Mo w) A (eval o env) (KPat w A E env pos args Q) E)) (h1 : attributeBase o (ofString "split") env (eval o env) = eval o env)
  (h2 : ((backTo pos (starEach args env)).all (fun x => !x.1) && (backToKw pos (keywordEach [] env)).all (fun x => x.1.isSome) && decide (args.length + ([] : List Keyword).length + (if ([] : List Keyword).isEmpty then 0 else 1) < 30)) = true)
  (h3 : (apos.endLine == pos.line) = true) : At F l ro rw tl tk (wpAny (Mo w) A (eval (.Call (.Attribute o (ofString "split") apos) args [] pos) env) Q E) := .mk fun h S => m_pat (k.go h S) h1 h2 h3
theorem At.kpat {T : Nat} {p0 p1 : Value} (G : Gd w F.uu) (e : (KK w).lookup a = some (zd6 p0 p1 T)) (ht : decide (a = 190 ∨ a = 197) = false) (hp : (backTo pos (starEach args env)).any (·.1) = false)
  (k : At F l ro rw tl tk (wpAny (Mo w) A (spliced (backTo pos (starEach args env))) (KApp (Mo w) A E "re.Pattern.split" [.ref a] Q) E)) : At F l ro rw tl tk (KPat w A E env pos args Q (.ref a)) := .mk fun h S => ⟨_, _, _, _, rfl, G.get S.inv e ht, za3 (k.go h S) hp⟩
theorem At.resplit {T N : Nat} {p0 p1 : Value} {oT : Obj} {items : Array Value} {x : Str} {tx : Nat} {C : Array Nat} {Fi : Nat → Option Nat} (G : Gd w F.uu) (hP : (KK w).lookup a = some (zd6 p0 p1 T)) (ha : decide (a = 190 ∨ a = 197) = false) (hT : (KK w).lookup T = some oT) (hb : decide (T = 190 ∨ T = 197) = false)
  (hTd : oT.data = .seq items N) (hC : (items.map Builtin.Re.reRawOf).map (fun x => x.toNat) = C) (hF : ziy C x.cps Fi) (hz : x.cps.size ≤ 100000) (hR : ∀ b e, b < x.cps.size → Fi b = some e → b < e ∧ e ≤ x.cps.size)
  (k : ∀ a Ls vs tk', Cuts Fi x.cps 0 Ls → StrsAre vs Ls → vs.length ≤ 2 * x.cps.size + 1 → At F l ro ((a, zaa vs) :: rw) tl tk' (Q (.ref a))) : At F l ro rw tl tk (wpAny (Mo w) A (call (.builtin "re.Pattern.split") [.ref a, .str x tx]) Q E) := .mk fun h S =>
 zln S (G.get S.inv hP ha) (G.get S.inv hT hb) hTd hC hF hz hR fun a Ls vs h' tk' c1 c2 c3 S' => (k a Ls vs tk' c1 c2 c3).go h' S'
theorem At.front {sl : Nat} {vl vu : Value} (pl : IsPart vl none) (pu : IsPart vu (some 0)) (hs : vs.length + us.length ≤ 1000000) (k : ∀ m', At F l ((a, zaa (us ++ vs) m') :: (sl, zex vl vu) :: ro) rw tl tk (wpAny (Mo w) A (execs rest env) R E)) :
  At F l ((sl, zex vl vu) :: ro) ((b, zaa us m) :: (a, zaa vs n) :: rw) tl tk (KSi3 (Mo w) A E env rest R (.ref b) (.ref a) (.ref sl)) := .mk fun h S => by
 have ne : a ≠ b := fun e => (List.nodup_cons.mp S.nd).1 (by rw [← e]; exact .head _)
 exact o_front (rw' := fun m' => (b, zaa us m) :: (a, zaa (us ++ vs) m') :: rw) S (fun m => .tail .head) (S.getR (.inr (.head _))) ne ⟨_, (S.hro _ (.head _)).1, rfl, rfl⟩ pl pu hs fun m' h' S' => (k m').go h' (S'.drop (.refl _) (.cons _ (.refl _))).toRo
theorem At.iterB (hm : (a, zaa vs n) ∈ ro ∨ (a, zaa vs n) ∈ rw) (k : ∀ it io, IsIt a 0 io → At F l ro ((it, io) :: rw) tl tk (Q (.ref it))) : At F l ro rw tl tk (wpAny (Mo w) A (call (.builtin "iter") [.ref a]) Q E) := .mk fun h S => o_iterB S hm fun it h' io h1 j j S' => (k it io h1).go h' S'
theorem At.kstT {T : String} {sp : Pos} (k : At F l ro rw tl tk (wpAny (Mo w) A (eval e env) (KStT w A E F T Q) E)) (hs : starEach [.Starred e sp] env = [(true, eval e env)]) : At F l ro rw tl tk (zix (Mo w) A E env pos [.Starred e sp] Q (.type T)) := .mk fun h S => cw_starT (k.go h S) hs
theorem At.mulT {T : String} {u : Nat} (k : At F l ro rw tl tk (wpAny (Mo w) A (call (.type T) [v, v]) Q E)) : At F l ro ((b, zaa [v] n) :: rw) tl tk (wpAny (Mo w) A (binaryOp .Mult (.ref b) (.int 2 u)) (KStT w A E F T Q) E) := .mk fun h S =>
 o_mul2 S (S.getR (.inr (.head _))) fun b h' hb S' => ⟨b, 0, [v, v], h', _, rfl, rfl, hb, blT rfl, fun h'' k' => k.go h'' ((S'.ext k').drop (.refl _) (.cons _ (.refl _)))⟩
theorem At.zipS {la : Nat} (hio : IsIt la 0 io) (k : ∀ z TI TO, At F l ((TI, zac [.ref it, .ref it]) :: ro) (zgk it z TI TO .none .none io ++ rw) tl tk (Q (.ref z))) : At F l ro ((it, io) :: rw) tl tk (wpAny (Mo w) A (call (.type "zip") [.ref it, .ref it]) Q E) := .mk fun h S =>
 n_zipS S (.head _) hio fun z TI TO h' S' => (k z TI TO).go h' S'
theorem zp_apart {h : Heap} (S : St F.uu F.ww F.X F.vv F.L l ro (zgk it z TI TO v v io ++ rw) tl h) {xs : List Nat} (hx : ∀ x ∈ xs, x ∈ rw.map (·.1)) : ∀ c ∈ [z, TO, it], c ∉ xs := by
 have nd := S.nd
 rw [List.map_append] at nd
 intro c hc hX
 exact (List.nodup_append.mp nd).2.2 c hc c (hx c hX) rfl
theorem At.forZ {la : Nat} {elts : List Expr} {kk : Nat} {tp : Pos} {xs : List Value} (h1 : (la, zaa xs n) ∈ ro) (hTI : (TI, zac [.ref it, .ref it]) ∈ ro) (hX : ∀ x ∈ F.X, x ∈ rw.map (·.1)) (hm : xs.length = 2 * m) (hh : A.handled = none) (hio : IsIt la 0 io)
  (C : Nat → LS → LO → LT → Array GenState → Prop) (h0 : C 0 l rw tl F.g)
  (turn : ∀ i l rw tl g tk T x y a b o, i < m → xs[2 * i]? = some x → xs[2 * i + 1]? = some y → o.cls = .type "list_iterator" → C i l rw tl g → At (F.sg g) l ((T, zac [x, y]) :: ro) (zgk it z TI TO a b o ++ rw) tl tk
   (wpAny (Mo w) A (assign (.Tuple elts kk tp) env (.ref T)) (znn (Mo w) A env body (FlZ F ro (zgk it z TI TO a b o) C i (wpAny (Mo w) A (execs rest env) R E) R)) (fun j j => False)))
  (stop : ∀ l rw tl g tk, C m l rw tl g → At (F.sg g) l ro rw tl tk (wpAny (Mo w) A (execs rest env) R E)) :
  At F l ro (zgk it z TI TO .none .none io ++ rw) tl tk (KFor w A E env (.Tuple elts kk tp) body rest R (.ref z)) := .mk fun h S =>
 wpAny_pyIter_zip (S.hrw _ (.head _)).1 (zme (itr_zipS (m := m) h1 hTI (zp_apart S hX) hm).toItN hh C S h0 ⟨_, _, _, rfl, hio⟩
  (fun i v new l rw tl g h tk its hi hv hits hC S' => by
   obtain ⟨T, x, y, rfl, rfl, hx, hy⟩ := hv
   obtain ⟨a, b, o, rfl, ho⟩ := hits
   exact zM ((turn i l rw tl g tk T x y a b o hi hx hy ho.1 hC).go h S') (fun j s q => zM q (fun f s₃ q => by cases f <;> exact q) fun j j z => z) fun j j z => z)
  fun l rw tl g h tk hC S' => wpAny_execs_nil ((stop l rw tl g tk hC).go h S'))
theorem At.endZ {g g' : Array GenState} {C : Nat → LS → LO → LT → Array GenState → Prop} {i : Nat} {B : SP} {p : Nat × Obj} {its : LO} (h : C (i + 1) l rw tl g') : At ((F.sg g).sg g') l (p :: ro) (its ++ rw) tl tk (FlZ F ro its C i B R .next) :=
 .mk fun h' S => ⟨_, _, _, _, _, _, rfl, h, S.drop (.cons _ (.refl _)) (.refl _)⟩
theorem zp_own {a b : Value} {o : Obj} {p : LO} : List.Sublist p (zgk it z TI TO a b o ++ p) := .cons _ (.cons _ (.cons _ (.refl _)))
set_option tactic.hygienic true in
theorem At.chnk {q : Str × Str} {tq uq t u lm : Nat} {k : Int} {lines : List Value} {ls : List Str} {c d : Value} {o : Obj} (C : Cx w A F env 10) (hB : AllBare F.g) (ho : o.cls = .type "list_iterator") (x1 : (mk, instObj 144 dx) ∈ ro) (x2 : (dx, mkD w M) ∈ ro)
  (hne : mk ∉ [M.ac, ax, M.ln] ∧ dx ∉ [M.ac, ax, M.ln]) (hls : StrsAre lines ls) (hl : ls.length ≤ 900) (hk : 0 ≤ k ∧ k ≤ 1000) (hs : zb5 (ps ++ [q])) (hok : PyData.strOk q.1 = true ∧ PyData.strOk q.2 = true) (hdot : ∀ p ∈ ps, zdn p.2) (hw : -1000 ≤ M.wd ∧ M.wd ≤ 1000) {c' : ChS} (hc : zb6 M.wd q ⟨ls, ps, k⟩ = c')
  (K : ∀ g' tk' vs' m' t' u' lines' lm', AllBare g' → StrsAre lines' c'.ls → (∀ v ∈ vs', v ∈ vs ∨ ∃ T, v = .ref T ∧ F.ww.get? T = none) → At (F.sg g') l ro (zgk it z TI TO c d o ++ R3 w M ax vs' m' t' (.int c'.k u') lines' lm') [(vs', c'.ps.map psc)] tk' (Q .none)) :
  At F l ro (zgk it z TI TO c d o ++ R3 w M ax vs n t (.int k u) lines lm) [(vs, ps.map psc)] tk (wpAny (Mo w) A (call (.ref 141) [.ref mk, .str q.1 tq, .str q.2 uq]) Q E) := .mk fun h S => by
 subst hc
 refine c_chunk C.G (S.wd C.fr C.md) C.P hB (S.own zp_own noT3 C.fr) (Rd.of S (.inl x1) C.fr) (Rd.of S (.inl x2) C.fr) hne (S.htl _ (.head _)).prs hls hl hk hs hok hdot hw fun h' g' tk' H => ?_
 cases H with
 | mk rr bb ha' hp' hx' hl' hls' hfr' =>
 rename_i vs' m' t' u' lines' lm'
 have S1 := back3 C S rr ha' hx' hl'
 have kTO := S.hrw _ (.tail _ (.head _))
 refine (K g' tk' vs' m' t' u' lines' lm' bb hls' (fun v hv => (hfr' v hv).imp id fun ⟨T', e, hT'⟩ => ⟨T', e, (S.fresh hT').2.2.2.2⟩)).go h' (S1.setTlO (fun p hp e => ?_) fun t ht => by rw [zS ht]; exact hp'.tps)
 cases hp with
 | head => exact absurd e (clsNe (by decide))
 | tail _ hp => cases hp with
  | head =>
   intro t ht hin
   rw [zS ht] at hin
   rcases hfr' _ hin with hv | ⟨T', e, hT'⟩
   ·exact (kTO.2.2.2.2.2.resolve_left fun z => z rfl).1 _ (.head _) hv
   ·cases e; exact nn (hT'.symm.trans kTO.1)
  | tail _ hp => cases hp with
   | head => exact absurd e (by rw [ho]; exact clsNe (by decide))
   | tail _ hp => exact absurd e (noT3 p hp)
inductive ASp (w : World) (M : MkS) (ax mk : Nat) (k0 : Int) (qs : List (Str × Str)) (h0 : Heap) : Nat → LS → LO → LT → Array GenState → Prop where
 | mk {i l vs m t u lines lm g s} : zaw M.wd ⟨[], [], k0⟩ (qs.take i) = s → AllBare g → l.lookup (ofString "self") = some (.ref mk) → FoldInv k0 qs i s → StrsAre lines s.ls → (∀ v ∈ vs, ∃ T, v = .ref T ∧ h0.get? T = none) →
   ASp w M ax mk k0 qs h0 i l (R3 w M ax vs m t (.int s.k u) lines lm) [(vs, s.ps.map psc)] g
theorem em_app {x : Str} : (ofString "" ++ x : Str) = x := by
 obtain ⟨c⟩ := x
 show (⟨(ofString "").cps ++ c⟩ : Str) = ⟨c⟩
 rw [show (ofString "").cps = #[] from by decide +kernel, Array.empty_append]
theorem At.addEm {x : Str} {t u : Nat} (hs : (ofString "").length + x.length ≤ sizeLine) (k : ∀ t' tk', At F l ro rw tl tk' (Q (.str x t'))) : At F l ro rw tl tk (wpAny (Mo w) A (binaryOp .Add (.str (ofString "") t) (.str x u)) Q E) := At.addS (fun t' tk' => em_app.symm ▸ k t' tk') hs
end
section
variable {mk n : Nat} {M : MkS}
set_option tactic.hygienic true in
theorem c_asplit {qs : List (Str × Str)} {x : Str} {t1 t2 t3 : Nat} {k : Int} {t u lm : Nat} {Q : VP} (G : Gd w uu) (W : Wd uu vv h) (P : Rm A vv 12) (hB : AllBare g)
  (O : Own uu vv h [(M.ac, zad ax [] n), (ax, iniD w t (.int k u)), (M.ln, zaa [] lm)]) (r1 : Rd vv h mk (instObj 144 dx)) (r2 : Rd vv h dx (mkD w M))
  (hne : mk ∉ [M.ac, ax, M.ln] ∧ dx ∉ [M.ac, ax, M.ln]) (hk : 0 ≤ k ∧ k ≤ 1000) (hO : OkQ qs) (hw : -1000 ≤ M.wd ∧ M.wd ≤ 1000) (hz : x.cps.size ≤ 20000)
  (hcut : ∀ Ls, Cuts (end2 x.cps) x.cps 0 Ls → (∃ w0 rest, Ls = w0 :: rest ∧ w0.length ≠ 0) ∧ ofString "" :: Ls = zdq qs)
  (hq : ∀ h' g' tk', Three w uu vv M ax [] h h' g' (zaw M.wd ⟨[], [], k⟩ qs) → Q .none ⟨h', g', d, tk', os⟩) :
  wpAny (Mo w) A (call (.ref 134) [.ref mk, .str (ofString "") t1, .str x t2, .str (ofString ".") t3]) Q E ⟨h, g, d, tk, os⟩ := by
 have x1 : (mk, instObj 144 dx) ∈ O2 w M mk dx := .tail _ (.head _)
 have x2 : (dx, mkD w M) ∈ O2 w M mk dx := .head _
 refine callV (ps := []) (binds := [(ofString "self", .ref mk), (ofString "fws", .str (ofString "") t1), (ofString "string", .str x t2), (ofString "splitchars", .str (ofString ".") t3)]) G W P O r1 r2 hne .nil (G.get W.inv (a := 134) rfl) rfl rfl rfl rfl ⟨_, _, _, _, rfl, G.get W.inv (a := 133) rfl, rfl, rfl⟩ rfl (by decide) (zba rfl) rfl rfl (zP ⟨rfl, rfl⟩) fun F L A' R0 tk₁ hF hR N C => ?_
 have G := C.G
 have hh := C.P.handled
 have hB : AllBare F.g := by rw [hF]; exact hB
 have lX : ∀ x ∈ F.X, x ∈ [M.ac, ax, M.ln] := by intro x hx; rw [hF] at hx; exact hx
 clear O W P r1 r2
 refine At.asg (At.mpat ?_ (by walk_at "ab") rfl rfl) (by rfl)
 walk_at "Mt"
 refine At.kpat (a := 71) G rfl rfl rfl ?_
 walk_at "Mt"
 have el : (ofString "").length = 0 := by decide +kernel
 have hxl : x.length = x.cps.size := rfl
 refine At.addEm (by rw [el, hxl]; exact om291 hz) fun t4 tk4 => ?_
 walk_at "Mt"
 refine At.resplit (C := pat2) G rfl rfl rfl rfl rfl (by simp only [List.map_toArray, List.map_cons, List.map_nil]; rfl) (finds2 (by exact om292 hz)) (by exact om292 hz) end2_ok fun pa Ls vp tk2 hcL hvp hvl => ?_
 obtain ⟨⟨w0, rest, rfl, hw0⟩, hflat⟩ := hcut _ hcL
 obtain ⟨t0, hv0⟩ := zbj hvp (i := 0) rfl
 have hw0s : w0.length ≤ 9000 := by
  cases qs with
  | nil => cases hflat
  | cons q0 qr =>
   have e := hflat
   unfold zdq at e
   rw [List.flatMap_cons] at e
   injection e with e1 e2
   injection e2 with e2 e3
   have := hO.small q0 (.head _)
   unfold plen at this
   rw [e2]; exact om293 this
 walk_at "Mt"
 refine At.ifN ?_
 refine At.tval ?_ (by rfl)
 walk_at "Mt"
 refine At.item (.inr (.head _)) (j := 0) (.inl rfl) hv0 (by exact om294 hz hvl) ?_
 refine At.truS (by exact om295 hw0s) ?_
 refine At.brT (by simpa using hw0) ?_
 walk_at "Mt"
 refine At.front .none (.int _ _) (by simp; exact om296 hz hvl) fun m6 => At.drop (.cons_cons _ (.cons _ (.refl _))) (.refl _) ?_
 walk_at "Mt"
 refine At.kstT ?_ rfl
 walk_at "Mt"
 refine At.iterB (.inl (.head _)) fun it io hio => ?_
 walk_at "Mt"
 refine At.mulT (At.zipS hio fun z TI TO => ?_)
 have hfl : StrsAre ([.str (ofString "") (tk2 + 1 + 1 + 1 + 1)] ++ vp) (zdq qs) := by
  rw [← hflat]
  exact .cons _ _ hvp
 have hlen : ([Value.str (ofString "") (tk2 + 1 + 1 + 1 + 1)] ++ vp).length = 2 * qs.length := by rw [zax hfl, zmf]
 generalize [Value.str (ofString "") (tk2 + 1 + 1 + 1 + 1)] ++ vp = xs at hfl hlen ⊢
 refine At.forZ (m := qs.length) (.tail _ (.head _)) (.head _) lX hlen hh hio (ASp w M ax mk k qs F.ww) (ASp.mk rfl hB (by walk_at "lk") FoldInv.init .nil fun v hv => nomatch hv) (fun i l rw tl g tk T vx vy a b o hi hvx hvy ho hC => ?_) fun l rw tl g tk hC => ?_
 ·cases hC with
  | mk e0 gB hl FI hls hfr =>
  rename_i vs mm tI uI lines lmI s0
  obtain ⟨q, hqi⟩ : ∃ q, qs[i]? = some q := ⟨_, zI hi⟩
  obtain ⟨f1, f2⟩ := flatQ_at hqi
  obtain ⟨tx, ex⟩ := zbj hfl f1
  obtain ⟨ty, ey⟩ := zbj hfl f2
  cases hvx.symm.trans ex
  cases hvy.symm.trans ey
  have e1 : zaw M.wd ⟨[], [], k⟩ (qs.take (i + 1)) = zb6 M.wd q s0 := by rw [zcy hqi, zdi, e0]
  have FI2 := FI.step (wd := M.wd) hO hqi
  obtain ⟨z1, z2, z3, z4, z5⟩ := FI.ready hO hqi hk
  have N := N.sg (g := g)
  have C := C.sg (g := g)
  refine At.tuple2 hh (.head _) ?_ N.hk rfl rfl N.hL
  walk_at "Mt"
  refine At.kmcM (f := 141) G (.tail _ (.tail _ (.tail _ x1))) (.tail _ (.tail _ (.tail _ x2))) (by rfl) (by rfl) (by rfl) ?_
  walk_at "Mt"
  refine At.chnk (q := q) (ls := s0.ls) (C.le (by exact om297)) gB ho (.tail _ (.tail _ (.tail _ x1))) (.tail _ (.tail _ (.tail _ x2))) hne hls z1 z2 z3 z4 z5 hw rfl fun g' tk' vs' m' t' u' lines' lm' b' hls' hfr' => ?_
  walk_at "Mt"
  exact At.endZ (ASp.mk e1 b' (by walk_at "lk") FI2 hls' fun v hv => (hfr' v hv).elim (hfr v) id)
 ·cases hC with
  | mk e0 gB hl FI hls hfr =>
  rw [List.take_length] at e0
  walk_at "Mt"
  refine .mk fun h' S' => ?_
  subst hF hR
  exact hq _ _ _ (by rw [e0]; exact ⟨S'.retX, gB, S'.getR (.inr (.head _)), (S'.htl _ (.head _)).prs, S'.getR (.inr (.tail _ (.head _))), S'.getR (.inr (.tail _ (.tail _ (.head _)))), hls, fun v hv => .inr (hfr v hv)⟩)
end
section
variable {x C mk a n : Nat} {M : MkS}
theorem c_str {e : Str} {t1 : Nat} {k : Int} {t u lm : Nat} {lines : List Value} {ls : List Str} {ps' : List (Str × Str)} {Q : VP} (G : Gd w uu) (W : Wd uu vv h) (P : Rm A vv 10) (hB : AllBare g)
  (O : Own uu vv h [(M.ac, zad ax vs n), (ax, iniD w t (.int k u)), (M.ln, zaa lines lm)]) (r1 : Rd vv h mk (instObj 144 dx)) (r2 : Rd vv h dx (mkD w M))
  (hne : mk ∉ [M.ac, ax, M.ln] ∧ dx ∉ [M.ac, ax, M.ln]) (hp : Prs h vs ps) (hls : StrsAre lines ls) (hl : ls.length ≤ 900) (hk : 0 ≤ k ∧ k ≤ 1000) (hps : ps' = ps.dropLast ++ [zap ps]) (hs : zb5 ps')
  (hlast : zap ps ≠ (ofString " ", ofString "")) (hok : PyData.strOk (zap ps).1 = true ∧ PyData.strOk (zap ps).2 = true) (hpos : 0 < k + plens ps') (hno : k ≠ 0 ∨ (0 < plens ps' ∧ Txt.isspace (zar ps') = false))
  (he : e.length ≤ 16) (hw : ((ls ++ [zar ps']).map (·.length)).sum + (ls ++ [zar ps']).length ≤ 1048576)
  (hq : ∀ t' h' g' tk', RetX uu vv [M.ac, ax, M.ln] h h' → AllBare g' → (∃ m u us lm', h'.get? M.ac = some (zad ax [] m) ∧ h'.get? ax = some (iniD w t (.int 0 u)) ∧ h'.get? M.ln = some (zaa us lm')) → Q (.str (Txt.join e (ls ++ [zar ps'])) t') ⟨h', g', d, tk', os⟩) :
  wpAny (Mo w) A (call (.ref 92) [.ref mk, .str e t1]) Q E ⟨h, g, d, tk, os⟩ := by
 have x1 : (mk, instObj 144 dx) ∈ O2 w M mk dx := .tail _ (.head _)
 have x2 : (dx, mkD w M) ∈ O2 w M mk dx := .head _
 have ell := zax hls
 refine callV (binds := [(ofString "self", .ref mk), (ofString "linesep", .str e t1)]) G W P O r1 r2 hne hp (G.get W.inv (a := 92) rfl) rfl rfl rfl rfl ⟨_, _, _, _, rfl, G.get W.inv (a := 91) rfl, rfl, rfl⟩ rfl (by decide) (zba rfl) rfl rfl (zP ⟨rfl, rfl⟩) fun F L A' R0 tk₁ hF hR N C => ?_
 have G := C.G
 have hB : AllBare F.g := by rw [hF]; exact hB
 clear O W P r1 r2 hp
 walk_at "Mt"
 refine At.kmcM (f := 106) G x1 x2 (by rfl) (by rfl) (by rfl) ?_
 walk_at "Mt"
 refine At.newline (ps := ps) (ps' := ps') (C.le (by exact om251)) hB x1 x2 hne (by exact om252 hl ell) hk hps hs hlast hok hpos hno fun tn m9 u9 m9' g9 tk9 b9 => ?_
 have N := N.sg (g := g9)
 refine At.kxpN (At.ret (At.mstr PySem.F.slot_str_join PySem.F.type_str_join ?_ (by walk_at "ab") rfl rfl))
 walk_at "Mt"
 refine At.joinL (ys := ls ++ [zar ps']) (.inr (.tail _ (.tail _ (.head _)))) (zbe hls _ _) he hw fun t' k' => ?_
 refine .mk fun h' S' => ?_
 subst hF hR
 exact hq _ _ _ _ S'.retX b9 ⟨_, _, _, _, S'.getR (.inr (.head _)), S'.getR (.inr (.tail _ (.head _))), S'.getR (.inr (.tail _ (.tail _ (.head _))))⟩
end
theorem makes144 {w : World} : makesIn (KS w) 144 = true := by rfl
theorem init144 {w : World} : findIn (KS w) (.ref 144) "__init__" = some (some (.ref 85)) := by rfl
section
variable {h' : Heap}
variable {x C mk a n : Nat} {M : MkS}
theorem St.addNewW {rw' ro' : LO} {tl' : LT} {l' : LS} (S : St uu ww X vv L l ro rw tl h) (S' : St uu ww X vv L l' ro' rw' tl' h') {a : Nat} {o : Obj} (hn : h.get? a = none) (ho : h'.get? a = some o) (hc : o.cls ≠ .type "tuple")
  (hr : ∀ p ∈ ro', p.1 ≠ a) (hw : a ∉ rw'.map (·.1)) : St uu ww X vv L l' ro' ((a, o) :: rw') tl' h' := by
 obtain ⟨n1, n2, n3, n4, n5⟩ := S.fresh hn
 refine ⟨S'.inv, S'.fr, S'.keep, S'.above, S'.low, S'.based, S'.ns, S'.hro, ?_, ?_, ?_, S'.htl⟩
 ·intro p hp
  rcases zC hp with rfl | hp
  ·exact ⟨ho, n1, n2, n4, .inr n5, .inl hc⟩
  ·exact S'.hrw p hp
 ·rw [Zi, List.nodup_cons]
  exact ⟨hw, S'.nd⟩
 ·intro p hp q hq
  rcases zC hq with rfl | hq
  ·exact hr p hp
  ·exact S'.sep p hp q hq
theorem n_newMk {head wd : Int} {t1 t2 t3 t4 : Nat} {Q : VP} (G : Gd w uu) (S : St uu ww X vv L l ro rw tl h) (hL : env.frame = some L) (hk : env.scope.kind ≠ .module) (P : Rm A (env :: vv) 8)
  (hq : ∀ (M : MkS) ax mk dx tI uI mA mL h' tk', M.wd = wd → St uu ww X vv L l ((dx, mkD w M) :: (mk, instObj 144 dx) :: ro) ((M.ac, zad ax [] mA) :: (ax, iniD w tI (.int head uI)) :: (M.ln, zaa [] mL) :: rw) tl h' → Q (.ref mk) ⟨h', g, d, tk', os⟩) :
  wpAny (Mo w) A (call (.ref 144) [.int head t1, .int wd t2, .str (ofString " ") t3, .str (ofString ".") t4]) Q E ⟨h, g, d, tk, os⟩ := by
 have K := G.ks S.inv
 refine wpAny_call (make_core (makes_of K makes144) (looks_findIn K init144) (fun self => bind_fn K self (by rfl)) (.inl rfl) ?_)
 have S1 := S.allocW emptyDict rfl (clsNe (by decide))
 have S2 := (S1.allocW (instObj 144 h.objs.size) rfl (fun z => by cases z)).toRo
 rw [Heap.size_push] at S2
 refine c_initMk (dx := h.objs.size) (vv := env :: vv) G (S2.wd hL hk) (P.tcall.less (by exact om237)) (S2.own (p := [(h.objs.size, dictOf [] 0)]) (.cons_cons _ (zO _)) (by
  intro q hq
  rw [zS hq]
  exact clsNe (by decide)) hL) (Rd.of S2 (.inl (.head _)) hL) (by exact om298) ?_
 intro M ax tI uI mA mL h' tk' e1 rr hf nd hdx hac hax hln
 refine ⟨rfl, ?_⟩
 have nd2 := S2.nd
 simp only [List.map_cons, List.nodup_cons] at nd2
 have S3 := (S2.backX (rw' := (h.objs.size, mkD w M) :: rw) rr hL (fun y hy => by rw [zS hy]; exact ⟨_, .head _⟩) (.chg hdx (clsNe (by decide)) (UpdW.keeps fun p hp => by
  intro e
  exact nd2.1 (by rw [← zS e]; exact List.mem_map.mpr ⟨p, hp, rfl⟩)))).toRo
 have rofr : ∀ {c : Nat}, ((h.push emptyDict).push (instObj 144 h.objs.size)).get? c = none → ∀ p ∈ (h.objs.size, mkD w M) :: (h.objs.size + 1, instObj 144 h.objs.size) :: ro, p.1 ≠ c := by
  intro c hc p hp e
  rcases zC hp with rfl | hp
  ·have := S2.getR (.inr (.head _))
   dsimp only at e
   subst e
   rw [hc] at this; cases this
  ·have := (S2.hro p hp).1
   rw [e, hc] at this; cases this
 have rwfr : ∀ {c : Nat}, ((h.push emptyDict).push (instObj 144 h.objs.size)).get? c = none → c ∉ rw.map (·.1) := by
  intro c hc hm
  obtain ⟨p, hp, e⟩ := List.mem_map.mp hm
  have := (S2.hrw p (.tail _ hp)).1
  rw [e, hc] at this; cases this
 simp only [List.nodup_cons, List.mem_cons, List.not_mem_nil, or_false, not_or, not_false_eq_true, List.nodup_nil, and_true] at nd
 have S4 := S2.addNewW S3 hf.2.2 hln zfy (rofr hf.2.2) (rwfr hf.2.2)
 have S5 := S2.addNewW S4 hf.2.1 hax zcb (rofr hf.2.1) (by
  rw [Zi, List.mem_cons, not_or]
  exact ⟨nd.2, rwfr hf.2.1⟩)
 have S6 := S2.addNewW S5 hf.1 hac ac_noT (rofr hf.1) (by
  rw [Zi, List.mem_cons, not_or, Zi, List.mem_cons, not_or]
  exact ⟨nd.1.1, nd.1.2, rwfr hf.1⟩)
 exact hq M ax _ _ _ _ _ _ _ _ e1 S6
end
theorem zke {wd : Int} {q : Str × Str} {s : ChS} : ∃ r f, (zb6 wd q s).ps = r ++ [(f, q.2)] ∧ (f = q.1 ∨ f = ofString " ") := by
 unfold zb6
 split
 ·exact ⟨s.ps, q.1, rfl, .inl rfl⟩
 ·split
  ·split
   ·refine ⟨[], _, rfl, ?_⟩
    split
    ·exact .inr rfl
    ·exact .inl rfl
   ·exact ⟨[], q.1, rfl, .inl rfl⟩
  ·exact ⟨[], q.1, rfl, .inl rfl⟩
theorem pcat_mem {p : Str × Str} {c : Nat} (hc : c ∈ p.2.cps.toList) : c ∈ (pcat p).cps.toList := by
 unfold pcat
 rw [show Txt.join (ofString "") [p.1, p.2] = Str.join (ofString "") [p.1, p.2] from StrLaws.glued_eq_join _ _]
 exact zdt hc (by simp)
theorem zld {ps : List (Str × Str)} {p : Str × Str} {c : Nat} (hp : p ∈ ps) (hc : c ∈ p.2.cps.toList) : c ∈ (zar ps).cps.toList := by
 unfold zar
 rw [show Txt.join (ofString "") (ps.map pcat) = Str.join (ofString "") (ps.map pcat) from StrLaws.glued_eq_join _ _]
 exact zdt (pcat_mem hc) (List.mem_map.mpr ⟨p, hp, rfl⟩)
theorem nospace {x : Str} {c : Nat} (hc : c ∈ x.cps.toList) (h : Unicode.isSpace c = false) : Txt.isspace x = false := by
 unfold Txt.isspace
 rw [← Array.all_toList]
 have : x.cps.toList.all Unicode.isSpace = false := by
  rw [List.all_eq_false]
  exact ⟨c, hc, by rw [h]; simp⟩
 rw [this, Bool.and_false]
structure FoldOk (x : Str) (qs : List (Str × Str)) (head wd : Int) : Prop where
 q : OkQ qs
 size : x.cps.size ≤ 20000
 cut : ∀ Ls, Cuts (end2 x.cps) x.cps 0 Ls → (∃ w0 rest, Ls = w0 :: rest ∧ w0.length ≠ 0) ∧ ofString "" :: Ls = zdq qs
 hd : 0 ≤ head ∧ head ≤ 1000
 wd : -1000 ≤ wd ∧ wd ≤ 1000
 last : ∃ r q, qs = r ++ [q] ∧ ∃ c ∈ q.2.cps.toList, Unicode.isSpace c = false
noncomputable def zbx (wd head : Int) (qs : List (Str × Str)) : List Str := (zaw wd ⟨[], [], head⟩ qs).ls ++ [zar (zaw wd ⟨[], [], head⟩ qs).ps]
theorem FoldInv.all {wd k0 : Int} {qs : List (Str × Str)} (O : OkQ qs) : ∀ i, i ≤ qs.length → FoldInv k0 qs i (zaw wd ⟨[], [], k0⟩ (qs.take i))
 | 0, _ => by
  exact FoldInv.init
 | i + 1, h => by
  have hq : qs[i]? = some (qs[i]'h) := zI h
  rw [zcy hq, zdi]
  exact (FoldInv.all O i (by exact om182 h)).step O hq
section
variable {F : Fx} {n mk : Nat} {M : MkS} {t u t1 t2 t3 t4 lm : Nat} {k : Int} {lines : List Value}
theorem new_ne {h : Heap} {kv : Value} {p : Nat × Obj} (S : St F.uu F.ww F.X F.vv F.L l ro (R3 w M ax vs n t kv lines lm ++ rw) tl h) (hp : p ∈ ro) : p.1 ∉ [M.ac, ax, M.ln] := fun hy => by
 obtain ⟨q, hq, e⟩ := List.mem_map.mp (show p.1 ∈ (R3 w M ax vs n t kv lines lm).map (·.1) from hy)
 exact S.sep p hp q (List.mem_append_left _ hq) e.symm
theorem At.newMk {head wd : Int} (C : Cx w A F env 8) (K : ∀ (M : MkS) ax mk dx t u n lm tk', M.wd = wd → mk ∉ [M.ac, ax, M.ln] ∧ dx ∉ [M.ac, ax, M.ln] → At F l ((dx, mkD w M) :: (mk, instObj 144 dx) :: ro) (R3 w M ax [] n t (.int head u) [] lm ++ rw) tl tk' (Q (.ref mk))) :
  At F l ro rw tl tk (wpAny (Mo w) A (call (.ref 144) [.int head t1, .int wd t2, .str (ofString " ") t3, .str (ofString ".") t4]) Q E) := .mk fun h S => n_newMk C.G S C.fr C.md C.P fun M ax mk dx tI uI mA mL h' tk' e S' => (K M ax mk dx tI uI mA mL tk' e ⟨new_ne S' (.tail _ (.head _)), new_ne S' (.head _)⟩).go h' S'
theorem At.asplit {qs : List (Str × Str)} {x : Str} (C : Cx w A F env 12) (hB : AllBare F.g) (x1 : (mk, instObj 144 dx) ∈ ro) (x2 : (dx, mkD w M) ∈ ro) (hne : mk ∉ [M.ac, ax, M.ln] ∧ dx ∉ [M.ac, ax, M.ln]) (FO : FoldOk x qs k M.wd)
  (K : ∀ g' tk' vs' m' t' u' lines' lm', AllBare g' → StrsAre lines' (zaw M.wd ⟨[], [], k⟩ qs).ls → At (F.sg g') l ro (R3 w M ax vs' m' t' (.int (zaw M.wd ⟨[], [], k⟩ qs).k u') lines' lm') [(vs', (zaw M.wd ⟨[], [], k⟩ qs).ps.map psc)] tk' (Q .none)) :
  At F l ro (R3 w M ax [] n t (.int k u) [] lm) tl tk (wpAny (Mo w) A (call (.ref 134) [.ref mk, .str (ofString "") t1, .str x t2, .str (ofString ".") t3]) Q E) := .mk fun h S => by
 refine c_asplit (qs := qs) C.G (S.wd C.fr C.md) C.P hB (S.own (.refl _) noT3 C.fr) (Rd.of S (.inl x1) C.fr) (Rd.of S (.inl x2) C.fr) hne FO.hd FO.q FO.wd FO.size FO.cut fun h' g' tk' H => ?_
 cases H with
 | mk r b a p x y z _ => exact (K _ _ _ _ _ _ _ _ b z).go h' ((back3 (p := []) C S r a x y).setTl noT3 fun t ht => by rw [zS ht]; exact p.tps)
theorem At.strM {e : Str} {ls : List Str} {ps' : List (Str × Str)} (C : Cx w A F env 10) (hB : AllBare F.g) (x1 : (mk, instObj 144 dx) ∈ ro) (x2 : (dx, mkD w M) ∈ ro) (hne : mk ∉ [M.ac, ax, M.ln] ∧ dx ∉ [M.ac, ax, M.ln])
  (hls : StrsAre lines ls) (hl : ls.length ≤ 900) (hk : 0 ≤ k ∧ k ≤ 1000) (hps : ps' = ps.dropLast ++ [zap ps]) (hs : zb5 ps')
  (hlast : zap ps ≠ (ofString " ", ofString "")) (hok : PyData.strOk (zap ps).1 = true ∧ PyData.strOk (zap ps).2 = true) (hpos : 0 < k + plens ps') (hno : k ≠ 0 ∨ (0 < plens ps' ∧ Txt.isspace (zar ps') = false))
  (he : e.length ≤ 16) (hw : ((ls ++ [zar ps']).map (·.length)).sum + (ls ++ [zar ps']).length ≤ 1048576)
  (K : ∀ t' g' tk' m u us lm', AllBare g' → At (F.sg g') l ro (R3 w M ax [] m t (.int 0 u) us lm') [([], [])] tk' (Q (.str (Txt.join e (ls ++ [zar ps'])) t'))) :
  At F l ro (R3 w M ax vs n t (.int k u) lines lm) [(vs, ps.map psc)] tk (wpAny (Mo w) A (call (.ref 92) [.ref mk, .str e t1]) Q E) := .mk fun h S => by
 refine c_str C.G (S.wd C.fr C.md) C.P hB (S.own (.refl _) noT3 C.fr) (Rd.of S (.inl x1) C.fr) (Rd.of S (.inl x2) C.fr) hne (S.htl _ (.head _)).prs hls hl hk hps hs hlast hok hpos hno he hw fun t' h' g' tk' r b H => ?_
 obtain ⟨m, u, us, lm', a, x, y⟩ := H
 exact (K t' g' tk' m u us lm' b).go h' ((back3 (p := []) C S r a x y).setTl noT3 fun t ht => by rw [zS ht]; exact .nil)
end
section
variable {h' : Heap}
variable {x C mk a n : Nat} {M : MkS}
theorem c_fold {x e : Str} {qs : List (Str × Str)} {head wd : Int} {t1 t2 t3 t4 : Nat} {Q : VP} (G : Gd w uu) (W : Wd uu vv h) (P : Rm A vv 14) (hB : AllBare g) (F : FoldOk x qs head wd) (he : e.length ≤ 16)
  (hq : ∀ t' h' g' tk', Ret uu vv h h' → AllBare g' → Q (.str (Txt.join e (zbx wd head qs)) t') ⟨h', g', d, tk', os⟩) :
  wpAny (Mo w) A (call (.ref 265) [.str x t1, .int head t2, .int wd t3, .str e t4]) Q E ⟨h, g, d, tk, os⟩ := by
 have FI := FoldInv.all (wd := wd) (k0 := head) F.q qs.length (Ze _)
 rw [List.take_length] at FI
 obtain ⟨r, q, eq, c, hc, hcs⟩ := F.last
 have hqm : q ∈ qs := by rw [eq]; simp
 obtain ⟨r', f, ef, hf⟩ : ∃ r f, (zaw wd ⟨[], [], head⟩ qs).ps = r ++ [(f, q.2)] ∧ (f = q.1 ∨ f = ofString " ") := by
  rw [eq, zdi]; exact zke
 have eL : zap (zaw wd ⟨[], [], head⟩ qs).ps = (f, q.2) := by
  unfold zap; rw [ef]; simp
 have eD : (zaw wd ⟨[], [], head⟩ qs).ps = (zaw wd ⟨[], [], head⟩ qs).ps.dropLast ++ [zap (zaw wd ⟨[], [], head⟩ qs).ps] := by
  rw [eL, ef]; simp
 have hq2 : 0 < q.2.length := by
  show 0 < q.2.cps.size
  exact List.length_pos_of_mem hc
 have hsm : zb5 (zaw wd ⟨[], [], head⟩ qs).ps := ⟨by have := FI.l2; have := F.q.len; exact om301 (by assumption) this, fun p hp => by have := (FI.mem p hp).1; exact om286 this⟩
 have hpl : 0 < plens (zaw wd ⟨[], [], head⟩ qs).ps := by
  rw [ef, ze3]; unfold plen; dsimp only; exact om302 hq2
 have hkk : 0 ≤ (zaw wd ⟨[], [], head⟩ qs).k ∧ (zaw wd ⟨[], [], head⟩ qs).k ≤ 1000 := by
  have := F.hd
  rcases FI.k with e | e <;> (first | exact om284 this e | exact om285 e)
 have hl1 := FI.l1
 have hql := F.q.len
 have hpt : (zar (zaw wd ⟨[], [], head⟩ qs).ps).length ≤ 6020 := by
  have b1 := zgy (zaw wd ⟨[], [], head⟩ qs).ps
  have b2 := zch (B := 301) (ps := (zaw wd ⟨[], [], head⟩ qs).ps) fun p hp => (FI.mem p hp).1
  have := FI.l2
  exact om303 hql b1 b2 this
 have hA : zap (zaw wd ⟨[], [], head⟩ qs).ps ≠ (ofString " ", ofString "") := by
  rw [eL]
  intro z
  have : q.2 = ofString "" := congrArg Prod.snd z
  rw [this] at hq2
  exact absurd hq2 (by decide +kernel)
 have hB2 : PyData.strOk (zap (zaw wd ⟨[], [], head⟩ qs).ps).1 = true ∧ PyData.strOk (zap (zaw wd ⟨[], [], head⟩ qs).ps).2 = true := by
  rw [eL]
  have := F.q.ok q hqm
  refine ⟨?_, this.2⟩
  rcases hf with rfl | rfl
  ·exact this.1
  ·exact ok_sp
 have hC : (((zaw wd ⟨[], [], head⟩ qs).ls ++ [zar (zaw wd ⟨[], [], head⟩ qs).ps]).map (·.length)).sum + ((zaw wd ⟨[], [], head⟩ qs).ls ++ [zar (zaw wd ⟨[], [], head⟩ qs).ps]).length ≤ 1048576 := by
  have := zdx (B := 6020) (ys := (zaw wd ⟨[], [], head⟩ qs).ls ++ [zar (zaw wd ⟨[], [], head⟩ qs).ps]) (by
   intro y hy
   rcases zD hy with hy | hy
   ·exact FI.line y hy
   ·rw [zS hy]; exact hpt)
  rw [zY, List.length_singleton] at this ⊢
  exact om307 hl1 hql this
 refine callA (binds := [(ofString "text", .str x t1), (ofString "head", .int head t2), (ofString "width", .int wd t3), (ofString "end", .str e t4)]) G W P zdd (G.get W.inv (a := 265) rfl) rfl rfl rfl rfl ⟨_, _, _, _, rfl, G.get W.inv (a := 264) rfl, rfl, rfl⟩ rfl (by decide) (zba rfl) rfl rfl (zP ⟨rfl, rfl⟩) fun FF L A' R0 tk₁ hF hR N C => ?_
 have G := C.G
 have hB : AllBare FF.g := by rw [hF]; exact hB
 walk_at "Mt"
 refine At.newMk (C.le (by exact om299)) fun M ax mk dx tI uI mA mL tk2 e1 hne => ?_
 subst e1
 walk_at "Mt"
 refine At.kmcM (f := 134) G (.tail _ (.head _)) (.head _) (by rfl) (by rfl) (by rfl) ?_
 walk_at "Mt"
 refine At.asplit (C.le (by exact om300)) hB (.tail _ (.head _)) (.head _) hne F fun g4 tk4 vs' m' t' u' lines' lm' b4 hls' => ?_
 have N := N.sg (g := g4)
 have C := C.sg (g := g4)
 walk_at "Mt"
 refine At.kmcM (f := 92) G (.tail _ (.head _)) (.head _) (by rfl) (by rfl) (by rfl) ?_
 walk_at "Mt"
 refine At.strM (ps' := (zaw M.wd ⟨[], [], head⟩ qs).ps) (C.le (by exact om304)) b4 (.tail _ (.head _)) (.head _) hne hls' (by exact om305 hl1 hql) hkk eD hsm hA hB2 (by exact om306 hpl hkk) (.inr ⟨hpl, nospace (zld (p := (f, q.2)) (by rw [ef]; simp) hc) hcs⟩) he hC fun t5 g5 tk5 m5 u5 us5 l5 b5 => ?_
 walk_at "Mt"
 refine .mk fun h' S' => ?_
 subst hF hR
 exact hq _ _ _ _ S'.ret b5
end
noncomputable def zdp : List Str := [ofString "", ofString "0042", ofString "x"]
structure ReadOk (x : Str) (vals : List (Option Int)) : Prop where
 asc : ∀ c ∈ x.cps.toList, c ≠ 0 ∧ c < 128
 len : x.length ≤ 640
 num : ∀ b ∈ zdp, ∀ p n, p ∈ zai x b → PySem.intText? p = some n → n.natAbs < 10 ^ 8
 vlen : vals.length ≤ 20
 vb : ∀ i, some i ∈ vals → i.natAbs < 10 ^ 8
 norm : ∀ b ∈ zdp, zd9 x b = za2 x vals b
 pieces : ∀ Ls, Cuts (end1 x.cps) x.cps 0 Ls → ∀ v ∈ Ls, v.length ≤ 640 ∧ (∀ c ∈ v.cps.toList, c ≠ 0 ∧ c < 128) ∧ v ∉ za5
 comp : ∀ Ls, Cuts (end1 x.cps) x.cps 0 Ls → zbv Ls = ranks x ∧ ∀ s ∈ zbv Ls, s.ok
section
inductive ReadI (x : Str) (t1 aV : Nat) (g : Array GenState) (i : Nat) (g' : Array GenState) (l : LS) : LO → LT → Prop where
 | mk : g' = g → l.lookup (ofString "text") = some (.str x t1) → l.lookup (ofString "values") = some (.ref aV) → ReadI x t1 aV g i g' l [] []
set_option tactic.hygienic true in
theorem c_read {x : Str} {t1 aV nV : Nat} {vV : List Value} {vals : List (Option Int)} {Q : VP} (G : Gd w uu) (W : Wd uu vv h) (P : Rm A vv 30)
  (hV : h.get? aV = some (zaa vV nV)) (hVF : aV ∉ zab vv) (hVT : ¬ za9 aV) (hvs : All2 Sc vV (vals.map zbh)) (K : ReadOk x vals)
  (hq : ∀ h' tk', Ret uu vv h h' → Q (.bool true) ⟨h', g, d, tk', os⟩) :
  wpC (Mo w) A (call (.ref 284) [.str x t1, .ref aV]) Q E ⟨h, g, d, tk, os⟩ := by
 refine zm5 (binds := [(ofString "text", .str x t1), (ofString "values", .ref aV)]) G W P (G.get W.inv (a := 284) rfl) rfl rfl rfl rfl ⟨_, _, _, _, rfl, G.get W.inv (a := 283) rfl, rfl, rfl⟩ rfl (by decide) (zba rfl) (zP ⟨rfl, rfl⟩) ?_
 intro L h₁ tk₁ S0 R
 have S := S0.entry hV hVF List.not_mem_nil hVT (fun q hq => nomatch hq)
 clear S0
 refine zms ?_
 walk_at "All"
 rename_i a h2 S2
 refine zlw S2 (.head _) ?_
 intro it h3 io hio S3
 refine zf6 (g := g) (zkx (a := a)) R.handled (ReadI x t1 aV g) List.not_mem_nil (fun j j j j S => (S.hro _ (.head _)).1) hio S3 ?_ ?_ ?_
 ·exact .mk rfl (by walk_at "lk") (by walk_at "lk")
 ·rintro i v g' l rw tl h4 tk4 io4 hi hv ⟨rfl, l1, l2⟩ S4
  obtain ⟨b, tb, hbm, rfl⟩ : ∃ b tb, b ∈ zdp ∧ v = .str b tb := by
   have h3 : i = 0 ∨ i = 1 ∨ i = 2 := by simp at hi; exact om322 hi
   rcases h3 with rfl | rfl | rfl
   ·cases hv; exact ⟨_, _, .head _, rfl⟩
   ·cases hv; exact ⟨_, _, .tail _ (.head _), rfl⟩
   ·cases hv; exact ⟨_, _, .tail _ (.tail _ (.head _)), rfl⟩
  have hb1 : b.length ≤ 10 ∧ ∀ c ∈ b.cps.toList, c ≠ 0 ∧ c < 128 := by
   simp only [zdp, List.mem_cons, List.not_mem_nil, or_false] at hbm
   rcases hbm with rfl | rfl | rfl <;> exact ⟨by decide, by decide⟩
  walk_at "All"
  rename_i h5 S5
  refine zhp (ct_cmp (zbc ?_))
  walk_at "All"
  refine zim (by rfl) ?_ rfl
  walk_at "All"
  refine ⟨G.ks S5.inv, ?_⟩
  refine c_norm G (S5.wd rfl (by intro z; cases z)) (R.less (by exact om340)) K.asc K.len hb1.1 hb1.2 (K.num b hbm) ?_
  intro t6 h6 tk6 r6
  have S6 := S5.back r6 rfl
  refine zy ?_
  walk_at "All"
  refine zeh (by rfl) ?_ rfl
  walk_at "All"
  refine ⟨G.ks S6.inv, ?_⟩
  obtain ⟨v1, v2, v3⟩ := S6.argR (env := fenv _ 284 L) (.tail _ (.head _)) rfl
  refine c_normed G (S6.wd rfl (by intro z; cases z)) (R.less (by exact om340)) v1 v2 v3 hvs K.vlen K.vb K.asc K.len hb1.1 ?_
  intro t7 h7 tk7 r7
  have S7 := S6.back r7 rfl
  rw [K.norm b hbm]
  refine zy ?_
  walk_at "All"
  refine zy ?_
  walk_at "All"
  rw [zG (by simp)]
  refine za6 ?_
  refine za6 ?_
  exact LpS.mk (.mk rfl (by walk_at "lk") (by walk_at "lk")) S7
 ·rintro g' l rw tl h4 tk4 ⟨rfl, l1, l2⟩ S4
  refine zdo (ce_cmp (zbc ?_))
  walk_at "All"
  refine zim (by rfl) ?_ rfl
  walk_at "All"
  refine ⟨G.ks S4.inv, ?_⟩
  refine c_comp G (S4.wd rfl (by intro z; cases z)) (R.less (by exact om340)) K.asc K.len K.pieces ?_
  intro tc nc vc Ls h6 tk6 r6 n6 g6 hcut hsc
  have S6 := S4.gotR r6 rfl (ro' := []) (rw' := []) (S4.back r6 rfl) n6 g6
  refine zy ?_
  walk_at "All"
  refine zeh (by rfl) ?_ rfl
  walk_at "All"
  refine ⟨G.ks S6.inv, ?_⟩
  refine c_ranks G (S6.wd rfl (by intro z; cases z)) (R.less (by exact om340)) (fun c hc => (K.asc c hc).2) (by have := K.len; exact om341 this) ?_
  intro tr nr vr h7 tk7 r7 n7 g7 hsr
  have S7 := S6.back r7 rfl
  obtain ⟨ec, eok⟩ := K.comp Ls hcut
  refine zy (o_eqL R.u9 (S7.hro _ (.head _)).1 g7 hsc hsr eok ec ?_)
  exact hq _ _ S7.ret
end
section
variable {M : Model}
theorem ct_or {x : Expr} {rest : List Expr} {Q : Bool → SP} (h : wpC M A (PySem.isTrue x env (eval x env)) (fun b s₁ => if b = true then Q true s₁ else wpC M A (allTrue .Or rest env) Q E s₁) E s) : wpC M A (allTrue .Or (x :: rest) env) Q E s := by
 show wpC M A (do match BoolOp.Or, ← PySem.isTrue x env (eval x env) with | .And, false => pure false | .Or, true => pure true | _, _ => allTrue .Or rest env) Q E s
 refine zw (h.mono (fun b s₁ h₁ => ?_) fun j j x => x)
 cases b
 ·exact h₁
 ·exact zy (zP h₁)
theorem ct_bool {op : BoolOp} {values : List Expr} {whole : Sem Value} {Q : Bool → SP} (h : wpC M A (allTrue op values env) Q E s) : wpC M A (PySem.isTrue (.BoolOp op values pos) env whole) Q E s := by
 rw [arm_isTrue_BoolOp]; exact h
theorem ct_not {x : Expr} {whole : Sem Value} {Q : Bool → SP} (h : wpC M A (PySem.isTrue x env (eval x env)) (fun c s' => Q (!c) s') E s) : wpC M A (PySem.isTrue (.UnaryOp .Not x pos) env whole) Q E s := by
 show wpC M A (do return !(← PySem.isTrue x env (eval x env))) Q E s
 exact zw (h.mono (fun c s' q => zy (zP q)) fun j j x => x)
theorem ct_value {e : Expr} {whole : Sem Value} {Q : Bool → SP} (h : wpC M A whole (fun v s₁ => wpC M A (truthy v) Q E s₁) E s)
  (he : PySem.isTrue e env whole = (do let v ← whole; standAt e.pos; holding [v] (truthy v)) := by rfl) : wpC M A (PySem.isTrue e env whole) Q E s := by
 rw [he]
 exact zw (h.mono (fun v s₁ h₁ => zw (zy (wpAny_standAt (wpC.holding h₁)))) fun j j x => x)
end
section
theorem o_sumL {ww : Heap} {X : List Nat} {L b nb : Nat} {l : LS} {ro rw : LO} {tl : LT} {vb : List Value} {ms : List Int} {Q : VP} (S : St uu ww X vv L l ro rw tl h) (hh : A.handled = none) (hm : (b, zaa vb nb) ∈ ro) (hi : IntsAre vb ms)
  (hq : ∀ t h' tk', St uu ww X vv L l ro rw tl h' → Q (.int ms.sum t) ⟨h', g, d, tk', os⟩) : wpAny (Mo w) A (call (.builtin "sum") [.ref b]) Q E ⟨h, g, d, tk, os⟩ := by
 have hall := hi.allInts
 have hn := hi.numsOf
 have hl := S.isList (.inl hm)
 obtain ⟨xs, ex⟩ := hall.items
 rw [ex] at hl
 have hn2 : numsOf (intItems xs).toList = ms := by rw [← ex]; exact hn
 rw [nums_intItems] at hn2
 refine sum_intListG hh hl fun h' tk' t' hk => ?_
 have e : preSum (numAt xs) xs.size = ms.sum := by
  rw [preSum_eq, Zh (by simp), hn2]
 rw [e]
 exact hq _ _ _ (S.ext hk)
end
section
variable {F : Fx} {M : Model} {n : Nat}
theorem At.cParts {aS nS : Nat} {vS : List Value} {ns : List Int} (C : Cx w A F env 20) (hm : (aS, zaa vS nS) ∈ ro) (hns : IntsAre vS ns) (hn : ns.length ≤ 1000) (hr : ∀ p ∈ rw, p.2.cls ≠ .type "tuple")
  (k : ∀ t n vs tk', vs.length = (zae ns).length → At F l ((t, zaa vs n) :: ro) rw ((vs, (zae ns).map Part.sc) :: tl) tk' (Q (.ref t))) : At F l ro rw tl tk (wpAny (Mo w) A (call (.ref 239) [.ref aS]) Q E) := .mk fun h S => by
 obtain ⟨q1, q2, q3⟩ := S.argR hm C.fr
 refine c_parts C.G (S.wd C.fr C.md) C.P q1 q2 q3 hns hn fun t n vs h' tk' r n0 g0 hP => (k t n vs tk' (by have := hP.length; rwa [List.length_map] at this)).go h' ?_
 exact (S.gotR r C.fr (ro' := []) (rw' := []) (S.back r C.fr) n0 g0).addTl hr hP
theorem At.cWords {first : Str} {t0 p pn : Nat} {vs : List Value} {ps : List Part} (C : Cx w A F env 20) (hm : (p, zaa vs pn) ∈ ro) (ht : (vs, ps.map Part.sc) ∈ tl) (hv : ps.length ≤ 10) (hlen : ∀ q ∈ ps, q.sp.length ≤ 10) (h1 : first.length ≤ 10) (hr : ∀ p ∈ rw, p.2.cls ≠ .type "tuple")
  (k : ∀ t aW aG nW nG vW vG tk', StrsAre vW ((wfold first (ps.drop 1)).pre ++ [(wfold first (ps.drop 1)).last]) → IntsAre vG (wfold first (ps.drop 1)).gaps → At F l ((t, zac [.ref aW, .ref aG]) :: (aG, zaa vG nG) :: (aW, zaa vW nW) :: ro) rw tl tk' (Q (.ref t))) :
  At F l ro rw tl tk (wpAny (Mo w) A (call (.ref 246) [.str first t0, .ref p]) Q E) := .mk fun h S => by
 obtain ⟨q1, q2, q3⟩ := S.argR hm C.fr
 refine c_words C.G (S.wd C.fr C.md) C.P q1 q2 q3 (S.htl _ ht) hv hlen h1 fun t aW aG nW nG vW vG h' tk' r gt w0 g0 ne gW gG hW hG => (k t aW aG nW nG vW vG tk' hW hG).go h' ?_
 have S1 := S.gotR r C.fr (ro' := []) (rw' := []) (S.back r C.fr) w0 gW
 exact (S.gotR r C.fr (ro' := [(aW, zaa vW nW)]) (rw' := []) S1 g0 gG).addTup hr gt
theorem At.cRows {aW nW aG nG : Nat} {vW vG : List Value} {ws : List Str} {gs : List Int} {head width : Int} {th tw : Nat} (C : Cx w A F env 20) (hmW : (aW, zaa vW nW) ∈ ro) (hmG : (aG, zaa vG nG) ∈ ro)
  (hws : StrsAre vW ws) (hgs : IntsAre vG gs) (hl : gs.length = ws.length) (hn : ws.length ≤ 20) (h0 : ws ≠ []) (hwl : ∀ x ∈ ws, x.length ≤ 300) (hgl : ∀ x ∈ gs, 0 ≤ x ∧ x ≤ 9)
  (k : ∀ t n vs tk', StrsAre vs (zak ws gs head width) → At F l ((t, zaa vs n) :: ro) rw tl tk' (Q (.ref t))) : At F l ro rw tl tk (wpAny (Mo w) A (call (.ref 258) [.ref aW, .ref aG, .int head th, .int width tw]) Q E) := .mk fun h S => by
 obtain ⟨a1, a2, a3⟩ := S.argR hmW C.fr
 obtain ⟨b1, b2, b3⟩ := S.argR hmG C.fr
 exact c_rows C.G (S.wd C.fr C.md) C.P a1 a2 a3 b1 b2 b3 hws hgs hl hn h0 hwl hgl fun t n vs h' tk' r n0 g0 hv => (k t n vs tk' hv).go h' (S.gotR r C.fr (ro' := []) (rw' := []) (S.back r C.fr) n0 g0)
theorem At.cText {aW nW aG nG : Nat} {vW vG : List Value} {ws : List Str} {gs : List Int} (C : Cx w A F env 20) (hmW : (aW, zaa vW nW) ∈ ro) (hmG : (aG, zaa vG nG) ∈ ro)
  (hws : StrsAre vW ws) (hgs : IntsAre vG gs) (hl : gs.length = ws.length) (hn : ws.length ≤ 20) (hwl : ∀ x ∈ ws, x.length ≤ 300) (hgl : ∀ x ∈ gs, 0 ≤ x ∧ x ≤ 9)
  (k : ∀ t tk', At F l ro rw tl tk' (Q (.str (zbo ws gs) t))) : At F l ro rw tl tk (wpAny (Mo w) A (call (.ref 251) [.ref aW, .ref aG]) Q E) := .mk fun h S => by
 obtain ⟨a1, a2, a3⟩ := S.argR hmW C.fr
 obtain ⟨b1, b2, b3⟩ := S.argR hmG C.fr
 exact c_text C.G (S.wd C.fr C.md) C.P a1 a2 a3 b1 b2 b3 hws hgs hl hn hwl hgl fun t h' tk' r => (k t tk').go h' (S.back r C.fr)
theorem At.cFold {x e : Str} {qs : List (Str × Str)} {head wd : Int} {t1 t2 t3 t4 : Nat} (C : Cx w A F env 14) (hB : AllBare F.g) (FO : FoldOk x qs head wd) (he : e.length ≤ 16)
  (k : ∀ t' g' tk', AllBare g' → At (F.sg g') l ro rw tl tk' (Q (.str (Txt.join e (zbx wd head qs)) t'))) : At F l ro rw tl tk (wpAny (Mo w) A (call (.ref 265) [.str x t1, .int head t2, .int wd t3, .str e t4]) Q E) :=
 .mk fun h S => c_fold C.G (S.wd C.fr C.md) C.P hB FO he fun t' h' g' tk' r b => (k t' g' tk' b).go h' (S.back r C.fr)
theorem At.cAlias {x v : Str} {t1 t2 t3 : Nat} (C : Cx w A F env 20) (hasc : ∀ c ∈ x.cps.toList, c ≠ 0 ∧ c < 128) (hlen : x.length ≤ 640) (hnum : ∀ p n, p ∈ Txt.split x dotS → PySem.intText? p = some n → n.natAbs < 10 ^ 8)
  (k : ∀ (a u1 u2 tk' : Nat) h, St F.uu F.ww F.X F.vv F.L l ro rw tl h → h.get? a = some (zac [.str (zav x).1 u1, .str (zav x).2 u2, .str v t3]) → Q (.ref a) ⟨h, F.g, F.d, tk', F.os⟩) : At F l ro rw tl tk (wpC (Mo w) A (call (.ref 66) [.str (ofString "SunOS") t1, .str x t2, .str v t3]) Q E) :=
 .mk fun h S => c_alias C.G (S.wd C.fr C.md) C.P hasc hlen hnum fun a u1 u2 h' tk' r g0 => k a u1 u2 tk' h' (S.back r C.fr) g0
theorem At.cRead {x : Str} {t1 aV nV : Nat} {vV : List Value} {vals : List (Option Int)} (C : Cx w A F env 30) (hm : (aV, zaa vV nV) ∈ ro) (hvs : All2 Sc vV (vals.map zbh)) (K : ReadOk x vals)
  (k : ∀ tk', At F l ro rw tl tk' (Q (.bool true))) : At F l ro rw tl tk (wpC (Mo w) A (call (.ref 284) [.str x t1, .ref aV]) Q E) := .mk fun h S => by
 obtain ⟨a1, a2, a3⟩ := S.argR hm C.fr
 exact c_read C.G (S.wd C.fr C.md) C.P a1 a2 a3 hvs K fun h' tk' r => (k tk').go h' (S.back r C.fr)
def KNotC (B : Bool → SP) (c : Bool) (s : Shared) : Prop := B (!c) s
def KOrC (M : Model) (A : Around) (E : VP) (env : Env) (rest : List Expr) (B : Bool → SP) (b : Bool) (s : Shared) : Prop := if b = true then B true s else wpC M A (allTrue .Or rest env) B E s
variable {B : Bool → SP} {P P' : SP} {R : Flow → SP} {ss : List Stmt} {c : Bool}
theorem At.fnC (G : Gd w F.uu) (P : Rm A (env :: F.vv) n) (hk : env.scope.kind = .function) (hL : env.locals = F.L) (hG : env.globals = 3) (hB : env.builtins = 0) (fr : env.frame = some F.L) (md : env.scope.kind ≠ .module) (k : Fn env F → Cx w A F env n → At F l ro rw tl tk (wpC (Mo w) A (execs ss env) R E)) : At F l ro rw tl tk (wpC (Mo w) A (execs ss env) R E) := k ⟨hk, hL, hG, hB⟩ ⟨G, P, fr, md⟩
theorem At.ctOr {x : Expr} {rest : List Expr} {whole : Sem Value} (k : At F l ro rw tl tk (wpC M A (PySem.isTrue x env (eval x env)) (KOrC M A E env rest B) E)) : At F l ro rw tl tk (wpC M A (PySem.isTrue (.BoolOp .Or (x :: rest) pos) env whole) B E) := .mk fun h S => ct_bool (ct_or (k.go h S))
theorem At.korC {x : Expr} {rest : List Expr} (k : At F l ro rw tl tk (wpC M A (PySem.isTrue x env (eval x env)) (KOrC M A E env rest B) E)) : At F l ro rw tl tk (KOrC M A E env (x :: rest) B false) := .mk fun h S => by
 unfold KOrC; rw [if_neg Bool.false_ne_true]; exact ct_or (k.go h S)
theorem At.korC0 (k : At F l ro rw tl tk (B false)) : At F l ro rw tl tk (KOrC M A E env [] B false) := .mk fun h S => by
 unfold KOrC; rw [if_neg Bool.false_ne_true]; exact zy (zP (k.go h S))
theorem At.ctNot {x : Expr} {whole : Sem Value} (k : At F l ro rw tl tk (wpC M A (PySem.isTrue x env (eval x env)) (KNotC B) E)) : At F l ro rw tl tk (wpC M A (PySem.isTrue (.UnaryOp .Not x pos) env whole) B E) := .mk fun h S => ct_not (k.go h S)
theorem At.knotC (k : At F l ro rw tl tk (B (!c))) : At F l ro rw tl tk (KNotC B c) := k
theorem At.ctVal {e : Expr} {whole : Sem Value} (k : At F l ro rw tl tk (wpC M A whole (KTruC M A E B) E)) (he : PySem.isTrue e env whole = (do let v ← whole; standAt e.pos; holding [v] (truthy v))) : At F l ro rw tl tk (wpC M A (PySem.isTrue e env whole) B E) := .mk fun h S => ct_value (k.go h S) he
theorem At.sumL {b nb : Nat} {vb : List Value} {ms : List Int} (hh : A.handled = none) (hm : (b, zaa vb nb) ∈ ro) (hi : IntsAre vb ms) (k : ∀ t tk', At F l ro rw tl tk' (Q (.int ms.sum t))) : At F l ro rw tl tk (wpAny (Mo w) A (call (.builtin "sum") [.ref b]) Q E) := .mk fun h S => o_sumL S hh hm hi fun t h' tk' S' => (k t tk').go h' S'
end
theorem za4 (a b c : Str) : (a ++ b) ++ c = a ++ (b ++ c) := by
 show Str.mk _ = Str.mk _
 congr 1
 exact Array.append_assoc
theorem zk5 (a : Str) : a ++ (⟨#[]⟩ : Str) = a := by
 show Str.mk (a.cps ++ #[]) = a
 rw [Array.append_empty]
theorem zhg (room : Int) : ∀ (z : List (Int × Str)) (row row' : Str), row.length = row'.length → ∃ ext rest, zaf room z row = (row ++ ext, rest) ∧ zaf room z row' = (row' ++ ext, rest)
 | [], row, row', h => ⟨⟨#[]⟩, [], by unfold zaf; rw [zk5], by unfold zaf; rw [zk5]⟩
 | (g, w) :: r, row, row', h => by
  unfold zaf
  rw [h]
  by_cases c : (row'.length : Int) + g + w.length ≤ room
  ·rw [zH c, zH c]
   obtain ⟨ext, rest, e1, e2⟩ := zhg room r ((row ++ zao g) ++ w) ((row' ++ zao g) ++ w) (by rw [Str.length_append, Str.length_append, Str.length_append, Str.length_append, h])
   refine ⟨(zao g ++ w) ++ ext, rest, ?_, ?_⟩
   ·rw [e1]; simp only [za4]
   ·rw [e2]; simp only [za4]
  ·rw [zG c, zG c]
   exact ⟨⟨#[]⟩, (g, w) :: r, by rw [zk5], by rw [zk5]⟩
noncomputable def inS (t : Str) (c : Nat) : Bool := !(Builtin.Str.occurrences t ⟨#[c]⟩ 0 t.length 1).isEmpty
noncomputable def zaq (p : Part) : Bool := p.val.isSome && inS (ofString "56789") (p.sp.cps.getD 0 0)
noncomputable def lowVal (p : Part) : Option Int := if zaq p = true then p.val.map (· - 3) else p.val
noncomputable def zas (p : Part) : Str := if zaq p = true then zag (p.val.getD 0 - 3) else p.sp
noncomputable def wordsOf (f : Str) (pr : List Part) : List Str := (wfold f pr).pre ++ [(wfold f pr).last]
noncomputable def zcq (w : Str) : Str := if inS (ofString "56789rx") (w.cps.getD 0 0) = true then ofString "Solaris" else ofString "SunOS"
structure WordsOk (ws : List Str) (gs : List Int) : Prop where
 len : gs.length = ws.length
 n : ws.length ≤ 20
 ne : ws ≠ []
 wl : ∀ x ∈ ws, x.length ≤ 300
 gl : ∀ x ∈ gs, 0 ≤ x ∧ x ≤ 9
 first : ∀ w0 wr, ws = w0 :: wr → 0 < w0.length
noncomputable def zjz (shift : Int) : List (Int × Int × Str) := [(0, (6 + shift).fmod 20, ofString "\n"), (4, (5 + shift).fmod 20, ofString "\r\n"), (0, (2 + shift).fmod 20, ofString "\r\n")]
noncomputable def joinRows (ws : List Str) (gs : List Int) (t : Int × Int × Str) : Str := Txt.join t.2.2 (zak ws gs t.1 t.2.1)
structure TripOk (ws fs : List Str) (gs : List Int) (sys : Str) (vals lows : List (Option Int)) (t : Int × Int × Str) : Prop where
 qs : ∃ qs, FoldOk (zbo ws gs) qs t.1 t.2.1 ∧ zbx t.2.1 t.1 qs = zak ws gs t.1 t.2.1
 qf : ∃ qs, FoldOk (zbo fs gs) qs t.1 t.2.1 ∧ zbx t.2.1 t.1 qs = zak fs gs t.1 t.2.1
 e : t.2.2.length ≤ 16
 w1 : ((zak ws gs t.1 t.2.1).map (·.length)).sum + (zak ws gs t.1 t.2.1).length ≤ 1048576
 w2 : ((zak fs gs t.1 t.2.1).map (·.length)).sum + (zak fs gs t.1 t.2.1).length ≤ 1048576
 row : ∃ r rest, zak ws gs t.1 t.2.1 = r :: rest ∧ zav (joinRows ws gs t) = if r = ofString "" then (ofString "SunOS", joinRows ws gs t) else (sys, joinRows fs gs t)
 ok : PyData.strOk (zav (joinRows ws gs t)).1 = true ∧ PyData.strOk (zav (joinRows ws gs t)).2 = true
 num : ∀ p n, p ∈ Txt.split (joinRows ws gs t) dotS → PySem.intText? p = some n → n.natAbs < 10 ^ 8
 r1 : ReadOk (joinRows ws gs t) vals
 r2 : ReadOk (joinRows fs gs t) lows
structure LawOk (ns : List Int) : Prop where
 sp : ∀ q ∈ zae ns, q.sp.length ≤ 10
 some : ∀ q ∈ zae ns, q.val.isSome = true → 0 < q.sp.length
 low : ∀ q ∈ zae ns, (zas q).length = q.sp.length
 words : ∀ p0 pr, zae ns = p0 :: pr → WordsOk (wordsOf p0.sp pr) (wfold p0.sp pr).gaps
 fewer : ∀ p0 pr, zae ns = p0 :: pr → WordsOk (wordsOf (zas p0) pr) (wfold p0.sp pr).gaps
 trip : ∀ p0 pr w0 wr, zae ns = p0 :: pr → wordsOf p0.sp pr = w0 :: wr → ∀ t ∈ zjz (ns.take 8).sum, TripOk (wordsOf p0.sp pr) (wordsOf (zas p0) pr) (wfold p0.sp pr).gaps (zcq w0) ((zae ns).map (·.val)) (lowVal p0 :: pr.map (·.val)) t
 val : ∀ q ∈ zae ns, ∀ i, q.val = Option.some i → i.natAbs < 10 ^ 5
noncomputable abbrev TL := LT
inductive LawC (aW aG aF aV aL : Nat) (sy : Str) (t : Nat) (tl : TL) : LC
 | mk {l : LS} (i : Nat) (g : Array GenState) (b : AllBare g) (l1 : l.lookup (ofString "words") = some (.ref aW)) (l2 : l.lookup (ofString "gaps") = some (.ref aG)) (l3 : l.lookup (ofString "fewer") = some (.ref aF))
   (l4 : l.lookup (ofString "system") = some (.str sy t)) (l5 : l.lookup (ofString "values") = some (.ref aV)) (l6 : l.lookup (ofString "lower") = some (.ref aL)) : LawC aW aG aF aV aL sy t tl i g l [] tl
theorem At.trip {F : Fx} {l : LS} {ro rw : LO} {tl : TL} {tk i T1 T2 T3 a1 a2 a3 b1 b2 b3 c1 c2 c3 : Nat} {v : Value} {o4 : Nat × Obj} {sh : Int} {P : SP} (hv : [Value.ref T1, Value.ref T2, Value.ref T3][i]? = some v)
  (k : ∀ T t th tw te, v = .ref T → t ∈ zjz sh → (T, zac [.int t.1 th, .int t.2.1 tw, .str t.2.2 te]) ∈ o4 :: (T3, zac [.int 0 c1, .int ((2 + sh).fmod 20) c2, .str (ofString "\r\n") c3]) :: (T2, zac [.int 4 b1, .int ((5 + sh).fmod 20) b2, .str (ofString "\r\n") b3]) :: (T1, zac [.int 0 a1, .int ((6 + sh).fmod 20) a2, .str (ofString "\n") a3]) :: ro →
   At F l (o4 :: (T3, zac [.int 0 c1, .int ((2 + sh).fmod 20) c2, .str (ofString "\r\n") c3]) :: (T2, zac [.int 4 b1, .int ((5 + sh).fmod 20) b2, .str (ofString "\r\n") b3]) :: (T1, zac [.int 0 a1, .int ((6 + sh).fmod 20) a2, .str (ofString "\n") a3]) :: ro) rw tl tk P) :
  At F l (o4 :: (T3, zac [.int 0 c1, .int ((2 + sh).fmod 20) c2, .str (ofString "\r\n") c3]) :: (T2, zac [.int 4 b1, .int ((5 + sh).fmod 20) b2, .str (ofString "\r\n") b3]) :: (T1, zac [.int 0 a1, .int ((6 + sh).fmod 20) a2, .str (ofString "\n") a3]) :: ro) rw tl tk P := by
 match i, hv with
 | 0, hv => cases hv; exact k _ _ _ _ _ rfl (.head _) (.tail _ (.tail _ (.tail _ (.head _))))
 | 1, hv => cases hv; exact k _ _ _ _ _ rfl (.tail _ (.head _)) (.tail _ (.tail _ (.head _)))
 | 2, hv => cases hv; exact k _ _ _ _ _ rfl (.tail _ (.tail _ (.head _))) (.tail _ (.head _))
 | n + 3, hv => cases hv
theorem o_neD {w : World} {A : Around} {E : VP} {s : Shared} {a b t1 t2 t3 u1 u2 u3 : Nat} {x y z : Str} {Q : VP} (hu : A.units ≤ 9000) (h1 : s.heap.get? a = some (zac [.str x t1, .str y t2, .str z t3])) (h2 : s.heap.get? b = some (zac [.str x u1, .str y u2, .str z u3]))
  (hx : PyData.strOk x = true) (hy : PyData.strOk y = true) (hz : PyData.strOk z = true) (hq : Q (.bool false) s) : wpAny (Mo w) A (compareOp .NotEq (.ref a) (.ref b)) Q E s := by
 refine o_neT hu h1 h2 (ss := [.str x, .str y, .str z]) (tt := [.str x, .str y, .str z]) (.cons rfl (.cons rfl (.cons rfl .nil))) (.cons rfl (.cons rfl (.cons rfl .nil))) ?_ rfl hq
 intro s hs
 simp only [List.mem_cons, List.not_mem_nil, or_false] at hs
 rcases hs with rfl | rfl | rfl
 ·exact hx
 ·exact hy
 ·exact hz
theorem noTup {p : Nat × Obj} (h : p ∈ ([] : LO)) : p.2.cls ≠ .type "tuple" := nomatch h
section
set_option tactic.hygienic true in
theorem c_law {aS nS : Nat} {vS : List Value} {ns : List Int} {Q : VP} (G : Gd w uu) (W : Wd uu vv h) (P : Rm A vv 40) (hB : AllBare g)
  (hS : h.get? aS = some (zaa vS nS)) (hSF : aS ∉ zab vv) (hST : ¬ za9 aS) (hns : IntsAre vS ns) (hn : ns.length ≤ 1000) (K : LawOk ns)
  (hq : ∀ h' g' tk', Ret uu vv h h' → AllBare g' → Q (.bool true) ⟨h', g', d, tk', os⟩) :
  wpC (Mo w) A (call (.ref 289) [.ref aS]) Q E ⟨h, g, d, tk, os⟩ := by
 refine zm5 (binds := [(ofString "script", .ref aS)]) G W P (G.get W.inv (a := 289) rfl) rfl rfl rfl rfl ⟨_, _, _, _, rfl, G.get W.inv (a := 288) rfl, rfl, rfl⟩ rfl (by decide) (zba rfl) (zP ⟨rfl, rfl⟩) ?_
 intro L h₁ tk₁ S0 R
 refine At.run (S0.entry hS hSF List.not_mem_nil hST (fun q hq => nomatch hq)) (At.fnC G R rfl rfl rfl rfl rfl (by intro z; cases z) fun N C => ?_)
 have lS := hns.length
 have sz : sizeLine = 16777216 := rfl
 refine At.cany ?_
 refine At.lift (fun y q => zhz R.handled q (by rfl) (by rfl) (by rfl)) ?_
 walk_at "EvC"
 refine At.cParts (C.le (by exact zg5)) (.head _) hns hn (fun y h => noTup h) ?_
 intro pA nP vP tk2 lP
 walk_at "EvC"
 refine At.sliceL (.inl (by walk_at "mem")) (by walk_at "mem") .none (.int _ _) (by exact om219 hn lS) (zgt _) ?_
 intro b
 walk_at "EvC"
 refine At.sumL R.handled (.head _) (hns.take 8) ?_
 intro ts tk5
 refine At.drop (ro' := [(pA, zaa vP nP)]) (rw' := []) (.cons _ (.cons _ (.cons_cons _ (zO _)))) (zO _) ?_
 generalize esh : (ns.take 8).sum = shift
 walk_at "EvC"
 obtain ⟨p0, pr, ep⟩ : ∃ p0 pr, zae ns = p0 :: pr := by
  cases e : zae ns with
  | nil =>
   have := congrArg List.length e
   unfold zae zbp at this
   simp at this
  | cons a r => exact ⟨a, r, rfl⟩
 have hp0 : p0 ∈ zae ns := by rw [ep]; exact .head _
 have lP10 : (zae ns).length ≤ 10 := by
  unfold zae zbp
  simp
  exact om309
 obtain ⟨v0, vr, rfl⟩ : ∃ v0 vr, vP = v0 :: vr := by
  cases vP with
  | nil => rw [ep] at lP; cases lP
  | cons a r => exact ⟨a, r, rfl⟩
 refine At.cany ?_
 refine At.lift (fun y q => zfh q (by rfl) (by rfl)) ?_
 walk_at "EvC"
 refine At.item (.inl (.head _)) (j := 0) (.inl rfl) rfl (by rw [lP]; exact om314 lP10) ?_
 refine At.openT (i := 0) (.head _) rfl ?_
 intro T0 us0 xs0 e0 hx0 hsc0
 subst e0
 rw [ep] at hx0
 cases hx0
 obtain ⟨t01, vn, t03, rfl, hvn⟩ := zdc hsc0
 refine At.tuple3 R.handled (.head _) ?_
 walk_at "EvC"
 refine At.cany ?_
 refine At.asg ?_ (by rfl)
 refine At.val (· = .bool (zaq p0)) ?_ ?_
 ·refine At.lift (fun y => BoolOp_and) ?_
  refine At.lift (fun y q => wpAny_Compare1 q (by rfl)) ?_
  walk_at "EvC"
  unfold zaq
  rcases hvn with ⟨ev, rfl⟩ | ⟨n0, tn0, ev, rfl⟩
  ·refine At.lift (fun y q => wpAny_isNot_plain (by rfl) q) ?_
   walk_at "EvC"
   refine At.ifF rfl ?_
   exact At.endP (by rw [ev]; rfl)
  ·refine At.lift (fun y q => wpAny_isNot_plain (by rfl) q) ?_
   walk_at "EvC"
   refine At.ifT rfl ?_
   refine At.lift (fun y => BoolOp_one) ?_
   refine At.lift (fun y q => wpAny_Compare1 q (by rfl)) ?_
   walk_at "EvC"
   refine At.itemSk rfl (K.some p0 hp0 (by rw [ev]; rfl)) (by have := K.sp p0 hp0; exact om311 this) ?_
   walk_at "EvC"
   exact At.endP (by rw [ev]; rfl)
 rintro _ tk10 rfl
 walk_at "EvC"
 refine At.cany ?_
 refine .mk fun h10 S10 => ?_
 refine zgm (cl := []) rfl ?_ rfl rfl (by decide)
 walk_at "All"
 refine zea S10 (.inl (.tail _ (.head _))) ?_
 intro it h11 io hio hit hit0 S11
 obtain ⟨oL, _, _, hoL, _⟩ := id S11.ns
 refine zjq (its := [(it, io)]) (rw := []) hoL (zjk (.tail _ (.tail _ (.head _))) List.not_mem_nil) R.handled (by rw [lP]; exact om311 lP10) (fun i vs => All2 Sc vs (((zae ns).take i).map fun q => zbh q.val) ∧ vs.length ≤ i) (fun y y hp => hp.2) S11 ⟨.nil, Ze _⟩ ⟨_, rfl, hio⟩ (by decide) rfl ?_ ?_
 ·rintro C acc i v new vs m l its h12 tk12 hi ⟨rfl, hvi⟩ ⟨hvs', hvl'⟩ S12
  clear hq K
  obtain ⟨xs, hxs, T, us, rfl, hT, hsc⟩ := All2.get (S12.htl _ (.head _)) hvi
  obtain ⟨q, hqi, rfl⟩ : ∃ q, (zae ns)[i]? = some q ∧ q.sc = xs := by
   rw [List.getElem?_map] at hxs
   cases e : (zae ns)[i]? with
   | none => rw [e] at hxs; cases hxs
   | some q => rw [e] at hxs; exact ⟨q, rfl, Option.some.inj hxs⟩
  obtain ⟨t1, v2, t3, rfl, hv2⟩ := zdc hsc
  have S13 := S12.addTupIn ⟨_, .head _, zR hvi⟩ hT
  refine zjv R.handled S13 hT ?_
  intro h13 S14
  walk_at "All"
  refine zb4 ?_
  walk_at "All"
  rename_i h15 S15
  have est : ((zae ns).take (i + 1)).map (fun q => zbh q.val) = ((zae ns).take i).map (fun q => zbh q.val) ++ [zbh q.val] := by
   rw [List.take_add_one, hqi]; simp
  rw [est]
  refine CpE.mk ⟨hvs'.snoc ?_, by simp; exact om50 hvl'⟩ (S15.drop (.cons _ (.refl _)) (.refl _))
  rcases hv2 with ⟨e, rfl⟩ | ⟨i', t, e, rfl⟩
  ·rw [e]; trivial
  ·rw [e]; rfl
 rintro aV vV nV h12 tk12 ⟨hvs', hvl'⟩ hacc S12
 walk_at "All"
 rw [lP, List.take_length] at hvs'
 rw [lP] at hvl'
 obtain ⟨l13, S13, k1, k2, k3, k4, k5, k6⟩ : ∃ l', St uu h [] vv L l' [(aV, zaa vV nV), (pA, zaa (Value.ref T0 :: vr) nP)] [] [(Value.ref T0 :: vr, (zae ns).map Part.sc)] h12 ∧ l'.lookup (ofString "parts") = some (.ref pA) ∧ l'.lookup (ofString "first") = some (.str p0.sp t01) ∧
   l'.lookup (ofString "number") = some vn ∧ l'.lookup (ofString "lowered") = some (.bool (zaq p0)) ∧ l'.lookup (ofString "values") = some (.ref aV) ∧ l'.lookup (ofString "shift") = some (.int shift ts) :=
  ⟨_, S12.toRo.drop (.cons_cons _ (.cons _ (.refl _))) (.refl _), by walk_at "lk", by walk_at "lk", by walk_at "lk", by walk_at "lk", by walk_at "lk", by walk_at "lk"⟩
 clear S12 S11 S10
 have lV : vV.length ≤ 10 := om313 lP10 hvl'
 refine At.run (g := g) (d := d) (os := os) S13 ?_
 walk_at "EvC"
 refine At.cany ?_
 refine At.asg (At.bin (At.elist (At.sp ?_ (by rfl)))) (by rfl)
 refine At.val (fun v => Sc v (zbh (lowVal p0))) ?_ ?_
 ·walk_at "EvC"
  cases hl : zaq p0 with
  | true =>
   have hl' := hl
   unfold zaq at hl'
   rcases hvn with ⟨ev, rfl⟩ | ⟨n0, tn0, ev, rfl⟩
   ·rw [ev] at hl'; cases hl'
   ·refine At.iteT ?_
    walk_at "EvC"
    exact At.endP (by unfold lowVal; rw [if_pos hl, ev]; rfl)
  | false =>
   refine At.iteF ?_
   walk_at "EvC"
   refine At.endP ?_
   unfold lowVal
   rw [zG (by rw [hl]; decide)]
   rcases hvn with ⟨ev, rfl⟩ | ⟨n0, tn0, ev, rfl⟩
   ·rw [ev]; trivial
   ·rw [ev]; rfl
 intro vl tk14 hvl
 walk_at "EvC"
 refine At.sliceL (.inl (by walk_at "mem")) (by walk_at "mem") (.int _ _) .none (by exact om314 lV) (zcs _) ?_
 intro sb
 walk_at "EvC"
 refine At.cat (.inr (.head _)) (.inl (.head _)) (by simp; exact om315 lV) ?_
 intro aL
 refine At.drop (.cons_cons _ (.cons _ (.cons _ (.refl _)))) (.cons _ (.refl _)) ?_
 have hvL : All2 Sc ([vl] ++ vV.drop 1) ((lowVal p0 :: pr.map (·.val)).map zbh) := by
  rw [ep, Zi] at hvs'
  have hd := All2.drop hvs' 1
  rw [List.drop_succ_cons, List.drop_zero] at hd
  rw [Zi, List.map_map]
  exact .cons hvl hd
 walk_at "EvC"
 refine At.cany ?_
 refine At.lift (fun y q => zfh q (by rfl) (by rfl)) ?_
 walk_at "EvC"
 refine At.cWords (ps := zae ns) (C.le (by exact zg5)) (.tail _ (.tail _ (.head _))) (.head _) lP10 K.sp (K.sp p0 hp0) (fun y h => noTup h) ?_
 rw [show (zae ns).drop 1 = pr from by rw [ep]; rfl]
 intro tW aW aG nW nG vW vG tk16 hvW hvG
 refine At.tuple2 R.handled (.head _) ?_
 refine At.drop (.cons _ (.refl _)) (.refl _) ?_
 walk_at "EvC"
 refine At.cany ?_
 refine At.asg (At.sub (At.callN (At.glob G rfl (At.kcallO (by rfl) (At.sp ?_ (by rfl)) (by rfl))))) (by rfl)
 refine At.val (fun v => ∃ t, v = .str (zas p0) t) ?_ ?_
 ·walk_at "EvC"
  cases hl : zaq p0 with
  | true =>
   have hl' := hl
   unfold zaq at hl'
   rcases hvn with ⟨ev, rfl⟩ | ⟨n0, tn0, ev, rfl⟩
   ·rw [ev] at hl'; cases hl'
   ·refine At.iteT ?_
    obtain ⟨tl0, rfl⟩ : ∃ t, vl = .int (n0 - 3) t := by
     unfold lowVal at hvl
     rw [zH hl, ev] at hvl
     exact Sc.int hvl
    walk_at "EvC"
    refine At.item (.inl (.tail _ (.tail _ (.head _)))) (j := 0) (.inl rfl) rfl (by simp; rw [Nat.add_comm]; exact om315 lV) ?_
    walk_at "EvC"
    refine At.strI R.handled G (by exact om318 (K.val p0 hp0 n0 ev)) ?_
    exact At.endP ⟨_, by unfold zas; rw [if_pos hl, ev]; rfl⟩
  | false =>
   refine At.iteF ?_
   walk_at "EvC"
   exact At.endP ⟨_, by unfold zas; rw [if_neg (by rw [hl]; decide)]⟩
 rintro _ tk19 ⟨t19, rfl⟩
 walk_at "EvC"
 refine At.cWords (ps := zae ns) (C.le (by exact zg5)) (.tail _ (.tail _ (.tail _ (.tail _ (.head _))))) (.head _) lP10 K.sp (by rw [K.low p0 hp0]; exact K.sp p0 hp0) (fun y h => noTup h) ?_
 rw [show (zae ns).drop 1 = pr from by rw [ep]; rfl]
 intro tF aF aH nF nH vF vH tk20 hvF hvH
 walk_at "EvC"
 refine At.itemT (.head _) (j := 0) rfl rfl (blT rfl) ?_
 walk_at "EvC"
 refine At.drop (.cons _ (.cons _ (.refl _))) (.refl _) ?_
 have KW := K.words p0 pr ep
 have KF := K.fewer p0 pr ep
 have hvW : StrsAre vW (wordsOf p0.sp pr) := hvW
 have hvF : StrsAre vF (wordsOf (zas p0) pr) := hvF
 obtain ⟨w0, wr, ew⟩ : ∃ w0 wr, wordsOf p0.sp pr = w0 :: wr := by
  cases e : wordsOf p0.sp pr with
  | nil => exact absurd e KW.ne
  | cons a b => exact ⟨a, b, rfl⟩
 obtain ⟨tw0, hvw0⟩ := zbj hvW (i := 0) (n := w0) (by rw [ew]; rfl)
 refine At.cany ?_
 refine At.asg ?_ (by rfl)
 refine At.val (fun v => ∃ t, v = .str (zcq w0) t) ?_ ?_
 ·walk_at "EvC"
  refine At.item (.inl (.tail _ (.tail _ (.head _)))) (j := 0) (.inl rfl) hvw0 (by rw [zax hvW]; exact om320 rfl KW.n) ?_
  walk_at "EvC"
  refine At.itemSk rfl (KW.first w0 wr ew) (by have := KW.wl w0 (by rw [ew]; exact .head _); exact om321 this) ?_
  walk_at "EvC"
  show At _ _ _ _ _ _ (Br _ _ (inS (ofString "56789rx") (w0.cps.getD 0 0)))
  cases hs : inS (ofString "56789rx") (w0.cps.getD 0 0) with
  | true =>
   refine At.iteT ?_
   walk_at "EvC"
   exact At.endP ⟨_, by unfold zcq; rw [if_pos hs]⟩
  | false =>
   refine At.iteF ?_
   walk_at "EvC"
   exact At.endP ⟨_, by unfold zcq; rw [if_neg (by rw [hs]; decide)]⟩
 rintro _ tk22 ⟨t22, rfl⟩
 walk_at "EvC"
 refine At.cforL ?_
 walk_at "EvC"
 rename_i T1 T2 T3 T4
 have hvV : All2 Sc vV (((zae ns).map (·.val)).map zbh) := by rw [List.map_map]; exact hvs'
 refine At.kforCT R.handled (LawC aW aG aF aV aL (zcq w0) t22 _) (fun y => List.not_mem_nil) (.head _) (.mk 0 g hB (by walk_at "lk") (by walk_at "lk") (by walk_at "lk") (by walk_at "lk") (by walk_at "lk") (by walk_at "lk")) ?_ ?_
 ·intro i v g' l rw tl tk p hv D
  cases D with
  | mk _ _ gB l1 l2 l3 l4 l5 l6 =>
  have N := N.sg (g := g')
  have C := C.sg (g := g')
  refine At.trip hv ?_
  rintro T t th tw te rfl htm hT
  have TK := K.trip p0 pr w0 wr ep ew t (by rw [esh]; exact htm)
  have hvG : IntsAre vG (wfold p0.sp pr).gaps := hvG
  refine At.tuple3 R.handled hT ?_
  walk_at "EvC"
  refine At.cany ?_
  walk_at "EvC"
  refine At.cRows (C.le (by exact zg5)) (by walk_at "mem") (by walk_at "mem") hvW hvG KW.len KW.n KW.ne KW.wl KW.gl ?_
  intro aR nR vR tk27 hvR
  walk_at "EvC"
  refine At.cany ?_
  walk_at "EvC"
  refine At.cText (C.le (by exact zg5)) (by walk_at "mem") (by walk_at "mem") hvW hvG KW.len KW.n KW.wl KW.gl ?_
  intro _ _
  walk_at "EvC"
  obtain ⟨q29, F29, e29⟩ := TK.qs
  refine At.cFold (C.le (by exact om323)) gB F29 TK.e ?_
  rw [e29]
  intro tf29 g29 _ B29
  have N := N.sg (g := g29)
  have C := C.sg (g := g29)
  walk_at "EvC"
  refine At.cany ?_
  walk_at "EvC"
  refine At.cText (C.le (by exact zg5)) (by walk_at "mem") (by walk_at "mem") hvF hvG KF.len KF.n KF.wl KW.gl ?_
  intro _ _
  walk_at "EvC"
  obtain ⟨q31, F31, e31⟩ := TK.qf
  refine At.cFold (C.le (by exact om323)) B29 F31 TK.e ?_
  rw [e31]
  intro tf31 g31 _ B31
  have N := N.sg (g := g31)
  have C := C.sg (g := g31)
  walk_at "EvC"
  refine At.cif (At.toC ?_)
  walk_at "EvC"
  with_reducible refine At.mstr F.slot_str_join F.type_str_join ?_ ?za ?zb ?zc
  case za => walk_at "ab"
  case zb => rfl
  case zc => rfl
  walk_at "EvC"
  refine At.joinL (by walk_at "either") hvR TK.e TK.w1 ?_
  intro _ _
  walk_at "EvC"
  refine At.brF (by simp) ?_
  walk_at "EvC"
  with_reducible refine At.mstr F.slot_str_join F.type_str_join ?_ ?za ?zb ?zc
  case za => walk_at "ab"
  case zb => rfl
  case zc => rfl
  walk_at "EvC"
  refine At.cRows (C.le (by exact zg5)) (by walk_at "mem") (by walk_at "mem") hvF hvG KF.len KF.n KF.ne KF.wl KW.gl ?_
  intro aQ nQ vQ tk34 hvQ
  walk_at "EvC"
  refine At.joinL (.inl (.head _)) hvQ TK.e TK.w2 ?_
  intro _ _
  walk_at "EvC"
  refine At.brF (by simp) ?_
  walk_at "EvC"
  obtain ⟨r0, rr0, er0, eal⟩ := TK.row
  have hvR' := hvR
  rw [er0] at hvR'
  obtain ⟨tr0, hvr0⟩ := zbj hvR' (i := 0) (n := r0) rfl
  refine At.cany ?_
  refine At.asg ?_ (by rfl)
  refine At.valR (fun o => ∃ t1 t2 t3, o = zac [.str (zav (joinRows (wordsOf p0.sp pr) (wfold p0.sp pr).gaps t)).1 t1, .str (zav (joinRows (wordsOf p0.sp pr) (wfold p0.sp pr).gaps t)).2 t2, .str (ofString "sun4u") t3]) ?_ ?_
  ·walk_at "EvC"
   refine At.item (.inl (.tail _ (.head _))) (j := 0) (.inl rfl) hvr0 (by rw [zax hvR]; have := TK.w1; exact om325 (om324 this rfl)) ?_
   rw [eal]
   walk_at "EvC"
   refine At.ite (fun hr => ?_) (fun hr => ?_)
   ·rw [zH hr]
    walk_at "EvC"
    exact At.endR ⟨_, _, _, rfl⟩
   ·rw [zG hr]
    walk_at "EvC"
    exact At.endR ⟨_, _, _, rfl⟩
  rintro aD _ tk36 ⟨t1, t2, t3, rfl⟩
  walk_at "EvC"
  refine At.cif (At.ccmp ?_ (by rfl))
  walk_at "EvC"
  refine At.cAlias (x := joinRows (wordsOf p0.sp pr) (wfold p0.sp pr).gaps t) (C.le (by exact zg5)) TK.r1.asc TK.r1.len TK.num ?_
  intro aA u1 u2 tk38 h38 S38 gA
  refine zy (zij S38 (by walk_at "lk") ?_)
  refine zy (o_neD R.u9 gA (S38.hro _ (.head _)).1 TK.ok.1 TK.ok.2 (by decide +kernel) ?_)
  refine zy (wpAny_truthy_bool ?_)
  refine At.run (g := g31) (d := d) (os := os) S38 ?_
  walk_at "EvC"
  refine At.cif ?_
  walk_at "EvC"
  refine At.cRead (x := joinRows (wordsOf p0.sp pr) (wfold p0.sp pr).gaps t) (C.le (by exact om326)) (by walk_at "mem") hvV TK.r1 ?_
  intro tk39
  walk_at "EvC"
  refine At.korC ?_
  walk_at "EvC"
  refine At.cRead (x := joinRows (wordsOf (zas p0) pr) (wfold p0.sp pr).gaps t) (C.le (by exact om326)) (by walk_at "mem") hvL TK.r2 ?_
  intro tk40
  walk_at "EvC"
  refine At.korC0 ?_
  walk_at "EvC"
  refine At.drop (ro := _ :: _ :: _ :: _) (.cons _ (.cons _ (.cons _ (.refl _)))) (.refl _) ?_
  exact At.endG (F := ⟨uu, h, [], vv, L, g, d, os⟩) (g := g31) (.mk _ _ B31 (by walk_at "lk") (by walk_at "lk") (by walk_at "lk") (by walk_at "lk") (by walk_at "lk") (by walk_at "lk"))
 ·intro g2 l rw tl tk D
  cases D with
  | mk _ _ gB l1 l2 l3 l4 l5 l6 =>
  have N := N.sg (g := g2)
  refine At.cret (At.toC ?_)
  walk_at "EvC"
  refine .mk fun h' S' => ?_
  exact hq _ _ _ S'.ret gB
end
theorem zhs (a : Str) : (ofString "" ++ a : Str) = a := by
 obtain ⟨c⟩ := a
 show (⟨(ofString "").cps ++ c⟩ : Str) = ⟨c⟩
 rw [show (ofString "").cps = #[] from by decide +kernel]
 simp
theorem zle (p : Str × Str) : pcat p = p.1 ++ p.2 := by
 unfold pcat
 show p.1 ++ ofString "" ++ p.2 = _
 rw [za4, zhs]
theorem zhe (a : Str) : ∀ ys : List Str, Str.join (ofString "") (ys ++ [a]) = Str.join (ofString "") ys ++ a
 | [] => by
  show a = Str.empty ++ a
  rw [show Str.empty = ofString "" from by decide +kernel, zhs]
 | [y] => by
  show y ++ ofString "" ++ a = y ++ a
  rw [za4, zhs]
 | y :: z :: r => by
  have := zhe a (z :: r)
  show y ++ ofString "" ++ Str.join (ofString "") ((z :: r) ++ [a]) = (y ++ ofString "" ++ Str.join (ofString "") (z :: r)) ++ a
  rw [this, za4, za4, za4]
theorem ze2 (ps : List (Str × Str)) (q : Str × Str) : zar (ps ++ [q]) = zar ps ++ (q.1 ++ q.2) := by
 unfold zar
 rw [show Txt.join (ofString "") ((ps ++ [q]).map pcat) = Str.join (ofString "") ((ps ++ [q]).map pcat) from StrLaws.glued_eq_join _ _, show Txt.join (ofString "") (ps.map pcat) = Str.join (ofString "") (ps.map pcat) from StrLaws.glued_eq_join _ _]
 rw [List.map_append, List.map_singleton, zhe, zle]
theorem zc2 (q : Str × Str) : zar [q] = q.1 ++ q.2 := by
 have := ze2 [] q
 rw [List.nil_append] at this
 rw [this]
 have e : zar [] = ofString "" := by decide +kernel
 rw [e, zhs]
theorem zcu : ∀ ys : List Str, (Str.join (ofString "") ys).length = (ys.map (·.length)).sum
 | [] => by decide +kernel
 | [y] => by show y.length = _; simp
 | y :: z :: r => by
  have := zcu (z :: r)
  show (y ++ ofString "" ++ Str.join (ofString "") (z :: r)).length = _
  rw [Str.length_append, Str.length_append, this, show (ofString "").length = 0 from rfl]
  simp
theorem zgx (ps : List (Str × Str)) : (zar ps).length = plens ps := by
 unfold zar plens
 rw [show Txt.join (ofString "") (ps.map pcat) = Str.join (ofString "") (ps.map pcat) from StrLaws.glued_eq_join _ _, zcu, List.map_map]
 congr 1
 apply List.map_congr_left
 intro p _
 show (pcat p).length = plen p
 rw [zle, Str.length_append]; rfl
noncomputable def gw (z : List (Int × Str)) : List (Str × Str) := z.map fun p => (zao p.1, p.2)
noncomputable def fin (s : ChS) : List Str := s.ls ++ [zar s.ps]
theorem zbw {g : Int} (h : 0 ≤ g) : ((zao g).length : Int) = g := zce h
theorem zcc (wd : Int) : ∀ (z : List (Int × Str)) (ls : List Str) (ps : List (Str × Str)) (k : Int), (∀ p ∈ z, 0 ≤ p.1) → ps ≠ [] →
  fin (zaw wd ⟨ls, ps, k⟩ (gw z)) = ls ++ (zaf (wd - k) z (zar ps)).1 :: zbn wd (zaf (wd - k) z (zar ps)).2 wd
 | [], ls, ps, k, _, _ => by
  show ls ++ [zar ps] = _
  unfold zaf
  dsimp only
  rw [ze0]
 | (g, w) :: r, ls, ps, k, hg, hp => by
  have hg0 : 0 ≤ g := hg (g, w) (.head _)
  have hgr : ∀ p ∈ r, 0 ≤ p.1 := fun p hp => hg p (.tail _ hp)
  have el : (plens (ps ++ [(zao g, w)]) : Int) = (zar ps).length + g + w.length := by
   rw [ze3, zgx]
   unfold plen
   have := zbw hg0
   exact om97 this
  show fin (zaw wd (zb6 wd (zao g, w) ⟨ls, ps, k⟩) (gw r)) = _
  unfold zb6
  by_cases hc : k + (plens (ps ++ [(zao g, w)]) : Int) ≤ wd
  ·rw [zH hc]
   rw [zcc wd r ls (ps ++ [(zao g, w)]) k hgr (by simp)]
   have hi : zaf (wd - k) ((g, w) :: r) (zar ps) = zaf (wd - k) r ((zar ps ++ zao g) ++ w) := by
    conv => lhs; unfold zaf
    rw [zH (by exact om98 el hc)]
   rw [hi, ze2]
   rw [← za4]
  ·rw [zG hc, zG hp]
   rw [zcc wd r (ls ++ [zar ps]) [(zao g, w)] 0 hgr (by simp)]
   have hi : zaf (wd - k) ((g, w) :: r) (zar ps) = (zar ps, (g, w) :: r) := by
    conv => lhs; unfold zaf
    rw [zG (by exact om99 el hc)]
   rw [hi, zc2, Int.sub_zero]
   dsimp only
   conv => rhs; rw [zay]
   simp
noncomputable def qsOf (ws : List Str) (gs : List Int) : List (Str × Str) := match ws with
 | [] => []
 | w0 :: wr => (ofString "", w0) :: gw (gs.tail.zip wr)
theorem fold_law {w0 : Str} {wr : List Str} {gr : List Int} {head wd : Int} (hg : ∀ g ∈ gr, 0 ≤ g) (hh : 0 ≤ head) : zbx wd head (qsOf (w0 :: wr) (0 :: gr)) = zak (w0 :: wr) (0 :: gr) head wd := by
 have hz : ∀ p ∈ gr.zip wr, 0 ≤ p.1 := fun p hp => hg _ (List.of_mem_zip (show (p.1, p.2) ∈ _ from hp)).1
 have e0 : (ofString "").length = 0 := rfl
 have b0 : zao 0 = ofString "" := by decide +kernel
 have b1 : zao 1 = ofString " " := by decide +kernel
 have el : (plens ([] ++ [((ofString "", w0) : Str × Str)]) : Int) = w0.length := by
  have := e0; exact om100
 show fin (zaw wd (zb6 wd (ofString "", w0) ⟨[], [], head⟩) (gw (gr.zip wr))) = _
 have eR : zak (w0 :: wr) (0 :: gr) head wd = if 0 < head ∧ wd - head < (w0.length : Int) then ofString "" :: zbn wd ((1, w0) :: gr.zip wr) wd else zbn wd ((0, w0) :: gr.zip wr) (wd - head) := rfl
 rw [eR]
 unfold zb6
 dsimp only
 by_cases hc : head + (plens ([] ++ [((ofString "", w0) : Str × Str)]) : Int) ≤ wd
 ·rw [zH hc, zG (by exact om101 el hc)]
  rw [zcc wd _ _ _ _ hz (by simp), zay, b0, List.nil_append, List.nil_append, zc2]
 ·rw [zG hc, zH rfl]
  by_cases hk : 0 < head
  ·rw [zH hk, zH (show 0 < head ∧ wd - head < (w0.length : Int) from ⟨hk, by exact om102 el hc⟩)]
   try rw [zH e0]
   rw [zcc wd _ _ _ _ hz (by simp), zay, b1, zc2, Int.sub_zero]
   rfl
  ·rw [zG hk, zG (by exact om103 hk)]
   rw [zcc wd _ _ _ _ hz (by simp), zay, b0, List.nil_append, zc2]
noncomputable def chars (s : Str) : List Nat := s.cps.toList
theorem za1 {a b : Str} (h : chars a = chars b) : a = b := by
 obtain ⟨⟨a⟩⟩ := a
 unfold chars at h
 simp at h
 rw [h]
theorem zam (a b : Str) : chars (a ++ b) = chars a ++ chars b := by
 show (a.cps ++ b.cps).toList = _
 rw [Array.toList_append]; rfl
theorem zbq (t : Array Nat) (i : Nat) : t.getD i 0 = t.toList.getD i 0 := by
 rw [Array.getD_eq_getD_getElem?, List.getD_eq_getElem?_getD, Array.getElem?_toList]
theorem zbm {P : Nat → Bool} {t : Array Nat} : ∀ (mid pre post : List Nat) (n : Nat), t.toList = pre ++ mid ++ post → (∀ c ∈ mid, P c = true) → (post = [] ∨ ∃ c r, post = c :: r ∧ P c = false) → P 0 = false → mid.length ≤ n → runLen P t n pre.length = mid.length
 | [], pre, post, n, ht, _, hp, h0, _ => by
  cases n with
  | zero => rfl
  | succ n =>
   unfold runLen
   rw [zbq, ht]
   have : P ((pre ++ [] ++ post).getD pre.length 0) = false := by
    rw [List.append_nil]
    rcases hp with rfl | ⟨c, r, rfl, hc⟩
    ·rw [List.append_nil, List.getD_eq_getElem?_getD, List.getElem?_eq_none (Ze _)]
     exact h0
    ·rw [List.getD_eq_getElem?_getD, List.getElem?_append_right (Ze _), Nat.sub_self]
     exact hc
   rw [this]
   rfl
 | c :: mid, pre, post, n, ht, hm, hp, h0, hn => by
  obtain ⟨n', rfl⟩ : ∃ n', n = n' + 1 := ⟨n - 1, by simp at hn; exact om104 hn⟩
  unfold runLen
  have hg : t.getD pre.length 0 = c := by
   rw [zbq, ht, List.append_assoc, List.getD_eq_getElem?_getD, List.getElem?_append_right (Ze _), Nat.sub_self]
   rfl
  rw [hg, zH (hm c (.head _))]
  have := zbm (P := P) (t := t) mid (pre ++ [c]) post n' (by rw [ht]; simp) (fun c hc => hm c (.tail _ hc)) hp h0 (by simp at hn; exact om50 hn)
  rw [zY, List.length_singleton] at this
  rw [this]
  rfl
noncomputable def zb8 (w : Str) (z : List (Int × Str)) : List Nat := chars w ++ z.flatMap fun p => chars (zao p.1) ++ chars p.2
def ziw (w : Str) : Prop := ∀ c ∈ chars w, spcB c = false
theorem zi8 : ∀ (n : Nat) (acc : Array Nat), ((List.replicate n (#[32] : Array Nat)).foldl (· ++ ·) acc).toList = acc.toList ++ List.replicate n 32
 | 0, acc => by simp
 | n + 1, acc => by
  rw [List.replicate_succ, List.foldl_cons, zi8 n, Array.toList_append, List.replicate_succ]
  simp
theorem zc7 {g : Int} (h : 0 ≤ g) : chars (zao g) = List.replicate g.toNat 32 := by
 have e1 : (ofString " ").cps = #[32] := by decide +kernel
 have e2 : (ofString " ").length = 1 := by decide +kernel
 unfold chars zao Txt.mul
 by_cases h1 : g < 1
 ·rw [zH h1]
  have : g = 0 := by exact om110 h h1
  subst this; rfl
 ·rw [zG h1]
  by_cases h2 : (g == 1 || (ofString " ").length == 0) = true
  ·rw [zH h2]
   rw [e2] at h2
   simp at h2
   subst h2
   rw [e1]; rfl
  ·rw [zG h2]
   rw [e1, zi8]; rfl
theorem zit {g : Int} (h : 0 ≤ g) : ∀ c ∈ chars (zao g), spcB c = true := by
 intro c hc
 rw [zc7 h] at hc
 rw [List.eq_of_mem_replicate hc]; rfl
theorem zdv {t : Array Nat} {pre mid post : List Nat} (h : t.toList = pre ++ mid ++ post) : chars ⟨t.extract pre.length (pre.length + mid.length)⟩ = mid := by
 unfold chars
 rw [Array.toList_extract, h]
 simp [List.extract, List.append_assoc]
theorem zmj {t : Array Nat} {pre post : List Nat} {c : Nat} (h : t.toList = pre ++ c :: post) (hc : spcB c = false) : end2 t pre.length = none := by
 have := zbm (P := spcB) (t := t) [] pre (c :: post) (t.size - pre.length) (by rw [h]; simp) (fun j h => nomatch h) (.inr ⟨c, post, rfl, hc⟩) rfl (Nat.zero_le _)
 unfold end2
 rw [this, zG (by simp)]
theorem zmi {t : Array Nat} {pre mid post : List Nat} (h : t.toList = pre ++ mid ++ post) (hm : ∀ c ∈ mid, spcB c = true) (hne : mid ≠ []) (hp : post = [] ∨ ∃ c r, post = c :: r ∧ spcB c = false) : end2 t pre.length = some (pre.length + mid.length) := by
 have hz : t.size = pre.length + mid.length + post.length := by rw [← Array.length_toList, h]; simp; exact om59
 have := zbm (P := spcB) (t := t) mid pre post (t.size - pre.length) h hm hp rfl (by exact om60 hz)
 have hl : 1 ≤ mid.length := by cases mid with
  | nil => exact absurd rfl hne
  | cons => simp
 unfold end2
 rw [this, zH hl]
theorem zd3 {t : Array Nat} : ∀ (w pre post : List Nat), t.toList = pre ++ w ++ post → (∀ c ∈ w, spcB c = false) → seek (end2 t) (t.size - pre.length) pre.length = seek (end2 t) (t.size - (pre ++ w).length) (pre ++ w).length
 | [], pre, post, _, _ => by rw [List.append_nil]
 | c :: w, pre, post, h, hw => by
  have hz : t.size = pre.length + (w.length + 1) + post.length := by rw [← Array.length_toList, h]; simp; exact om61
  obtain ⟨n, hn⟩ : ∃ n, t.size - pre.length = n + 1 := ⟨t.size - pre.length - 1, by exact om62 hz⟩
  have e := zmj (t := t) (pre := pre) (post := w ++ post) (c := c) (by rw [h]; simp) (hw c (.head _))
  have ih := zd3 (t := t) w (pre ++ [c]) post (by rw [h]; simp) (fun c hc => hw c (.tail _ hc))
  rw [hn]
  conv => lhs; unfold seek
  rw [e]
  dsimp only
  have e2 : n = t.size - (pre ++ [c]).length := by rw [zY, List.length_singleton]; exact om63 hn
  rw [e2, show pre.length + 1 = (pre ++ [c]).length from by simp, ih]
  simp
theorem zmu {t : Array Nat} : ∀ (z : List (Int × Str)) (w : Str) (pre : List Nat) (Ls : List Str), t.toList = pre ++ zb8 w z → ziw w → (∀ p ∈ z, 1 ≤ p.1 ∧ chars p.2 ≠ [] ∧ ziw p.2) → Cuts (end2 t) t pre.length Ls → Ls = w :: zdq (gw z)
 | [], w, pre, Ls, ht, hw, hz, hc => by
  have ht' : t.toList = pre ++ chars w ++ [] := by rw [ht]; unfold zb8; simp
  have hs : seek (end2 t) (t.size - pre.length) pre.length = none := by
   rw [zd3 (chars w) pre [] ht' hw]
   have : t.size - (pre ++ chars w).length = 0 := by rw [← Array.length_toList, ht']; simp
   rw [this]; rfl
  cases hc with
  | stop h =>
   have := zdv ht'
   have hsz : t.size = pre.length + (chars w).length := by rw [← Array.length_toList, ht']; simp
   rw [hsz, za1 this]; rfl
  | more h _ => rw [hs] at h; cases h
 | (g, v) :: r, w, pre, Ls, ht, hw, hz, hc => by
  obtain ⟨hg, hv, hvb⟩ := hz (g, v) (.head _)
  dsimp only at hg hv hvb
  have hg0 : 0 ≤ g := by exact om111 hg
  have ht1 : t.toList = pre ++ chars w ++ (chars (zao g) ++ zb8 v r) := by rw [ht]; unfold zb8; simp
  have ht2 : t.toList = (pre ++ chars w) ++ chars (zao g) ++ zb8 v r := by rw [ht1]; simp
  have hne : chars (zao g) ≠ [] := by
   rw [zc7 hg0]
   intro e
   have := congrArg List.length e
   simp at this
   omega
  have hpost : zb8 v r = [] ∨ ∃ c q, zb8 v r = c :: q ∧ spcB c = false := by
   right
   unfold zb8
   cases e : chars v with
   | nil => exact absurd e hv
   | cons c q => exact ⟨c, _, rfl, hvb c (by rw [e]; exact .head _)⟩
  have e2 := zmi ht2 (zit hg0) hne hpost
  have hsz : t.size = (pre ++ chars w).length + (chars (zao g)).length + (zb8 v r).length := by rw [← Array.length_toList, ht2]; simp; exact om67
  have hbl : 1 ≤ (chars (zao g)).length := by
   cases e : chars (zao g) with
   | nil => exact absurd e hne
   | cons => simp
  have hs : seek (end2 t) (t.size - pre.length) pre.length = some ((pre ++ chars w).length, (pre ++ chars w).length + (chars (zao g)).length) := by
   rw [zd3 (chars w) pre _ ht1 hw]
   obtain ⟨n, hn⟩ : ∃ n, t.size - (pre ++ chars w).length = n + 1 := ⟨t.size - (pre ++ chars w).length - 1, by exact om112 hsz hbl⟩
   rw [hn]
   unfold seek
   rw [e2]
  cases hc with
  | stop h => rw [hs] at h; cases h
  | more h h2 =>
   rw [hs] at h
   cases h
   have x1 := zdv ht1
   have x2 := zdv ht2
   have hl : (pre ++ chars w).length = pre.length + (chars w).length := by simp
   have ih := zmu r v ((pre ++ chars w) ++ chars (zao g)) _ ht2 hvb (fun p hp => hz p (.tail _ hp)) (by rw [zY (as := pre ++ chars w)]; exact h2)
   rw [ih, za1 x2]
   rw [hl] at *
   rw [za1 x1]
   rfl
noncomputable def zck (c : Nat) : Bool := (48 ≤ c && c ≤ 57) || c == 43 || c == 45 || c == 46 || c == 120 || c == 114 || c == 99
theorem zdw {c : Nat} (h : zck c = true) : 43 ≤ c ∧ c < 121 := by
 unfold zck at h
 simp at h
 exact om113 h
theorem zhu : ∀ c : Nat, c < 128 → zck c = true → Unicode.isSpace c = false ∧ spcB c = false := by decide +kernel
def Al (w : Str) : Prop := ∀ c ∈ chars w, zck c = true
theorem Al.nb {w : Str} (h : Al w) : ziw w := fun c hc => (zhu c (by have := zdw (h c hc); exact om114 this) (h c hc)).2
theorem zcz {x : Str} (h : ∀ c ∈ chars x, c < 128) : PyData.strOk x = true := by
 unfold PyData.strOk
 rw [← Array.all_toList, List.all_eq_true]
 intro c hc
 have := h c hc
 simp
 exact om115 this
theorem ze7 : ∀ ys : List Str, chars (Str.join (ofString "") ys) = (ys.map chars).flatten
 | [] => by decide +kernel
 | [y] => by show chars y = _; simp
 | y :: z :: r => by
  have := ze7 (z :: r)
  show chars (y ++ ofString "" ++ Str.join (ofString "") (z :: r)) = _
  rw [zam, zam, this, show chars (ofString "") = [] from by decide +kernel]
  simp
structure WF (ws : List Str) (gs : List Int) : Prop where
 shape : ∃ w0 wr gr, ws = w0 :: wr ∧ gs = 0 :: gr ∧ gr.length = wr.length ∧ wr ≠ []
 gap : ∀ g ∈ gs.tail, 1 ≤ g ∧ g ≤ 2
 al : ∀ w ∈ ws, Al w ∧ chars w ≠ []
 dots : ∀ w ∈ ws.dropLast, zdn w
 len : ∀ w ∈ ws, w.length ≤ 130
 n : ws.length ≤ 10
theorem zf0 {w0 : Str} {wr : List Str} {gr : List Int} : chars (zbo (w0 :: wr) (0 :: gr)) = zb8 w0 (gr.zip wr) := by
 unfold zbo
 rw [show Txt.join (ofString "") (pieces (w0 :: wr) (0 :: gr)) = Str.join (ofString "") (pieces (w0 :: wr) (0 :: gr)) from StrLaws.glued_eq_join _ _, ze7]
 unfold pieces zb8
 rw [List.zip_cons_cons, Zi, Zi, List.flatten_cons, zam, show chars (zao 0) = [] from by decide +kernel, List.nil_append]
 congr 1
 rw [List.map_map, List.flatMap_def]
 congr 1
 apply List.map_congr_left
 intro p _
 exact zam _ _
theorem za0 (x : Str) : (chars x).length = x.length := by
 unfold chars; rw [Array.length_toList]; rfl
theorem WF.text_len {ws : List Str} {gs : List Int} (F : WF ws gs) : (zbo ws gs).length ≤ 1390 := by
 obtain ⟨w0, wr, gr, rfl, rfl, hl, hne⟩ := F.shape
 have hg := F.gap
 have h1 : (zbo (w0 :: wr) (0 :: gr)).length = ((pieces (w0 :: wr) (0 :: gr)).map (·.length)).sum := by
  unfold zbo
  rw [show Txt.join (ofString "") (pieces (w0 :: wr) (0 :: gr)) = Str.join (ofString "") (pieces (w0 :: wr) (0 :: gr)) from StrLaws.glued_eq_join _ _, zcu]
 have h2 := zdx (ze4 (ws := w0 :: wr) (gs := 0 :: gr) (n := 130) F.len (by
  intro g hgm
  rcases zC hgm with rfl | hgm
  ·omega
  ·have := hg g hgm; exact om117 this))
 have h3 : (pieces (w0 :: wr) (0 :: gr)).length ≤ 10 := by
  unfold pieces
  rw [List.length_map, List.length_zip]
  have := F.n
  exact om118 this
 exact om119 h1 h2 h3
theorem foldOk {ws : List Str} {gs : List Int} {head wd : Int} (F : WF ws gs) (hh : 0 ≤ head ∧ head ≤ 1000) (hw : -1000 ≤ wd ∧ wd ≤ 1000) :
  ∃ qs, FoldOk (zbo ws gs) qs head wd ∧ zbx wd head qs = zak ws gs head wd := by
 obtain ⟨w0, wr, gr, rfl, rfl, hl, hne⟩ := F.shape
 have hg := F.gap
 refine ⟨qsOf (w0 :: wr) (0 :: gr), ?_, fold_law (fun g h => by have := (hg g h).1; exact om111 this) hh.1⟩
 have hz : ∀ p ∈ gr.zip wr, p.1 ∈ gr ∧ p.2 ∈ wr := fun p hp => List.of_mem_zip (show (p.1, p.2) ∈ _ from hp)
 have hq : qsOf (w0 :: wr) (0 :: gr) = (ofString "", w0) :: gw (gr.zip wr) := rfl
 have hn := F.n
 have hqm : ∀ q ∈ qsOf (w0 :: wr) (0 :: gr), q.2 ∈ w0 :: wr ∧ (q.1 = ofString "" ∨ ∃ g ∈ gr, q.1 = zao g) := by
  intro q hqq
  rcases zC hqq with rfl | hqq
  ·exact ⟨.head _, .inl rfl⟩
  ·obtain ⟨p, hp, rfl⟩ := List.mem_map.mp hqq
   exact ⟨.tail _ (hz p hp).2, .inr ⟨p.1, (hz p hp).1, rfl⟩⟩
 have hb : ∀ q ∈ qsOf (w0 :: wr) (0 :: gr), q.1.length ≤ 2 ∧ ∀ c ∈ chars q.1, c < 128 := by
  intro q hqq
  rcases (hqm q hqq).2 with e | ⟨g, hgm, e⟩
  ·rw [e]; exact ⟨by decide +kernel, by decide +kernel⟩
  ·rw [e]
   have hgg := hg g hgm
   have := zbw (g := g) (by exact om120 hgg)
   refine ⟨by exact om121 hgg this, fun c hc => ?_⟩
   rw [zc7 (by exact om122 this)] at hc
   rw [List.eq_of_mem_replicate hc]; decide
 have hlen : (gw (gr.zip wr)).length = wr.length := by unfold gw; rw [List.length_map, List.length_zip, hl, Nat.min_self]
 have hc0 := zf0 (w0 := w0) (wr := wr) (gr := gr)
 refine ⟨⟨?_, ?_, ?_, ?_⟩, ?_, ?_, hh, hw, ?_⟩
 ·rw [hq, List.length_cons, hlen]; simp at hn; exact om123 hn
 ·intro q hqq
  have h1 := (hb q hqq).1
  have h2 := F.len _ (hqm q hqq).1
  unfold plen; exact om124 h1 h2
 ·intro q hqq
  refine ⟨zcz (hb q hqq).2, zcz fun c hc => ?_⟩
  have := zdw ((F.al _ (hqm q hqq).1).1 c hc); exact om114 this
 ·intro q hqq
  have e : (qsOf (w0 :: wr) (0 :: gr)).map (·.2) = w0 :: wr := by
   rw [hq, Zi]
   congr 1
   unfold gw
   rw [List.map_map]
   show (gr.zip wr).map Prod.snd = wr
   rw [List.map_snd_zip (by exact om125 hl)]
  refine F.dots q.2 ?_
  rw [← e, ← List.map_dropLast]
  exact List.mem_map.mpr ⟨q, hqq, rfl⟩
 ·have := F.text_len
  exact om126 this
 ·intro Ls hL
  have := zmu (t := (zbo (w0 :: wr) (0 :: gr)).cps) (gr.zip wr) w0 [] Ls (by rw [List.nil_append, ← hc0]; rfl) (F.al w0 (.head _)).1.nb (fun p hp => ⟨(hg _ (hz p hp).1).1, (F.al _ (.tail _ (hz p hp).2)).2, (F.al _ (.tail _ (hz p hp).2)).1.nb⟩) hL
  refine ⟨⟨w0, _, this, ?_⟩, ?_⟩
  ·have := (F.al w0 (.head _)).2
   intro e
   exact this (List.length_eq_zero_iff.mp e)
  ·rw [this, hq]; rfl
 ·have hne2 : gw (gr.zip wr) ≠ [] := by
   intro e
   rw [e] at hlen
   cases wr with
   | nil => exact hne rfl
   | cons => simp at hlen
  have hnq : qsOf (w0 :: wr) (0 :: gr) ≠ [] := by rw [hq]; simp
  refine ⟨_, _, (List.dropLast_concat_getLast hnq).symm, ?_⟩
  have hm := List.getLast_mem hnq
  generalize (qsOf (w0 :: wr) (0 :: gr)).getLast hnq = q at hm
  obtain ⟨h1, _⟩ := hqm q hm
  have h2 := F.al _ h1
  cases e : chars q.2 with
  | nil => exact absurd e h2.2
  | cons c r =>
   have hcm : c ∈ chars q.2 := by rw [e]; exact .head _
   exact ⟨c, hcm, (zhu c (by have := zdw (h2.1 c hcm); exact om114 this) (h2.1 c hcm)).1⟩
noncomputable def cand (n : Nat) : List (Str × Option Int) := [(zag n, some (n : Int)), (ofString "0" ++ zag n, some (n : Int)), (ofString "+" ++ zag n, some (n : Int)), (ofString "-" ++ zag n, some (-(n : Int)))]
noncomputable def zgd : List (Str × Option Int) := [(ofString "", none), (ofString "x", none), (ofString "5x", none), (ofString "rc1", none), (ofString "7", some 7), (ofString "010", some 10)]
noncomputable def chk (q : Str × Option Int) : Bool :=
 q.1.cps.all zck && decide (q.1.length ≤ 4) && (q.2.isNone || decide (0 < q.1.length)) && decide (((q.2.getD 0)).natAbs < 1000) && decide ((zas ⟨q.1, q.2, 0⟩).length = q.1.length) && (zas ⟨q.1, q.2, 0⟩).cps.all zck
theorem inS_eq (t : Str) (c : Nat) : inS t c = decide (c ∈ t.cps.toList) := StrLaws.found_one t c
theorem zdh (c : Nat) : inS (ofString "56789") c = (decide (53 ≤ c) && decide (c ≤ 57)) := by
 rw [inS_eq, show (ofString "56789").cps.toList = [53, 54, 55, 56, 57] from by decide +kernel, Bool.eq_iff_iff]
 simp
 exact om88
theorem head_at (s : Str) : s.cps.getD 0 0 = (chars s).headD 0 := by
 obtain ⟨⟨l⟩⟩ := s
 cases l <;> rfl
noncomputable def figs (n : Nat) : List Nat := (Nat.toDigits 10 n).map Char.toNat
theorem zbb (n : Nat) : chars (zag n) = figs n := KIN.signs_num n
noncomputable def figOk (n : Nat) : Bool := (figs n).all (fun c => decide (48 ≤ c) && decide (c ≤ 57)) && decide (0 < (figs n).length) && decide ((figs n).length ≤ 3) && (decide ((figs n).headD 0 < 53) || (decide (3 ≤ n) && decide ((figs (n - 3)).length = (figs n).length)))
theorem figs_all : (List.range 1000).all figOk = true := by decide +kernel
theorem zdk {n : Nat} (hn : n < 1000) : (∀ c ∈ figs n, 48 ≤ c ∧ c ≤ 57) ∧ 0 < (figs n).length ∧ (figs n).length ≤ 3 ∧ ((figs n).headD 0 < 53 ∨ 3 ≤ n ∧ (figs (n - 3)).length = (figs n).length) := by
 have h := List.all_eq_true.mp figs_all n (List.mem_range.mpr hn)
 unfold figOk at h
 simp only [Bool.and_eq_true, Bool.or_eq_true, decide_eq_true_eq, List.all_eq_true] at h
 exact ⟨h.1.1.1, h.1.1.2, h.1.2, h.2⟩
theorem zht {c : Nat} (h : 48 ≤ c ∧ c ≤ 57) : zck c = true := by
 unfold zck
 rw [decide_eq_true h.1, decide_eq_true h.2]
 rfl
theorem zjj {s : Str} {n : Nat} {v : Int} {pre : List Nat} (hn : n < 1000) (hs : chars s = pre ++ figs n) (hp : (pre = [] ∧ v = n) ∨ ∃ c, pre = [c] ∧ (c = 48 ∨ c = 43 ∨ c = 45)) (c : zaq ⟨s, some v, 0⟩ = true) :
  3 ≤ n ∧ v = n ∧ chars (zas ⟨s, some v, 0⟩) = figs (n - 3) ∧ (figs (n - 3)).length = (chars s).length := by
 have c2 : 53 ≤ (chars s).headD 0 := by
  have c' := (Bool.and_eq_true_iff.mp c).2
  rw [zdh] at c'
  rw [← head_at]
  exact of_decide_eq_true (Bool.and_eq_true_iff.mp c').1
 rw [hs] at c2
 rcases hp with ⟨rfl, rfl⟩ | ⟨d, rfl, hd⟩
 ·obtain ⟨h3, hl⟩ := (zdk hn).2.2.2.resolve_left (Nat.not_lt.mpr c2)
  refine ⟨h3, rfl, ?_, by rw [hs]; exact hl⟩
  rw [← zbb]
  unfold zas
  rw [zH c]
  exact congrArg (fun i => chars (zag i)) (Int.ofNat_sub h3).symm
 ·have c3 : 53 ≤ d := c2
  rcases hd with rfl | rfl | rfl <;> exact absurd c3 (by decide)
theorem chk_pre {s : Str} {n : Nat} {v : Int} {pre : List Nat} (hn : n < 1000) (hs : chars s = pre ++ figs n) (hp : (pre = [] ∧ v = n) ∨ ∃ c, pre = [c] ∧ (c = 48 ∨ c = 43 ∨ c = 45)) (hv : v.natAbs = n) : chk (s, some v) = true := by
 have fa := zdk hn
 have al : ∀ c ∈ chars s, zck c = true := fun c hc => by
  rw [hs] at hc
  rcases zD hc with h | h
  ·rcases hp with ⟨rfl, _⟩ | ⟨d, rfl, hd⟩
   ·cases h
   ·rw [zS h]
    rcases hd with rfl | rfl | rfl <;> rfl
  ·exact zht (fa.1 c h)
 have pl : pre.length ≤ 1 := by
  rcases hp with ⟨rfl, _⟩ | ⟨d, rfl, _⟩
  ·exact Nat.zero_le _
  ·exact Ze _
 have ln : s.length = pre.length + (figs n).length := by rw [← za0, hs, zY]
 have low : (zas ⟨s, some v, 0⟩).length = s.length ∧ ∀ c ∈ chars (zas ⟨s, some v, 0⟩), zck c = true := by
  by_cases c : zaq ⟨s, some v, 0⟩ = true
  ·obtain ⟨h3, _, e, hl⟩ := zjj hn hs hp c
   refine ⟨by rw [← za0, ← za0, e, hl], fun x hx => ?_⟩
   rw [e] at hx
   exact zht ((zdk (zU (Nat.sub_le _ _) hn)).1 x hx)
  ·rw [show zas ⟨s, some v, 0⟩ = s from zG c]
   exact ⟨rfl, al⟩
 have all_of : ∀ {x : Str}, (∀ c ∈ chars x, zck c = true) → x.cps.all zck = true := fun h => by
  rw [← Array.all_toList, List.all_eq_true]
  exact h
 unfold chk
 simp only [Bool.and_eq_true, Bool.or_eq_true, decide_eq_true_eq]
 exact ⟨⟨⟨⟨⟨all_of al, by rw [ln]; exact zJ pl fa.2.2.1⟩, .inr (by rw [ln]; exact zV fa.2.1 (Zd _ _))⟩, by show v.natAbs < 1000; rw [hv]; exact hn⟩, low.1⟩, all_of low.2⟩
theorem zin {n : Nat} {q : Str × Option Int} (hq : q ∈ cand n) : ∃ pre v, chars q.1 = pre ++ figs n ∧ q.2 = some v ∧ v.natAbs = n ∧ ((pre = [] ∧ v = n) ∨ ∃ c, pre = [c] ∧ (c = 48 ∧ v = n ∨ c = 43 ∧ v = n ∨ c = 45 ∧ v = -(n : Int))) := by
 have e0 : chars (ofString "0") = [48] := by decide +kernel
 have e1 : chars (ofString "+") = [43] := by decide +kernel
 have e2 : chars (ofString "-") = [45] := by decide +kernel
 unfold cand at hq
 simp only [List.mem_cons, List.not_mem_nil, or_false] at hq
 rcases hq with rfl | rfl | rfl | rfl
 ·exact ⟨[], n, zbb n, rfl, rfl, .inl ⟨rfl, rfl⟩⟩
 ·exact ⟨[48], n, by rw [zam, e0, zbb], rfl, rfl, .inr ⟨_, rfl, .inl ⟨rfl, rfl⟩⟩⟩
 ·exact ⟨[43], n, by rw [zam, e1, zbb], rfl, rfl, .inr ⟨_, rfl, .inr (.inl ⟨rfl, rfl⟩)⟩⟩
 ·exact ⟨[45], -(n : Int), by rw [zam, e2, zbb], rfl, by rw [Int.natAbs_neg]; rfl, .inr ⟨_, rfl, .inr (.inr ⟨rfl, rfl⟩)⟩⟩
theorem pre_or {n : Nat} {v : Int} {pre : List Nat} (h : (pre = [] ∧ v = n) ∨ ∃ c, pre = [c] ∧ (c = 48 ∧ v = n ∨ c = 43 ∧ v = n ∨ c = 45 ∧ v = -(n : Int))) : (pre = [] ∧ v = n) ∨ ∃ c, pre = [c] ∧ (c = 48 ∨ c = 43 ∨ c = 45) :=
 h.imp id fun ⟨c, e, k⟩ => ⟨c, e, k.imp And.left (Or.imp And.left And.left)⟩
theorem chk_cand {n : Nat} (hn : n < 1000) {q : Str × Option Int} (hq : q ∈ cand n) : chk q = true := by
 obtain ⟨pre, v, h1, h2, h3, h4⟩ := zin hq
 rw [show q = (q.1, some v) from by rw [← h2]]
 exact chk_pre hn h1 (pre_or h4) h3
theorem chk_allF : zgd.all chk = true := by decide +kernel
theorem cands {f : Str × Option Int → Bool} (h : ∀ n, n < 1000 → ∀ q ∈ cand n, f q = true) (hF : zgd.all f = true) {q : Str × Option Int} (hq : (∃ n : Nat, n < 1000 ∧ q ∈ cand n) ∨ q ∈ zgd) : f q = true := by
 rcases hq with ⟨n, hn, hc⟩ | hc
 ·exact h n hn _ hc
 ·exact List.all_eq_true.mp hF _ hc
theorem zd7 {ns : List Int} {p : Part} (h : p ∈ zae ns) : ((∃ n : Nat, n < 1000 ∧ (p.sp, p.val) ∈ cand n) ∨ (p.sp, p.val) ∈ zgd) ∧ 0 ≤ p.gap ∧ p.gap ≤ 2 := by
 unfold zae at h
 rcases zD h with h | h
 ·obtain ⟨x, hx, rfl⟩ := List.mem_map.mp h
  have hg : 0 ≤ (x.fdiv 6).fmod 3 ∧ (x.fdiv 6).fmod 3 ≤ 2 := by
   rw [Int.fmod_eq_emod_of_nonneg _ (by decide)]
   have h1 := Int.emod_nonneg (x.fdiv 6) (show (3 : Int) ≠ 0 by decide)
   have h2 := Int.emod_lt_of_pos (x.fdiv 6) (show (0 : Int) < 3 by decide)
   exact om127
  obtain ⟨n1, n2⟩ := zlz x
  unfold zaz
  generalize (x.fdiv 18).fmod 1000 = m at *
  obtain ⟨n, rfl⟩ := Int.eq_ofNat_of_zero_le n1
  have hn : n < 1000 := by exact om128 n2
  split
  ·exact ⟨.inl ⟨n, hn, .head _⟩, hg⟩
  ·split
   ·exact ⟨.inl ⟨n, hn, .tail _ (.head _)⟩, hg⟩
   ·split
    ·split
     ·exact ⟨.inl ⟨n, hn, .tail _ (.tail _ (.head _))⟩, hg⟩
     ·exact ⟨.inl ⟨n, hn, .tail _ (.tail _ (.tail _ (.head _)))⟩, hg⟩
    ·refine ⟨.inr ?_, hg⟩
     dsimp only
     have h4 : ((n : Int).fmod 4).toNat = 0 ∨ ((n : Int).fmod 4).toNat = 1 ∨ ((n : Int).fmod 4).toNat = 2 ∨ ((n : Int).fmod 4).toNat = 3 := by
      rw [Int.fmod_eq_emod_of_nonneg _ (by decide)]
      exact om129
     unfold zgd
     rcases h4 with e | e | e | e <;> rw [e] <;> simp
 ·unfold zbp at h
  simp only [List.mem_cons, List.not_mem_nil, or_false] at h
  rcases h with rfl | rfl
  ·exact ⟨.inr (by unfold zgd; simp), by decide, by decide⟩
  ·exact ⟨.inr (by unfold zgd; simp), by decide, by decide⟩
structure PF (p : Part) : Prop where
 al : Al p.sp
 len : p.sp.length ≤ 4
 some : p.val.isSome = true → 0 < p.sp.length
 val : ∀ i, p.val = Option.some i → i.natAbs < 1000
 low : (zas p).length = p.sp.length
 lal : Al (zas p)
 gap : 0 ≤ p.gap ∧ p.gap ≤ 2
theorem al_of {s : Str} (h : s.cps.all zck = true) : Al s := by
 rw [← Array.all_toList, List.all_eq_true] at h
 exact h
theorem zeq {ns : List Int} {p : Part} (h : p ∈ zae ns) : PF p := by
 obtain ⟨hc, hg⟩ := zd7 h
 have h2 := cands (fun j hn j hq => chk_cand hn hq) chk_allF hc
 obtain ⟨sp, val, gap⟩ := p
 unfold chk at h2
 simp only [Bool.and_eq_true, decide_eq_true_eq] at h2
 obtain ⟨⟨⟨⟨⟨a1, a2⟩, a3⟩, a4⟩, a5⟩, a6⟩ := h2
 refine ⟨al_of a1, a2, fun hs => ?_, fun i hi => ?_, a5, al_of a6, hg⟩
 ·dsimp only at hs ⊢
  cases val with
  | none => cases hs
  | some i => simpa using a3
 ·dsimp only at hi
  subst hi
  exact a4
theorem znh {a b : Str} (ha : Al a) (hb : Al b) : Al (a ++ b) := by
 intro c hc
 rw [zam] at hc
 rcases zD hc with h | h
 ·exact ha c h
 ·exact hb c h
theorem al_dot : Al (ofString ".") := by
 intro c hc
 rw [zS hc]; rfl
theorem zih (y : Str) : zdn (y ++ ofString ".") := by
 have hl : (ofString ".").length = 1 := rfl
 refine ⟨?_, by rw [Str.length_append, hl]; exact om105⟩
 have hlen : (y ++ ofString ".").length = y.length + 1 := by rw [Str.length_append, hl]
 have hc : (y ++ ofString ".").cps[y.length]? = some 46 := by
  show (y.cps ++ (ofString ".").cps)[y.cps.size]? = some 46
  rw [Array.getElem?_append_right (Ze _), Nat.sub_self]
  rfl
 have hi : seqIndex? (-1) (y ++ ofString ".").length = some y.length := by
  rw [hlen]
  unfold seqIndex?
  simp
  exact om130
 unfold Txt.item Txt.charAt
 rw [hi, Option.bind_some, hc]
 rfl
structure WI (s : Wst) (n : Nat) : Prop where
 pre : ∀ w ∈ s.pre, Al w ∧ (∃ y, w = y ++ ofString ".") ∧ w.length ≤ 5 + 5 * n
 last : Al s.last ∧ s.last.length ≤ 4 + 5 * n
 gaps : ∃ gr, s.gaps = 0 :: gr ∧ gr.length = s.pre.length ∧ ∀ g ∈ gr, 1 ≤ g ∧ g ≤ 2
 cnt : s.pre.length ≤ n
theorem WI.step {s : Wst} {n : Nat} {p : Part} (h : WI s n) (F : PF p) : WI (wstep s p) (n + 1) := by
 have hl : (ofString ".").length = 1 := rfl
 have hg := F.gap
 have h1 := h.last.2
 have h2 := F.len
 have h3 := h.cnt
 obtain ⟨gr, g1, g2, g3⟩ := h.gaps
 have dl : (s.last ++ ofString ".").length ≤ 5 + 5 * n := by rw [Str.length_append, hl]; exact om131 h1
 unfold wstep
 by_cases c : 0 < p.gap
 ·rw [zH c, zhs]
  refine ⟨?_, ⟨F.al, by dsimp only; exact om132 h2⟩, ⟨gr ++ [p.gap], by rw [g1]; rfl, by simp [g2], ?_⟩, by simp; exact om50 h3⟩
  ·intro w hw
   rcases zD hw with hw | hw
   ·obtain ⟨a, b, c⟩ := h.pre w hw
    exact ⟨a, b, by exact om133 c⟩
   ·rw [zS hw]
    exact ⟨znh h.last.1 al_dot, ⟨_, rfl⟩, by exact om133 dl⟩
  ·intro g hgm
   rcases zD hgm with hgm | hgm
   ·exact g3 g hgm
   ·rw [zS hgm]; exact om134 hg c
 ·rw [zG c]
  refine ⟨?_, ⟨znh (znh h.last.1 al_dot) F.al, by dsimp only; rw [Str.length_append]; exact om135 h2 dl⟩, ⟨gr, g1, g2, g3⟩, by dsimp only; exact zlh h3⟩
  intro w hw
  obtain ⟨a, b, c⟩ := h.pre w hw
  exact ⟨a, b, by exact om133 c⟩
theorem WI.fold : ∀ (pr : List Part) (s : Wst) (n : Nat), WI s n → (∀ p ∈ pr, PF p) → WI (pr.foldl wstep s) (n + pr.length)
 | [], s, n, h, _ => h
 | p :: r, s, n, h, hp => by
  have := WI.fold r (wstep s p) (n + 1) (h.step (hp p (.head _))) fun q hq => hp q (.tail _ hq)
  rw [List.foldl_cons, List.length_cons, show n + (r.length + 1) = n + 1 + r.length from by exact om137]
  exact this
inductive WR (f f' : Str) : Wst → Wst → Prop
 | one (t : Str) (gs : List Int) : WR f f' ⟨[], f ++ t, gs⟩ ⟨[], f' ++ t, gs⟩
 | more (t : Str) (r : List Str) (l : Str) (gs : List Int) : WR f f' ⟨(f ++ t) :: r, l, gs⟩ ⟨(f' ++ t) :: r, l, gs⟩
theorem WR.step {f f' : Str} {s s' : Wst} (h : WR f f' s s') (p : Part) : WR f f' (wstep s p) (wstep s' p) := by
 unfold wstep
 cases h with
 | one t gs =>
  by_cases c : 0 < p.gap
  ·rw [zH c, zH c]
   rw [za4, za4]
   exact .more _ [] _ _
  ·rw [zG c, zG c]
   rw [za4, za4, za4, za4]
   exact .one _ _
 | more t r l gs =>
  by_cases c : 0 < p.gap
  ·rw [zH c, zH c]
   exact .more t (r ++ [l ++ ofString "."]) _ _
  ·rw [zG c, zG c]
   exact .more t r _ _
theorem WR.fold {f f' : Str} : ∀ (pr : List Part) (s s' : Wst), WR f f' s s' → WR f f' (pr.foldl wstep s) (pr.foldl wstep s')
 | [], _, _, h => h
 | p :: r, _, _, h => WR.fold r _ _ (h.step p)
theorem wr_start {f f' : Str} (pr : List Part) : WR f f' (wfold f pr) (wfold f' pr) := by
 refine WR.fold pr _ _ ?_
 have e : ∀ x : Str, x = x ++ (⟨#[]⟩ : Str) := fun x => (zk5 x).symm
 rw [e f, e f']
 have := WR.one (f := f) (f' := f') ⟨#[]⟩ [0]
 exact this
theorem zdb {ns : List Int} {p0 : Part} {pr : List Part} (h : zae ns = p0 :: pr) : ∃ q, pr = q ++ [⟨ofString "010", some 10, 1⟩] := by
 unfold zae zbp at h
 cases hm : (ns.take 8).map zaz with
 | nil => rw [hm] at h; cases h; exact ⟨[], rfl⟩
 | cons a r =>
  rw [hm] at h
  cases h
  exact ⟨r ++ [⟨ofString "7", some 7, 1⟩], by simp⟩
theorem zg0 {ns : List Int} {p0 : Part} {pr : List Part} (h : zae ns = p0 :: pr) : pr.length ≤ 9 := by
 have := congrArg List.length h
 unfold zae zbp at this
 simp at this
 exact om138 this
theorem zcw {ns : List Int} {p0 : Part} {pr : List Part} {f : Str} (h : zae ns = p0 :: pr) (hf : Al f) (hl : f.length ≤ 4) : WF (wordsOf f pr) (wfold f pr).gaps := by
 have hP : ∀ p ∈ pr, PF p := fun p hp => zeq (ns := ns) (by rw [h]; exact .tail _ hp)
 have hn := zg0 h
 have I := WI.fold pr ⟨[], f, [0]⟩ 0 ⟨fun j h => (nomatch h), ⟨hf, by dsimp only; exact om139 hl⟩, ⟨[], rfl, rfl, fun j h => (nomatch h)⟩, Ze _⟩ hP
 rw [Nat.zero_add] at I
 have I : WI (wfold f pr) pr.length := I
 obtain ⟨q, hq⟩ := zdb h
 have e1 : wfold f pr = ⟨(wfold f q).pre ++ [(wfold f q).last ++ ofString "."], ofString "010", (wfold f q).gaps ++ [1]⟩ := by
  rw [hq]
  unfold wfold
  rw [List.foldl_append, List.foldl_cons, List.foldl_nil]
  generalize List.foldl wstep ⟨[], f, [0]⟩ q = s
  unfold wstep
  rw [zH (by decide), zhs]
 have el : (wfold f pr).last = ofString "010" := by rw [e1]
 obtain ⟨w0, r, ep⟩ : ∃ w0 r, (wfold f pr).pre = w0 :: r := by
  cases e : (wfold f pr).pre with
  | nil => rw [e1] at e; simp at e
  | cons a b => exact ⟨a, b, rfl⟩
 obtain ⟨gr, g1, g2, g3⟩ := I.gaps
 have hw : wordsOf f pr = w0 :: (r ++ [ofString "010"]) := by unfold wordsOf; rw [ep, el]; rfl
 have hpre := I.pre
 have hcnt := I.cnt
 rw [ep] at hpre hcnt g2
 have hdot : ∀ y : Str, chars (y ++ ofString ".") ≠ [] := by
  intro y
  rw [zam, show chars (ofString ".") = [46] from by decide +kernel]
  simp
 have al010 : Al (ofString "010") := al_of (by decide +kernel)
 refine ⟨⟨w0, r ++ [ofString "010"], gr, hw, g1, by rw [g2]; simp, by simp⟩, by rw [g1]; exact g3, ?_, ?_, ?_, ?_⟩
 ·intro w hwm
  rw [hw, ← List.cons_append] at hwm
  rcases zD hwm with hwm | hwm
  ·obtain ⟨a, ⟨y, b⟩, c⟩ := hpre w hwm
   exact ⟨a, by rw [b]; exact hdot y⟩
  ·rw [zS hwm]
   exact ⟨al010, by decide +kernel⟩
 ·intro w hwm
  rw [hw, ← List.cons_append, List.dropLast_concat] at hwm
  obtain ⟨a, ⟨y, b⟩, c⟩ := hpre w hwm
  rw [b]; exact zih y
 ·intro w hwm
  rw [hw, ← List.cons_append] at hwm
  rcases zD hwm with hwm | hwm
  ·have := (hpre w hwm).2.2
   exact om140 hn this
  ·rw [zS hwm]; decide +kernel
 ·rw [hw]
  simp at hcnt ⊢
  exact om141 hn hcnt
theorem WF.ok {ws : List Str} {gs : List Int} (F : WF ws gs) : WordsOk ws gs := by
 obtain ⟨w0, wr, gr, rfl, rfl, hl, hne⟩ := F.shape
 have hg := F.gap
 refine ⟨by simp [hl], by have := F.n; exact om142 this, by simp, fun x hx => by have := F.len x hx; exact om143 this, ?_, ?_⟩
 ·intro g hgm
  rcases zC hgm with rfl | hgm
  ·omega
  ·have := hg g hgm; exact om117 this
 ·intro a b e
  cases e
  have := (F.al w0 (.head _)).2
  exact List.length_pos_iff.mpr this
theorem zc9 {f f' : Str} (pr : List Part) (hf : f'.length = f.length) : (wfold f' pr).gaps = (wfold f pr).gaps ∧ ∃ t wr, wordsOf f pr = (f ++ t) :: wr ∧ wordsOf f' pr = (f' ++ t) :: wr := by
 have h := wr_start (f := f) (f' := f') pr
 unfold wordsOf
 generalize wfold f pr = s at h
 generalize wfold f' pr = s' at h
 cases h with
 | one t gs => exact ⟨rfl, t, [], rfl, rfl⟩
 | more t r l gs => exact ⟨rfl, t, r ++ [l], rfl, rfl⟩
def zhv (u : List Nat) : Prop := (∀ c ∈ u, c = 32 ∨ c = 10 ∨ c = 13) ∧ u.length ≤ 4
noncomputable def weave : List (List Nat) → List Str → List Nat
 | u :: us, w :: ws => u ++ chars w ++ weave us ws
 | _, _ => []
theorem zca {e y z : Str} {r : List Str} : chars (Str.join e (y :: z :: r)) = chars y ++ chars e ++ chars (Str.join e (z :: r)) := by
 show chars (y ++ e ++ Str.join e (z :: r)) = _
 rw [zam, zam]
theorem zko {a b : List Nat} (ha : ∀ c ∈ a, c = 32 ∨ c = 10 ∨ c = 13) (hb : ∀ c ∈ b, c = 32 ∨ c = 10 ∨ c = 13) : ∀ c ∈ a ++ b, c = 32 ∨ c = 10 ∨ c = 13 := by
 intro c hc
 rcases zD hc with h | h
 ·exact ha c h
 ·exact hb c h
theorem zem {g : Int} (h : 0 ≤ g) : ∀ c ∈ chars (zao g), c = 32 ∨ c = 10 ∨ c = 13 := by
 intro c hc
 rw [zc7 h] at hc
 exact .inl (List.eq_of_mem_replicate hc)
theorem zcg {e : Str} {wd : Int} (he : (∀ c ∈ chars e, c = 32 ∨ c = 10 ∨ c = 13) ∧ (chars e).length ≤ 2) : ∀ (z : List (Int × Str)) (room : Int) (L : Nat), (∀ p ∈ z, 0 ≤ p.1 ∧ p.1 ≤ 2) →
  ∃ us : List (List Nat), us.length = z.length ∧ (∀ u ∈ us, zhv u) ∧ ∀ row : Str, row.length = L → chars (Str.join e ((zaf room z row).1 :: zbn wd (zaf room z row).2 wd)) = chars row ++ weave us (z.map (·.2))
 | [], room, L, _ => by
  refine ⟨[], rfl, fun j h => (nomatch h), fun row j => ?_⟩
  unfold zaf
  show chars row = _
  simp [weave]
 | (g, w) :: r, room, L, hz => by
  obtain ⟨hg0, hg2⟩ := hz (g, w) (.head _)
  dsimp only at hg0 hg2
  have hzr : ∀ p ∈ r, 0 ≤ p.1 ∧ p.1 ≤ 2 := fun p hp => hz p (.tail _ hp)
  have hbl : (chars (zao g)).length ≤ 2 := by rw [zc7 hg0, List.length_replicate]; exact om144 hg2
  by_cases c : (L : Int) + g + w.length ≤ room
  ·obtain ⟨us, u1, u2, u3⟩ := zcg (wd := wd) he r room (L + g.toNat + w.length) hzr
   refine ⟨chars (zao g) :: us, by simp [u1], ?_, fun row hrow => ?_⟩
   ·intro u hu
    rcases zC hu with rfl | hu
    ·exact ⟨zem hg0, by exact om145 hbl⟩
    ·exact u2 u hu
   ·have hi : zaf room ((g, w) :: r) row = zaf room r ((row ++ zao g) ++ w) := by
     conv => lhs; unfold zaf
     rw [zH (by exact om146 c hrow)]
    rw [hi, u3 _ (by rw [Str.length_append, Str.length_append, hrow]; have := zbw hg0; exact om147 this), zam, zam]
    simp [weave]
  ·obtain ⟨us, u1, u2, u3⟩ := zcg (wd := wd) he r wd (g.toNat + w.length) hzr
   refine ⟨(chars e ++ chars (zao g)) :: us, by simp [u1], ?_, fun row hrow => ?_⟩
   ·intro u hu
    rcases zC hu with rfl | hu
    ·exact ⟨zko he.1 (zem hg0), by have := he.2; simp; omega⟩
    ·exact u2 u hu
   ·have hi : zaf room ((g, w) :: r) row = (row, (g, w) :: r) := by
     conv => lhs; unfold zaf
     rw [zG (by exact om148 c hrow)]
    rw [hi]
    dsimp only
    rw [zay, zca, u3 _ (by rw [Str.length_append]; have := zbw hg0; exact om149 this), zam]
    simp [weave]
theorem joined {e : Str} {wd head : Int} {wr : List Str} {gr : List Int} {w0 : Str} (he : (∀ c ∈ chars e, c = 32 ∨ c = 10 ∨ c = 13) ∧ (chars e).length ≤ 2) (hg : ∀ g ∈ gr, 0 ≤ g ∧ g ≤ 2) (hl : gr.length = wr.length) :
  ∃ us : List (List Nat), us.length = wr.length ∧ (∀ u ∈ us, zhv u) ∧
   ((∀ f : Str, f.length = w0.length → (∃ rest, zak (f :: wr) (0 :: gr) head wd = ofString "" :: rest) ∧ chars (joinRows (f :: wr) (0 :: gr) (head, wd, e)) = weave ((chars e ++ [32]) :: us) (f :: wr)) ∨
    (∀ f : Str, f.length = w0.length → (∃ r rest, zak (f :: wr) (0 :: gr) head wd = (f ++ r) :: rest) ∧ chars (joinRows (f :: wr) (0 :: gr) (head, wd, e)) = weave ([] :: us) (f :: wr))) := by
 have hz : ∀ p ∈ gr.zip wr, 0 ≤ p.1 ∧ p.1 ≤ 2 := fun p hp => hg _ (List.of_mem_zip (show (p.1, p.2) ∈ _ from hp)).1
 have b0 : zao 0 = ofString "" := by decide +kernel
 have b1 : chars (zao 1) = [32] := by decide +kernel
 have hzl : (gr.zip wr).length = wr.length := by rw [List.length_zip, hl, Nat.min_self]
 have hzm : (gr.zip wr).map (·.2) = wr := List.map_snd_zip (by exact om125 hl)
 have eR : ∀ f : Str, zak (f :: wr) (0 :: gr) head wd = if 0 < head ∧ wd - head < (f.length : Int) then ofString "" :: zbn wd ((1, f) :: gr.zip wr) wd else zbn wd ((0, f) :: gr.zip wr) (wd - head) := fun f => rfl
 have eJ : ∀ f : Str, joinRows (f :: wr) (0 :: gr) (head, wd, e) = Str.join e (zak (f :: wr) (0 :: gr) head wd) := fun f => StrLaws.glued_eq_join _ _
 by_cases c : 0 < head ∧ wd - head < (w0.length : Int)
 ·obtain ⟨us, u1, u2, u3⟩ := zcg (wd := wd) he (gr.zip wr) wd (w0.length + 1) hz
  refine ⟨us, by rw [u1, hzl], u2, .inl fun f hf => ?_⟩
  have e1 : zak (f :: wr) (0 :: gr) head wd = ofString "" :: (zaf wd (gr.zip wr) (zao 1 ++ f)).1 :: zbn wd (zaf wd (gr.zip wr) (zao 1 ++ f)).2 wd := by
   rw [eR, hf, zH c, zay]
  refine ⟨⟨_, e1⟩, ?_⟩
  rw [eJ, e1, zca, u3 _ (by rw [Str.length_append, hf, show (zao 1).length = 1 from by decide +kernel]; exact om150), hzm, zam, b1, show chars (ofString "") = [] from by decide +kernel]
  simp [weave]
 ·obtain ⟨us, u1, u2, u3⟩ := zcg (wd := wd) he (gr.zip wr) (wd - head) w0.length hz
  refine ⟨us, by rw [u1, hzl], u2, .inr fun f hf => ?_⟩
  have e1 : zak (f :: wr) (0 :: gr) head wd = (zaf (wd - head) (gr.zip wr) f).1 :: zbn wd (zaf (wd - head) (gr.zip wr) f).2 wd := by
   rw [eR, hf, zG c, zay, b0, zhs]
  refine ⟨?_, ?_⟩
  ·obtain ⟨ext, rest, q1, _⟩ := zhg (wd - head) (gr.zip wr) f f rfl
   exact ⟨ext, _, by rw [e1, q1]⟩
  ·rw [eJ, e1, u3 _ hf, hzm]
   simp [weave]
theorem zc4 : ∀ (r : List Part) (pre : List Str) (l : Str) (gs gs' : List Int), (r.foldl wstep ⟨pre, l, gs⟩).pre = pre ++ (r.foldl wstep ⟨[], l, gs'⟩).pre ∧ (r.foldl wstep ⟨pre, l, gs⟩).last = (r.foldl wstep ⟨[], l, gs'⟩).last
 | [], pre, l, gs, gs' => ⟨(List.append_nil _).symm, rfl⟩
 | p :: r, pre, l, gs, gs' => by
  rw [List.foldl_cons, List.foldl_cons]
  by_cases c : 0 < p.gap
  ·have e1 : wstep ⟨pre, l, gs⟩ p = ⟨pre ++ [l ++ ofString "."], ofString "" ++ p.sp, gs ++ [p.gap]⟩ := by unfold wstep; rw [if_pos c]
   have e2 : wstep ⟨[], l, gs'⟩ p = ⟨[] ++ [l ++ ofString "."], ofString "" ++ p.sp, gs' ++ [p.gap]⟩ := by unfold wstep; rw [if_pos c]
   rw [e1, e2]
   obtain ⟨a1, a2⟩ := zc4 r (pre ++ [l ++ ofString "."]) (ofString "" ++ p.sp) (gs ++ [p.gap]) [0]
   obtain ⟨b1, b2⟩ := zc4 r ([] ++ [l ++ ofString "."]) (ofString "" ++ p.sp) (gs' ++ [p.gap]) [0]
   refine ⟨?_, by rw [a2, b2]⟩
   rw [a1, b1]; simp
  ·have e1 : wstep ⟨pre, l, gs⟩ p = ⟨pre, (l ++ ofString ".") ++ p.sp, gs⟩ := by unfold wstep; rw [if_neg c]
   have e2 : wstep ⟨[], l, gs'⟩ p = ⟨[], (l ++ ofString ".") ++ p.sp, gs'⟩ := by unfold wstep; rw [if_neg c]
   rw [e1, e2]
   exact zc4 r pre _ gs gs'
theorem zh0 (f : Str) : wordsOf f [] = [f] := rfl
theorem zh1 {f : Str} {p : Part} {r : List Part} (c : 0 < p.gap) : wordsOf f (p :: r) = (f ++ ofString ".") :: wordsOf p.sp r := by
 unfold wordsOf wfold
 rw [List.foldl_cons]
 have e1 : wstep ⟨[], f, [0]⟩ p = ⟨[f ++ ofString "."], p.sp, [0] ++ [p.gap]⟩ := by unfold wstep; rw [if_pos c, zhs]; rfl
 rw [e1]
 obtain ⟨a1, a2⟩ := zc4 r [f ++ ofString "."] p.sp ([0] ++ [p.gap]) [0]
 rw [a1, a2]; rfl
theorem zjy {f : Str} {p : Part} {r : List Part} (c : ¬ 0 < p.gap) : wordsOf f (p :: r) = wordsOf ((f ++ ofString ".") ++ p.sp) r := by
 unfold wordsOf wfold
 rw [List.foldl_cons]
 have e1 : wstep ⟨[], f, [0]⟩ p = ⟨[], (f ++ ofString ".") ++ p.sp, [0]⟩ := by unfold wstep; rw [if_neg c]
 rw [e1]
noncomputable def pcs : List Part → List (List Nat) → List (List Nat)
 | [], _ => []
 | p :: r, us => if 0 < p.gap then (us.headD [] ++ chars p.sp) :: pcs r us.tail else chars p.sp :: pcs r us
theorem zbz : ∀ (pr : List Part) (f : Str) (u0 : List Nat) (us : List (List Nat)), us.length + 1 = (wordsOf f pr).length → weave (u0 :: us) (wordsOf f pr) = u0 ++ chars f ++ (pcs pr us).flatMap fun x => 46 :: x
 | [], f, u0, us, _ => by
  rw [zh0]
  cases us <;> simp [weave, pcs]
 | p :: r, f, u0, us, h => by
  have hd : chars (ofString ".") = [46] := by decide +kernel
  by_cases c : 0 < p.gap
  ·rw [zh1 c] at h ⊢
   cases us with
   | nil =>
    exfalso
    simp [wordsOf] at h
   | cons u us =>
    have ih := zbz r p.sp u us (by simpa using h)
    have ep : pcs (p :: r) (u :: us) = (u ++ chars p.sp) :: pcs r us := by rw [pcs, zH c]; rfl
    rw [ep, weave, ih, zam, hd]
    simp
  ·rw [zjy c] at h ⊢
   have ih := zbz r ((f ++ ofString ".") ++ p.sp) u0 us h
   have ep : pcs (p :: r) us = chars p.sp :: pcs r us := by rw [pcs, zG c]
   rw [ih, ep, zam, zam, hd]
   simp
noncomputable def fl (L : List (List Nat)) : List Nat := L.flatMap fun x => 46 :: x
def Hd46 (X : List Nat) : Prop := X = [] ∨ ∃ r, X = 46 :: r
theorem fl_hd (L : List (List Nat)) : Hd46 (fl L) := by
 cases L with
 | nil => exact .inl rfl
 | cons a r => exact .inr ⟨_, rfl⟩
theorem zf5 : ∀ (a b X Y : List Nat), 46 ∉ a → 46 ∉ b → Hd46 X → Hd46 Y → a ++ X = b ++ Y → a = b ∧ X = Y
 | [], [], X, Y, _, _, _, _, h => ⟨rfl, h⟩
 | [], c :: b, X, Y, _, hb, hX, _, h => by
  exfalso
  rcases hX with e | ⟨r, e⟩
  ·rw [e] at h; cases h
  ·rw [e] at h
   injection h with h1 h2
   exact hb (by rw [h1]; exact .head _)
 | c :: a, [], X, Y, ha, _, _, hY, h => by
  exfalso
  rcases hY with e | ⟨r, e⟩
  ·rw [e] at h; cases h
  ·rw [e] at h
   injection h with h1 h2
   exact ha (by rw [← h1]; exact .head _)
 | c :: a, c' :: b, X, Y, ha, hb, hX, hY, h => by
  injection h with h1 h2
  obtain ⟨e1, e2⟩ := zf5 a b X Y (fun z => ha (.tail _ z)) (fun z => hb (.tail _ z)) hX hY h2
  exact ⟨by rw [h1, e1], e2⟩
theorem fl_inj : ∀ (L M : List (List Nat)) (a b : List Nat), 46 ∉ a → 46 ∉ b → (∀ x ∈ L, 46 ∉ x) → (∀ x ∈ M, 46 ∉ x) → a ++ fl L = b ++ fl M → a = b ∧ L = M
 | L, M, a, b, ha, hb, hL, hM, h => by
  obtain ⟨e1, e2⟩ := zf5 a b _ _ ha hb (fl_hd L) (fl_hd M) h
  refine ⟨e1, ?_⟩
  clear h e1
  induction L generalizing M with
  | nil =>
   cases M with
   | nil => rfl
   | cons m r => cases e2
  | cons l r ih =>
   cases M with
   | nil => cases e2
   | cons m q =>
    have e3 : l ++ fl r = m ++ fl q := by
     have : 46 :: (l ++ fl r) = 46 :: (m ++ fl q) := e2
     injection this
    obtain ⟨f1, f2⟩ := zf5 l m _ _ (hL l (.head _)) (hM m (.head _)) (fl_hd r) (fl_hd q) e3
    rw [f1, ih q (fun x hx => hL x (.tail _ hx)) (fun x hx => hM x (.tail _ hx)) f2]
theorem zf2 : ∀ (a : Str) (r : List Str), chars (Str.join dotS (a :: r)) = chars a ++ fl (r.map chars)
 | a, [] => by show chars a = _; simp [fl]
 | a, b :: r => by
  have := zf2 b r
  rw [zca, this, show chars dotS = [46] from by decide +kernel]
  simp [fl]
theorem zdy {x : Str} {a : List Nat} {L : List (List Nat)} (h : chars x = a ++ fl L) (ha : 46 ∉ a) (hL : ∀ l ∈ L, 46 ∉ l) : (Txt.split x dotS).map chars = a :: L := by
 have hd : dotS = ⟨#[46]⟩ := by decide +kernel
 have h1 := StrLaws.join_split x dotS
 have h2 : ∀ p ∈ Txt.split x dotS, 46 ∉ chars p := by
  rw [hd]; exact StrLaws.split_free x 46
 cases e : Txt.split x dotS with
 | nil => exact absurd e (zfm x)
 | cons p r =>
  rw [e] at h1 h2
  have h3 := zf2 p r
  rw [h1, h] at h3
  obtain ⟨f1, f2⟩ := fl_inj L (r.map chars) a (chars p) ha (h2 p (.head _)) hL (fun l hl => by
   obtain ⟨q, hq, rfl⟩ := List.mem_map.mp hl
   exact h2 q (.tail _ hq)) h3
  rw [Zi, ← f1, ← f2]
theorem zi2 {p : Nat → Bool} : ∀ {l : List Nat}, (∀ c ∈ l, p c = true) → l.takeWhile p = l
 | [], _ => rfl
 | c :: r, h => by rw [List.takeWhile_cons, zH (h c (.head _)), zi2 fun c hc => h c (.tail _ hc)]
theorem zd2 {x : Str} (h : ∀ c ∈ chars x, c ≠ 0 ∧ c < 128) : numTextOf x = chars x ∧ numSeenOf x = chars x := by
 have e : numTextOf x = chars x := by
  show (if x.cps.all (fun c => decide (c < 128)) = true then x.cps.toList else Unicode.numberText x.cps.toList) = _
  rw [zH]
  ·rfl
  ·rw [← Array.all_toList, List.all_eq_true]
   intro c hc
   simpa using (h c hc).2
 refine ⟨e, ?_⟩
 show (numTextOf x).takeWhile (· != 0) = _
 rw [e]
 exact zi2 fun c hc => by simpa using (h c hc).1
theorem zkd {v s : List Nat} (h : ∀ c ∈ v, NumText.blank c = true) : (v ++ s).dropWhile NumText.blank = s.dropWhile NumText.blank := by
 induction v with
 | nil => rfl
 | cons c r ih =>
  rw [List.cons_append, List.dropWhile_cons, zH (h c (.head _))]
  exact ih fun c hc => h c (.tail _ hc)
theorem zh2 {v : List Nat} (h : ∀ c ∈ v, c = 32 ∨ c = 10 ∨ c = 13) : ∀ c ∈ v, NumText.blank c = true := by
 intro c hc
 rcases h c hc with rfl | rfl | rfl <;> rfl
theorem zl6 {x y : Str} {v : List Nat} (hv : ∀ c ∈ v, c = 32 ∨ c = 10 ∨ c = 13) (hx : chars x = v ++ chars y) (hy : ∀ c ∈ chars y, c ≠ 0 ∧ c < 128) : PySem.intText? x = PySem.intText? y := by
 have hxa : ∀ c ∈ chars x, c ≠ 0 ∧ c < 128 := by
  intro c hc
  rw [hx] at hc
  rcases zD hc with h | h
  ·rcases hv c h with rfl | rfl | rfl <;> decide
  ·exact hy c h
 obtain ⟨a1, a2⟩ := zd2 hxa
 obtain ⟨b1, b2⟩ := zd2 hy
 have d := zkd (s := chars y) (zh2 hv)
 have ec : NumText.core (chars x) = NumText.core (chars y) := by
  unfold NumText.core
  rw [hx, d]
 unfold PySem.intText?
 rw [a1, a2, b1, b2, ec, hx, d]
 simp
open PySem.NumText in
theorem int_cand {n : Nat} (hn : n < 1000) {q : Str × Option Int} (hq : q ∈ cand n) : (PySem.intText? q.1 == q.2) = true := by
 obtain ⟨pre, v, h1, h2, _, h4⟩ := zin hq
 have fa := zdk hn
 have ad : AllDigits (figs n) := fa.1
 have ne : figs n ≠ [] := fun e => by have := fa.2.1; rw [e] at this; exact absurd this (by decide)
 have ln : q.1.length ≤ 4300 := by
  rw [← za0, h1, zY]
  refine zT (zJ (b := 1) ?_ fa.2.2.1) (by decide)
  rcases h4 with ⟨rfl, _⟩ | ⟨d, rfl, _⟩
  ·exact Nat.zero_le _
  ·exact Ze _
 have e0 : PySem.intText? (zag n) = some (n : Int) := KIN.num_reads (Int.natCast_nonneg n) (Int.ofNat_lt.mpr (Nat.lt_trans hn (by decide)))
 have e1 : ((digitsVal (figs n) : Nat) : Int) = n := by
  have := intText_digits (x := zag n) (by rw [show (zag (n : Int)).cps.toList = figs n from zbb n]; exact ad) (by rw [show (zag (n : Int)).cps.toList = figs n from zbb n]; exact ne) (by rw [← za0, zbb]; exact zT fa.2.2.1 (by decide))
  rw [e0, show (zag (n : Int)).cps.toList = figs n from zbb n] at this
  exact (Option.some.inj this).symm
 rw [h2, beq_iff_eq]
 rcases h4 with ⟨rfl, rfl⟩ | ⟨d, rfl, ⟨rfl, rfl⟩ | ⟨rfl, rfl⟩ | ⟨rfl, rfl⟩⟩
 ·rw [show q.1 = zag n from za1 (h1.trans (zbb n).symm)]
  exact e0
 ·have h1' : q.1.cps.toList = 48 :: figs n := h1
  rw [intText_digits (x := q.1) (by rw [h1']; exact fun c hc => (zC hc).elim (fun e => by rw [e]; decide) (ad c)) (by rw [h1']; exact List.cons_ne_nil _ _) ln, h1']
  exact congrArg some e1
 ·have hx : ∀ c ∈ chars q.1, c ≠ 0 ∧ c < 128 := fun c hc => by
   rw [h1] at hc
   rcases zD hc with h | h
   ·rw [zS h]; decide
   ·have := ad c h
    exact ⟨fun e => absurd (e ▸ this.1) (by decide), zU this.2 (by decide)⟩
  have hy : ∀ c ∈ chars (zag n), c ≠ 0 ∧ c < 128 := fun c hc => hx c (by rw [h1, ← zbb]; exact List.mem_append_right _ hc)
  obtain ⟨a1, a2⟩ := zd2 hx
  obtain ⟨b1, b2⟩ := zd2 hy
  have s1 : sign ((43 :: figs n).dropWhile PySem.NumText.blank) = (false, figs n) := by rw [dropWhile_of (by decide)]; rfl
  have s2 : sign ((figs n).dropWhile PySem.NumText.blank) = (false, figs n) := by
   rw [dropWhile_digits ad]
   generalize figs n = cs at *
   cases cs with
   | nil => exact absurd rfl ne
   | cons c cs => exact sign_of (fun e => absurd (e ▸ (ad c (.head _)).1) (by decide)) (fun e => absurd (e ▸ (ad c (.head _)).1) (by decide))
  have h1' : chars q.1 = 43 :: figs n := h1
  rw [← e0]
  unfold PySem.intText?
  rw [a1, a2, b1, b2, h1', zbb]
  unfold core
  rw [s1, s2]
  simp
 ·have h1' : q.1.cps.toList = 45 :: figs n := h1
  rw [intText_neg h1' ad ne ln, e1]
theorem int_allF : (zgd.all fun q => PySem.intText? q.1 == q.2) = true := by decide +kernel
theorem int_part {ns : List Int} {p : Part} (h : p ∈ zae ns) : PySem.intText? p.sp = p.val := by
 have h2 := cands (fun j hn j hq => int_cand hn hq) int_allF (zd7 h).1
 simpa using h2
noncomputable def mk (l : List Nat) : Str := ⟨l.toArray⟩
theorem zjs (l : List Nat) : chars (mk l) = l := rfl
theorem mk_app (a b : List Nat) : mk (a ++ b) = mk a ++ mk b := za1 (by rw [zam]; rfl)
theorem zk8 (d : List Scal) (s : Rst) (c : Nat) : zbf ⟨d ++ s.due, s.run⟩ c = ⟨d ++ (zbf s c).due, (zbf s c).run⟩ := by
 unfold zbf zan
 by_cases h : (decide (s.run.length ≠ 0) && (zau c || (zal c != zal (s.run.cps.getD 0 0)))) = true
 ·rw [zH h, zH h]
  by_cases h2 : zau c = true
  ·rw [zH h2, zH h2]; simp
  ·rw [zG h2, zG h2]; simp
 ·rw [zG h, zG h]
  by_cases h2 : zau c = true
  ·rw [zH h2, zH h2]
  ·rw [zG h2, zG h2]
theorem zgv (d : List Scal) : ∀ (cs : List Nat) (s : Rst), (cs.foldl zbf ⟨d ++ s.due, s.run⟩).due = d ++ (cs.foldl zbf s).due
 | [], s => rfl
 | c :: r, s => by
  rw [List.foldl_cons, List.foldl_cons, zk8]
  exact zgv d r _
theorem run_on {k : Bool} : ∀ (m a : List Nat), (∀ c ∈ m, zau c = false ∧ zal c = k) → (a = [] ∨ zal (a.headD 0) = k) → (d : List Scal) → m.foldl zbf ⟨d, mk a⟩ = ⟨d, mk (a ++ m)⟩
 | [], a, _, _, d => by rw [List.append_nil]; rfl
 | c :: m, a, h, ha, d => by
  obtain ⟨h1, h2⟩ := h c (.head _)
  have hf : zan ⟨d, mk a⟩ c = false := by
   unfold zan
   rcases ha with rfl | ha
   ·rfl
   ·have e : (mk a).cps.getD 0 0 = a.headD 0 := by
     cases a <;> rfl
    rw [e, ha, h1, h2]
    simp
  have e : zbf ⟨d, mk a⟩ c = ⟨d, mk (a ++ [c])⟩ := by
   unfold zbf
   rw [hf, zG zF, h1, zG zF, mk_app]
   rfl
  rw [List.foldl_cons, e, run_on m (a ++ [c]) (fun c hc => h c (.tail _ hc)) (.inr ?_) d]
  ·simp
  ·cases a with
   | nil => exact h2
   | cons b r =>
    rcases ha with ha | ha
    ·cases ha
    ·exact ha
theorem run_end {a : List Nat} {c : Nat} (hne : a ≠ []) (hc : zau c = true ∨ zal c ≠ zal (a.headD 0)) (cs : List Nat) : ((c :: cs).foldl zbf ⟨[], mk a⟩).due = zdj (mk a) ++ ((c :: cs).foldl zbf ⟨[], ofString ""⟩).due := by
 have e : (mk a).cps.getD 0 0 = a.headD 0 := by
  cases a <;> rfl
 have hl : (mk a).length ≠ 0 := by
  show a.toArray.size ≠ 0
  cases a with
  | nil => exact absurd rfl hne
  | cons => simp
 have hf : zan ⟨[], mk a⟩ c = true := by
  unfold zan
  rw [e]
  rcases hc with h | h
  ·simp [hl, h]
  ·have : (zal c != zal (a.headD 0)) = true := bne_iff_ne.mpr h
   rw [this, Bool.or_true, Bool.and_true]
   exact decide_eq_true hl
 have hf0 : zan ⟨[], ofString ""⟩ c = false := rfl
 rw [List.foldl_cons, List.foldl_cons]
 have e1 : zbf ⟨[], mk a⟩ c = ⟨zdj (mk a) ++ (zbf ⟨[], ofString ""⟩ c).due, (zbf ⟨[], ofString ""⟩ c).run⟩ := by
  unfold zbf
  rw [hf, hf0]
  by_cases h2 : zau c = true
  ·simp [h2]
  ·simp [h2]
 rw [e1]
 exact zgv _ _ _
noncomputable def sf (c : Nat) : Bool := zal c || zau c
theorem zk1 (c : Nat) : sepB c = zau c := by
 unfold sepB zau
 rw [Bool.eq_iff_iff]
 simp
 exact om52
theorem zhi {m : List Nat} (hne : m ≠ []) (h : ∀ c ∈ m, zau c = false) : zf4 (mk m) = false := by
 cases e : zf4 (mk m) with
 | false => rfl
 | true =>
  exfalso
  obtain ⟨i, h1, h2⟩ := (StrLaws.found_iff _ _).mp e
  rw [StrLaws.subAt_eq, beq_iff_eq] at h2
  cases m with
  | nil => exact hne rfl
  | cons c r =>
   have hc := h c (.head _)
   have hm : c ∈ (ofString "._+-").cps.toList := by
    have : c ∈ ((ofString "._+-").cps.toList.drop i).take (mk (c :: r)).length := by
     rw [h2]
     exact .head _
    exact List.mem_of_mem_drop (List.mem_of_mem_take this)
   have : zau c = true := by
    unfold zau
    rw [decide_eq_true_eq]
    exact hm
   rw [hc] at this
   cases this
theorem zl8 : zf4 (mk []) = true := by decide +kernel
theorem zl9 {c : Nat} (h : zau c = true) : zf4 (mk [c]) = true := by
 have : zf4 (mk [c]) = zau c := zhh c
 rw [this, h]
theorem zjr : zat (mk []) = [] := by unfold zat; rw [zl8]; rfl
theorem comp_del {c : Nat} (h : zau c = true) : zat (mk [c]) = [] := by unfold zat; rw [zl9 h]; rfl
theorem zkw {p : Array Nat × Bool} {c : Nat} (h1 : zal c = false) (h2 : zau c = false) : NumText.step 10 p c = none := by
 unfold NumText.step
 unfold zau at h2
 unfold zal at h1
 simp at h1 h2
 rw [zG (by simp; exact om53 h2)]
 unfold NumText.digit?
 rw [zG (by simp; exact om54 h1)]
 by_cases a : (97 ≤ c && c ≤ 122) = true
 ·rw [zH a]
  simp at a
  dsimp only
  rw [zG (by exact om55 a)]
 ·rw [zG a]
  by_cases b : (65 ≤ c && c ≤ 90) = true
  ·rw [zH b]
   simp at b
   dsimp only
   rw [zG (by exact om56 b)]
  ·rw [zG b]
theorem zil {l : List Nat} (h : ∀ c ∈ l, zal c = false ∧ zau c = false) : NumText.digits? 10 l = none := by
 cases l with
 | nil => rfl
 | cons c r =>
  unfold NumText.digits?
  rw [List.foldlM_cons, zkw (h c (.head _)).1 (h c (.head _)).2]
  rfl
theorem zga {p : Nat → Bool} {c : Nat} : ∀ {l : List Nat}, c ∈ l.dropWhile p → c ∈ l
 | [], h => h
 | x :: r, h => by
  rw [List.dropWhile_cons] at h
  split at h
  ·exact .tail _ (zga h)
  ·exact h
theorem sign_sub {c : Nat} {l : List Nat} (h : c ∈ (NumText.sign l).2) : c ∈ l := by
 unfold NumText.sign at h
 split at h
 ·exact .tail _ h
 ·exact .tail _ h
 ·exact h
theorem core_sub {c : Nat} {l : List Nat} (h : c ∈ NumText.core l) : c ∈ l := by
 exact zga (sign_sub (List.mem_reverse.mp (zga (List.mem_reverse.mp h))))
theorem int_none {m : List Nat} (h : ∀ c ∈ m, zal c = false ∧ zau c = false) (ha : ∀ c ∈ m, c ≠ 0 ∧ c < 128) : PySem.intText? (mk m) = none := by
 obtain ⟨a1, a2⟩ := zd2 (x := mk m) ha
 unfold PySem.intText?
 rw [a1, a2, zjs, zil fun c hc => h c (core_sub hc)]
 split <;> rfl
theorem zmc (a : List Nat) : (mk a).cps.getD 0 0 = a.headD 0 := by
 cases a <;> rfl
theorem mk_len (a : List Nat) : (mk a).length = a.length := by
 show a.toArray.size = _
 simp
theorem comp_run {m : List Nat} (hne : m ≠ []) (h : ∀ c ∈ m, zal c = false ∧ zau c = false) (ha : ∀ c ∈ m, c ≠ 0 ∧ c < 128) : zat (mk m) = zdj (mk m) := by
 unfold zat zdj
 rw [zhi hne fun c hc => (h c hc).2, zG zF, int_none h ha, zmc]
 cases m with
 | nil => exact absurd rfl hne
 | cons c r =>
  rw [List.headD_cons, (h c (.head _)).1, zG zF]
theorem zkp : ∀ (l : List Nat) (n : Nat), NumText.AllDigits l → ((l.foldl (fun acc c => acc * 10 + (c - 48)) n : Nat) : Int) = l.foldl (fun (n : Int) (c : Nat) => n * 10 + ((c : Int) - 48)) (n : Int)
 | [], n, _ => rfl
 | c :: r, n, h => by
  have hc := h.head
  rw [List.foldl_cons, List.foldl_cons, zkp r _ h.tail]
  congr 1
  exact om57 hc
theorem zkb {f : List Nat} (h : ∀ c ∈ f, zal c = true) : NumText.AllDigits f := by
 intro c hc
 have := h c hc
 unfold zal at this
 simpa using this
theorem zmz {f : List Nat} (hne : f ≠ []) (h : ∀ c ∈ f, zal c = true) (hl : f.length ≤ 4300) : zat (mk f) = zdj (mk f) := by
 have hd := zkb h
 have e := intText_digits (x := mk f) hd hne (by rw [mk_len]; exact hl)
 unfold zat zdj
 rw [zhi hne (fun c hc => ?_), zG zF, e, zmc]
 ·cases f with
  | nil => exact absurd rfl hne
  | cons c r =>
   rw [List.headD_cons, (h c (.head _)), zH rfl]
   dsimp only
   have := zkp (c :: r) 0 hd
   unfold NumText.digitsVal zj8
   rw [show (mk (c :: r)).cps.toList = c :: r from rfl, this]
   rfl
 ·have := hd c hc
  unfold zau
  simp
  exact om58 this
theorem fold_nil {m : List Nat} {k : Bool} (h : ∀ c ∈ m, zau c = false ∧ zal c = k) (d : List Scal) : m.foldl zbf ⟨d, ofString ""⟩ = ⟨d, mk m⟩ := by
 have := run_on (k := k) m [] h (.inl rfl) d
 exact this
noncomputable def due (l : List Nat) : List Scal := (l.foldl zbf ⟨[], ofString ""⟩).due
theorem zik {m : List Nat} {k : Bool} (hne : m ≠ []) (h : ∀ c ∈ m, zau c = false ∧ zal c = k) {c : Nat} {l : List Nat} (hc : zau c = true ∨ zal c ≠ k) : due (m ++ c :: l) = zdj (mk m) ++ due (c :: l) := by
 unfold due
 rw [List.foldl_append, fold_nil h, run_end hne]
 cases m with
 | nil => exact absurd rfl hne
 | cons a r =>
  rw [List.headD_cons, (h a (.head _)).2]
  exact hc
theorem zmo {c : Nat} {l : List Nat} (h : zau c = true) : due (c :: l) = due l := by
 unfold due
 rw [List.foldl_cons]
 have : zbf ⟨[], ofString ""⟩ c = ⟨[], ofString ""⟩ := by
  unfold zbf
  rw [show zan ⟨[], ofString ""⟩ c = false from rfl, zG zF, zH h]
 rw [this]
theorem zjo {m : List Nat} (h : ∀ c ∈ m, zal c = false ∧ zau c = false) (ha : ∀ c ∈ m, c ≠ 0 ∧ c < 128) {c : Nat} {l : List Nat} (hc : sf c = true) : due (m ++ c :: l) = zat (mk m) ++ due (c :: l) := by
 by_cases hne : m = []
 ·rw [hne, zjr]; rfl
 ·rw [comp_run hne h ha]
  refine zik (k := false) hne (fun c hc => ⟨(h c hc).2, (h c hc).1⟩) ?_
  unfold sf at hc
  by_cases hd : zau c = true
  ·exact .inl hd
  ·refine .inr ?_
   simp only [Bool.not_eq_true] at hd
   rw [hd, Bool.or_false] at hc
   rw [hc]
   exact Bool.noConfusion
theorem sf_not {c : Nat} (h : sf c = false) : zal c = false ∧ zau c = false := by
 unfold sf at h
 simpa using h
theorem zmq {c : Nat} (h : zau c = true) : zal c = false := by
 unfold zau at h
 simp at h
 rcases h with rfl | rfl | rfl | rfl <;> rfl
theorem zmg {c : Nat} (h : zal c = true) : zau c = false := by
 cases e : zau c with
 | false => rfl
 | true => rw [zmq e] at h; cases h
theorem zho {t : Array Nat} {pre post : List Nat} {c : Nat} (h : t.toList = pre ++ c :: post) (hc : zal c = false) : runLen figB t (t.size - pre.length) pre.length = 0 :=
 zbm (P := figB) (t := t) [] pre (c :: post) (t.size - pre.length) (by rw [h]; simp) (fun j h => nomatch h) (.inr ⟨c, post, rfl, hc⟩) rfl (Nat.zero_le _)
theorem zmd {t : Array Nat} {pre post : List Nat} {c : Nat} (h : t.toList = pre ++ c :: post) : t.getD pre.length 0 = c := by
 rw [zbq, h, List.getD_eq_getElem?_getD, List.getElem?_append_right (Ze _), Nat.sub_self]
 rfl
theorem zmk {t : Array Nat} {pre post : List Nat} {c : Nat} (h : t.toList = pre ++ c :: post) (hc : sf c = false) : end1 t pre.length = none := by
 obtain ⟨h1, h2⟩ := sf_not hc
 unfold end1
 rw [zho h h1, zG (by simp), zmd h, zk1, h2, zG zF]
theorem end1_del {t : Array Nat} {pre post : List Nat} {c : Nat} (h : t.toList = pre ++ c :: post) (hc : zau c = true) : end1 t pre.length = some (pre.length + 1) := by
 unfold end1
 rw [zho h (zmq hc), zG (by simp), zmd h, zk1, hc, zH rfl]
theorem end1_fig {t : Array Nat} {pre f post : List Nat} (h : t.toList = pre ++ f ++ post) (hf : ∀ c ∈ f, zal c = true) (hne : f ≠ []) (hp : post = [] ∨ ∃ c r, post = c :: r ∧ zal c = false) : end1 t pre.length = some (pre.length + f.length) := by
 have hz : t.size = pre.length + f.length + post.length := by rw [← Array.length_toList, h]; simp; exact om59
 have := zbm (P := figB) (t := t) f pre post (t.size - pre.length) h hf hp rfl (by exact om60 hz)
 have hl : 1 ≤ f.length := by
  cases f with
  | nil => exact absurd rfl hne
  | cons => simp
 unfold end1
 rw [this, zH hl]
theorem zi6 {t : Array Nat} : ∀ (w pre post : List Nat), t.toList = pre ++ w ++ post → (∀ c ∈ w, sf c = false) → seek (end1 t) (t.size - pre.length) pre.length = seek (end1 t) (t.size - (pre ++ w).length) (pre ++ w).length
 | [], pre, post, _, _ => by rw [List.append_nil]
 | c :: w, pre, post, h, hw => by
  have hz : t.size = pre.length + (w.length + 1) + post.length := by rw [← Array.length_toList, h]; simp; exact om61
  obtain ⟨n, hn⟩ : ∃ n, t.size - pre.length = n + 1 := ⟨t.size - pre.length - 1, by exact om62 hz⟩
  have e := zmk (t := t) (pre := pre) (post := w ++ post) (c := c) (by rw [h]; simp) (hw c (.head _))
  have ih := zi6 (t := t) w (pre ++ [c]) post (by rw [h]; simp) (fun c hc => hw c (.tail _ hc))
  rw [hn]
  conv => lhs; unfold seek
  rw [e]
  dsimp only
  have e2 : n = t.size - (pre ++ [c]).length := by rw [zY, List.length_singleton]; exact om63 hn
  rw [e2, show pre.length + 1 = (pre ++ [c]).length from by simp, ih]
  simp
def PreOk (a : List Nat) : Prop := a = [] ∨ ∃ a' c, a = a' ++ [c] ∧ sf c = true
def zen (t : Array Nat) (v : Str) : Prop := ∃ a b, t.toList = a ++ chars v ++ b ∧ (PreOk a ∨ ∀ c ∈ chars v, sf c = true)
theorem zfk (p : Nat → Bool) : ∀ l : List Nat, ∃ m r, l = m ++ r ∧ (∀ c ∈ m, p c = true) ∧ (r = [] ∨ ∃ c q, r = c :: q ∧ p c = false)
 | [] => ⟨[], [], rfl, fun j h => (nomatch h), .inl rfl⟩
 | c :: l => by
  cases e : p c with
  | false => exact ⟨[], c :: l, rfl, fun j h => (nomatch h), .inr ⟨c, l, rfl, e⟩⟩
  | true =>
   obtain ⟨m, r, h1, h2, h3⟩ := zfk p l
   refine ⟨c :: m, r, by rw [h1]; rfl, ?_, h3⟩
   intro x hx
   rcases zC hx with rfl | hx
   ·exact e
   ·exact h2 x hx
theorem zjm {t : Array Nat} {pre mid post : List Nat} (h : t.toList = pre ++ mid ++ post) : (⟨t.extract pre.length (pre.length + mid.length)⟩ : Str) = mk mid := za1 (zdv h)
theorem zk2 {t : Array Nat} {R : Nat → Option Nat} {p e : Nat} (hp : p < t.size) (h : R p = some e) : seek R (t.size - p) p = some (p, e) := by
 obtain ⟨n, hn⟩ : ∃ n, t.size - p = n + 1 := ⟨t.size - p - 1, by exact om64 hp⟩
 rw [hn]
 unfold seek
 rw [h]
theorem zmn : due [46] = [] := by rw [zmo rfl]; rfl
theorem ze9 (a b : Str) (L : List Str) : zbv (a :: b :: L) = zat a ++ (zat b ++ zbv L) := by
 unfold zbv
 simp
set_option tactic.hygienic true in
theorem zm0 {t : Array Nat} (ha : ∀ c ∈ t.toList, c ≠ 0 ∧ c < 128) (hl : t.size ≤ 640) : ∀ (n : Nat) (pre rest : List Nat) (Ls : List Str), rest.length ≤ n → t.toList = pre ++ rest → PreOk pre → Cuts (end1 t) t pre.length Ls → zbv Ls = due (rest ++ [46]) ∧ ∀ v ∈ Ls, zen t v := by
 intro n
 induction n with
 | zero =>
  intro pre rest Ls hn ht hp hc
  have hr : rest = [] := List.length_eq_zero_iff.mp (by exact om65 hn)
  subst hr
  have hz : t.size = pre.length := by rw [← Array.length_toList, ht]; simp
  have hs : seek (end1 t) (t.size - pre.length) pre.length = none := by rw [hz, Nat.sub_self]; rfl
  cases hc with
  | stop h =>
   have e := zjm (t := t) (pre := pre) (mid := []) (post := []) (by rw [ht]; simp)
   rw [List.length_nil, Nat.add_zero] at e
   rw [hz, e]
   refine ⟨?_, ?_⟩
   ·show zat (mk []) ++ [] = _
    rw [zjr, List.nil_append, List.nil_append, zmn]
   ·intro v hv
    rw [zS hv]
    exact ⟨pre, [], by rw [ht]; simp [zjs], .inl hp⟩
  | more h _ => rw [hs] at h; cases h
 | succ n ih =>
  intro pre rest Ls hn ht hp hc
  obtain ⟨m, r, hr, hm, hr2⟩ := zfk (fun c => !sf c) rest
  have hm0 : ∀ c ∈ m, sf c = false := fun c hc => by simpa using hm c hc
  have hm1 : ∀ c ∈ m, zal c = false ∧ zau c = false := fun c hc => sf_not (hm0 c hc)
  have hma : ∀ c ∈ m, c ≠ 0 ∧ c < 128 := fun c hc => ha c (by rw [ht, hr]; simp [hc])
  have ht1 : t.toList = pre ++ m ++ r := by rw [ht, hr]; simp
  have hs1 := zi6 m pre r ht1 hm0
  have hz : t.size = pre.length + m.length + r.length := by rw [← Array.length_toList, ht1]; simp; exact om59
  have em := zjm ht1
  have pm : zen t (mk m) := ⟨pre, r, ht1, .inl hp⟩
  rcases hr2 with rfl | ⟨c, q, rfl, hcs⟩
  ·have hs : seek (end1 t) (t.size - pre.length) pre.length = none := by
    rw [hs1]
    have : t.size - (pre ++ m).length = 0 := by rw [hz]; simp
    rw [this]; rfl
   cases hc with
   | stop h =>
    have hz2 : t.size = pre.length + m.length := by simpa using hz
    rw [hz2, em]
    refine ⟨?_, ?_⟩
    ·show zat (mk m) ++ [] = _
     rw [hr, List.append_nil m, zjo hm1 hma (c := 46) (l := []) rfl, zmn]
    ·intro v hv
     rw [zS hv]; exact pm
   | more h _ => rw [hs] at h; cases h
  ·have hcs : sf c = true := by simpa using hcs
   have hlt : (pre ++ m).length < t.size := by rw [hz]; simp
   have ed : due (rest ++ [46]) = zat (mk m) ++ due (c :: (q ++ [46])) := by
    rw [hr, List.append_assoc, List.cons_append, zjo hm1 hma hcs]
   have hpl : (pre ++ m).length = pre.length + m.length := by simp
   by_cases hd : zau c = true
   ·have e1 := end1_del (t := t) (pre := pre ++ m) (post := q) (c := c) ht1 hd
    have hs := zk2 hlt e1
    rw [← hs1] at hs
    cases hc with
    | stop h => rw [hs] at h; cases h
    | more h h2 =>
     rw [hs] at h
     cases h
     rename_i Lx
     have ht2 : t.toList = (pre ++ m) ++ [c] ++ q := by rw [ht1]; simp
     have e2 := zjm ht2
     have h2 : Cuts (end1 t) t ((pre ++ m) ++ [c]).length Lx := by
      rw [zY (as := pre ++ m)]; exact h2
     obtain ⟨i1, i2⟩ := ih ((pre ++ m) ++ [c]) q Lx (by rw [hr] at hn; simp at hn; exact om66 hn) ht2 (.inr ⟨_, c, rfl, hcs⟩) h2
     rw [List.length_singleton] at e2
     rw [e2, hpl, em]
     refine ⟨?_, ?_⟩
     ·rw [ze9, comp_del hd, List.nil_append, i1, ed, zmo hd]
     ·intro v hv
      rcases zC hv with rfl | hv
      ·exact pm
      ·rcases zC hv with rfl | hv
       ·exact ⟨_, _, ht2, .inr fun x hx => by rw [zS hx]; exact hcs⟩
       ·exact i2 v hv
   ·have hf : zal c = true := by
     unfold sf at hcs
     simp only [Bool.not_eq_true] at hd
     rwa [hd, Bool.or_false] at hcs
    obtain ⟨f, r3, hq, hfa, hr3⟩ := zfk zal (c :: q)
    have hfne : f ≠ [] := by
     intro e
     rw [e, List.nil_append] at hq
     rcases hr3 with e3 | ⟨c', q', e3, hc'⟩
     ·rw [e3] at hq; cases hq
     ·rw [e3] at hq
      injection hq with h1 h2
      rw [← h1, hf] at hc'
      cases hc'
    have ht2 : t.toList = (pre ++ m) ++ f ++ r3 := by rw [ht1, hq]; simp
    have e1 := end1_fig ht2 hfa hfne hr3
    have hs := zk2 hlt e1
    rw [← hs1] at hs
    have hfl : f.length ≤ 640 := by
     have : t.size = (pre ++ m).length + f.length + r3.length := by rw [← Array.length_toList, ht2]; simp; exact om67
     exact om68 hl this
    have hfl1 : 1 ≤ f.length := by
     cases f with
     | nil => exact absurd rfl hfne
     | cons => simp
    cases hc with
    | stop h => rw [hs] at h; cases h
    | more h h2 =>
     rw [hs] at h
     cases h
     rename_i Lx
     have e2 := zjm ht2
     have hlq : (c :: q).length = f.length + r3.length := by rw [hq]; simp
     have h2 : Cuts (end1 t) t ((pre ++ m) ++ f).length Lx := by
      rw [zY (as := pre ++ m)]; exact h2
     have hlast : PreOk ((pre ++ m) ++ f) := by
      refine .inr ⟨(pre ++ m) ++ f.dropLast, f.getLast hfne, ?_, ?_⟩
      ·rw [List.append_assoc (pre ++ m), List.dropLast_concat_getLast]
      ·unfold sf
       rw [hfa _ (List.getLast_mem hfne)]; rfl
     obtain ⟨i1, i2⟩ := ih ((pre ++ m) ++ f) r3 Lx (by rw [hr] at hn; rw [zY, hlq] at hn; exact om69 hn hfl1) ht2 hlast h2
     have ed2 : due (c :: (q ++ [46])) = zdj (mk f) ++ due (r3 ++ [46]) := by
      rw [← List.cons_append, hq, List.append_assoc]
      rcases hr3 with e3 | ⟨c', q', e3, hc'⟩
      ·rw [e3]
       exact zik (k := true) hfne (fun c hc => ⟨zmg (hfa c hc), hfa c hc⟩) (.inl rfl)
      ·rw [e3]
       exact zik (k := true) hfne (fun c hc => ⟨zmg (hfa c hc), hfa c hc⟩) (.inr (by rw [hc']; exact Bool.noConfusion))
     rw [e2, hpl, em]
     refine ⟨?_, ?_⟩
     ·rw [ze9, zmz hfne hfa (by exact om70 hfl), i1, ed, ed2]
     ·intro v hv
      rcases zC hv with rfl | hv
      ·exact pm
      ·rcases zC hv with rfl | hv
       ·refine ⟨_, _, ht2, .inr fun x hx => ?_⟩
        unfold sf
        rw [hfa x hx]; rfl
       ·exact i2 v hv
def NoC (l : List Nat) : Prop := ∀ a b, l = a ++ 99 :: b → ∃ a', a = a' ++ [114]
theorem zjg {l : List Nat} (h : 99 ∉ l) : NoC l := by
 intro a b e
 exact absurd (by rw [e]; simp) h
theorem noC_rc1 : NoC [114, 99, 49] := by
 intro a b e
 cases a with
 | nil => cases e
 | cons x a =>
  cases a with
  | nil => cases e; exact ⟨[], rfl⟩
  | cons y a =>
   cases a with
   | nil => cases e
   | cons z a =>
    exfalso
    have := congrArg List.length e
    simp at this
theorem zft {l m : List Nat} (hl : NoC l) (hm : NoC m) : NoC (l ++ m) := by
 intro a b e
 rcases List.append_eq_append_iff.mp e with ⟨r, h1, h2⟩ | ⟨r, h1, h2⟩
 ·obtain ⟨a', ha⟩ := hm r b h2
  exact ⟨l ++ a', by rw [h1, ha]; simp⟩
 ·cases r with
  | nil =>
   obtain ⟨a', ha⟩ := hm [] b (by simpa using h2.symm)
   simp at ha
  | cons x r =>
   rw [List.cons_append] at h2
   injection h2 with h3 h4
   subst h3
   exact hl a r h1
structure IT (s : Str) (v : Option Int) : Prop where
 al : Al s
 len : s.length ≤ 4
 nd : 46 ∉ chars s
 int : PySem.intText? s = v
 noc : NoC (chars s)
 vb : ∀ i, v = some i → i.natAbs < 2000
inductive PP : List (List Nat) → List (Option Int) → Prop
 | nil : PP [] []
 | cons (u : List Nat) (s : Str) (v : Option Int) {L vs} : zhv u → IT s v → PP L vs → PP ((u ++ chars s) :: L) (v :: vs)
theorem zi0 {u : List Nat} (h : zhv u) {c : Nat} (hc : c ≠ 32 ∧ c ≠ 10 ∧ c ≠ 13) : c ∉ u := by
 intro hm
 rcases h.1 c hm with e | e | e
 ·exact hc.1 e
 ·exact hc.2.1 e
 ·exact hc.2.2 e
theorem PP.nd {L : List (List Nat)} {vs : List (Option Int)} (h : PP L vs) : ∀ l ∈ L, 46 ∉ l := by
 induction h with
 | nil => exact fun j h => nomatch h
 | cons u s v hu hs _ ih =>
  intro l hl
  rcases zC hl with rfl | hl
  ·intro hm
   rcases zD hm with h | h
   ·exact zi0 hu (by decide) h
   ·exact hs.nd h
  ·exact ih l hl
def Sg (c : Nat) : Prop := zck c = true ∨ c = 32 ∨ c = 10 ∨ c = 13
theorem Sg.asc {c : Nat} (h : Sg c) : c ≠ 0 ∧ c < 128 := by
 rcases h with h | rfl | rfl | rfl
 ·have := zdw h; exact om71 this
 all_goals decide
theorem PP.sg {L : List (List Nat)} {vs : List (Option Int)} (h : PP L vs) : ∀ l ∈ L, (∀ c ∈ l, Sg c) ∧ NoC l ∧ l.length ≤ 8 := by
 induction h with
 | nil => exact fun j h => nomatch h
 | cons u s v hu hs _ ih =>
  intro l hl
  rcases zC hl with rfl | hl
  ·refine ⟨fun c hm => ?_, zft (zjg (zi0 hu (by decide))) hs.noc, ?_⟩
   ·rcases zD hm with h | h
    ·exact .inr (hu.1 c h)
    ·exact .inl (hs.al c h)
   ·have := hu.2
    have := hs.len
    rw [zY, za0]; exact om72 (by assumption) this
  ·exact ih l hl
theorem fl_sg {L : List (List Nat)} (h : ∀ l ∈ L, (∀ c ∈ l, Sg c) ∧ NoC l ∧ l.length ≤ 8) : (∀ c ∈ fl L, Sg c) ∧ NoC (fl L) ∧ (fl L).length ≤ 9 * L.length := by
 induction L with
 | nil => exact ⟨fun j h => (nomatch h), zjg (by simp [fl]), Ze _⟩
 | cons a r ih =>
  obtain ⟨i1, i2, i3⟩ := ih fun l hl => h l (.tail _ hl)
  obtain ⟨a1, a2, a3⟩ := h a (.head _)
  have e : fl (a :: r) = [46] ++ (a ++ fl r) := by simp [fl]
  rw [e]
  refine ⟨fun c hc => ?_, zft (zjg (by decide)) (zft a2 i2), ?_⟩
  ·rcases zD hc with h | h
   ·rw [zS h]; exact .inl rfl
   ·rcases zD h with h | h
    ·exact a1 c h
    ·exact i1 c h
  ·simp only [List.length_append, List.length_cons, List.length_nil]; exact om73 i3 a3
theorem PP.ints {L : List (List Nat)} {vs : List (Option Int)} (h : PP L vs) : ∀ xs : List Str, xs.map chars = L → xs.map PySem.intText? = vs := by
 induction h with
 | nil =>
  intro xs e
  cases xs with
  | nil => rfl
  | cons => cases e
 | cons u s v hu hs _ ih =>
  intro xs e
  cases xs with
  | nil => cases e
  | cons x r =>
   rw [Zi] at e
   injection e with e1 e2
   rw [Zi, ih r e2, zl6 hu.1 e1 (fun c hc => (Sg.asc (.inl (hs.al c hc)))), hs.int]
theorem PP.vb {L : List (List Nat)} {vs : List (Option Int)} (h : PP L vs) : ∀ i, some i ∈ vs → i.natAbs < 2000 := by
 induction h with
 | nil => exact fun j h => nomatch h
 | cons u s v hu hs _ ih =>
  intro i hi
  rcases zC hi with e | hi
  ·exact hs.vb i e.symm
  ·exact ih i hi
theorem PP.len {L : List (List Nat)} {vs : List (Option Int)} (h : PP L vs) : vs.length = L.length := by
 induction h with
 | nil => rfl
 | cons u s v hu hs _ ih => rw [List.length_cons, List.length_cons, ih]
noncomputable def noCb (l : List Nat) : Bool := !l.contains 99 || l == [114, 99, 49]
theorem noCb_ok {l : List Nat} (h : noCb l = true) : NoC l := by
 unfold noCb at h
 simp at h
 rcases h with h | h
 ·exact zjg h
 ·rw [h]; exact noC_rc1
noncomputable def zee (c : Nat) (v : Option Int) : Bool := decide (c < 53) || (decide (c ≤ 57) && decide (53 ≤ c)) || (decide (c = 114 ∨ c = 120) && v.isNone)
noncomputable def chk2 (q : Str × Option Int) : Bool :=
 !(chars q.1).contains 46 && noCb (chars q.1) && zee ((chars q.1).headD 0) q.2 &&
 (if zaq ⟨q.1, q.2, 0⟩ = true then !(chars (zas ⟨q.1, q.2, 0⟩)).contains 46 && noCb (chars (zas ⟨q.1, q.2, 0⟩)) && (PySem.intText? (zas ⟨q.1, q.2, 0⟩) == lowVal ⟨q.1, q.2, 0⟩) else true)
theorem no46 {l : List Nat} (h : ∀ x ∈ l, (x = 43 ∨ x = 45) ∨ 48 ≤ x ∧ x ≤ 57) : (!l.contains 46 && noCb l) = true := by
 have k : ∀ c, c = 46 ∨ c = 99 → l.contains c = false := fun c hc => by
  rw [← Bool.not_eq_true]
  intro z
  have := h c (List.contains_iff_mem.mp z)
  rcases hc with rfl | rfl <;> exact absurd this (by decide)
 unfold noCb
 rw [k 46 (.inl rfl), k 99 (.inr rfl)]
 rfl
theorem first_ok {c : Nat} {v : Option Int} (h : (c = 43 ∨ c = 45) ∨ 48 ≤ c ∧ c ≤ 57) : zee c v = true := by
 unfold zee
 rcases Nat.lt_or_ge c 53 with z | z
 ·rw [decide_eq_true z]; rfl
 ·rcases h with h | h
  ·rcases h with rfl | rfl <;> exact absurd z (by decide)
  ·rw [decide_eq_true z, decide_eq_true h.2, Bool.and_self, Bool.or_true, Bool.true_or]
theorem zm1 {n : Nat} (hn : n < 1000) {q : Str × Option Int} (hq : q ∈ cand n) : chk2 q = true := by
 obtain ⟨pre, v, h1, h2, _, h4⟩ := zin hq
 have fa := zdk hn
 have h5 := pre_or h4
 have al : ∀ x ∈ chars q.1, (x = 43 ∨ x = 45) ∨ 48 ≤ x ∧ x ≤ 57 := fun c hc => by
  rw [h1] at hc
  rcases zD hc with h | h
  ·rcases h5 with ⟨rfl, _⟩ | ⟨d, rfl, hd⟩
   ·cases h
   ·rw [zS h]
    rcases hd with rfl | rfl | rfl <;> decide
  ·exact .inr (fa.1 c h)
 have hh : ((chars q.1).headD 0 = 43 ∨ (chars q.1).headD 0 = 45) ∨ 48 ≤ (chars q.1).headD 0 ∧ (chars q.1).headD 0 ≤ 57 := by
  have ne : chars q.1 ≠ [] := fun e => by
   rw [h1] at e
   have := fa.2.1
   rw [(List.append_eq_nil_iff.mp e).2] at this
   exact absurd this (by decide)
  generalize chars q.1 = l at al ne
  cases l with
  | nil => exact absurd rfl ne
  | cons c r => exact al c (.head _)
 unfold chk2
 rw [no46 al, first_ok hh, Bool.true_and, Bool.true_and, h2]
 by_cases c : zaq ⟨q.1, some v, 0⟩ = true
 ·rw [zH c]
  obtain ⟨h3, rfl, e, _⟩ := zjj hn h1 h5 c
  rw [no46 (by rw [e]; exact fun x hx => .inr ((zdk (zU (Nat.sub_le _ _) hn)).1 x hx)), Bool.true_and, beq_iff_eq]
  have e1 : zas ⟨q.1, some (n : Int), 0⟩ = zag ((n - 3 : Nat) : Int) := za1 (e.trans (zbb _).symm)
  rw [e1, show lowVal ⟨q.1, some (n : Int), 0⟩ = some ((n : Int) - 3) from zH c]
  exact (KIN.num_reads (Int.natCast_nonneg _) (Int.ofNat_lt.mpr (zU (Nat.sub_le _ _) (Nat.lt_trans hn (by decide))))).trans (congrArg some (Int.ofNat_sub h3))
 ·rw [zG c]
theorem zm2 : zgd.all chk2 = true := by decide +kernel
theorem zg1 {ns : List Int} {p : Part} (h : p ∈ zae ns) : chk2 (p.sp, p.val) = true := by
 exact cands (fun j hn j hq => zm1 hn hq) zm2 (zd7 h).1
theorem zj3 {ns : List Int} {p : Part} (h : p ∈ zae ns) : zee ((chars p.sp).headD 0) p.val = true := by
 have := zg1 h
 unfold chk2 at this
 simp only [Bool.and_eq_true] at this
 exact this.1.2
theorem zh8 {ns : List Int} {p : Part} (h : p ∈ zae ns) : IT p.sp p.val ∧ IT (zas p) (lowVal p) := by
 have F := zeq h
 have h2 := zg1 h
 unfold chk2 at h2
 simp only [Bool.and_eq_true, Bool.not_eq_true'] at h2
 obtain ⟨⟨⟨a1, a2⟩, _⟩, a4⟩ := h2
 have i1 : IT p.sp p.val := ⟨F.al, F.len, by simpa using a1, int_part h, noCb_ok a2, fun i hi => by have := F.val i hi; exact om74 this⟩
 refine ⟨i1, ?_⟩
 have el : zaq p = zaq ⟨p.sp, p.val, 0⟩ := rfl
 by_cases c : zaq p = true
 ·rw [el] at c
  rw [zH c] at a4
  simp only [Bool.and_eq_true, Bool.not_eq_true', beq_iff_eq] at a4
  obtain ⟨⟨b1, b2⟩, b3⟩ := a4
  refine ⟨F.lal, by rw [F.low]; exact F.len, ?_, b3, noCb_ok b2, ?_⟩
  ·have : ¬ ((chars (zas ⟨p.sp, p.val, 0⟩)).contains 46 = true) := by rw [b1]; exact zF
   intro hm
   exact this (List.contains_iff_mem.mpr hm)
  ·intro i hi
   unfold lowVal at hi
   rw [el, zH c] at hi
   cases e : p.val with
   | none => rw [e] at hi; cases hi
   | some j =>
    rw [e] at hi
    cases hi
    have := F.val j e
    dsimp only
    exact om75 this
 ·have e1 : zas p = p.sp := zG c
  have e2 : lowVal p = p.val := zG c
  rw [e1, e2]; exact i1
theorem zi9 {ns : List Int} : ∀ (pr : List Part) (us : List (List Nat)), (∀ p ∈ pr, p ∈ zae ns) → (∀ u ∈ us, zhv u) → PP (pcs pr us) (pr.map (·.val))
 | [], us, _, _ => .nil
 | p :: r, us, hp, hu => by
  have hi := (zh8 (hp p (.head _))).1
  have hr : ∀ q ∈ r, q ∈ zae ns := fun q hq => hp q (.tail _ hq)
  have wn : zhv [] := ⟨fun j h => (nomatch h), Nat.zero_le _⟩
  unfold pcs
  by_cases c : 0 < p.gap
  ·rw [zH c]
   refine .cons _ _ _ ?_ hi (zi9 r us.tail hr fun u h => hu u (List.mem_of_mem_tail h))
   cases us with
   | nil => exact wn
   | cons u us => exact hu u (.head _)
  ·rw [zG c]
   exact .cons [] p.sp p.val wn hi (zi9 r us hr hu)
noncomputable def dpos (l : List Nat) : List Nat := (List.range l.length).filter fun k => l.getD k 0 == 46
theorem zmp (x : Str) : zbi x = dpos (chars x) := by
 unfold zbi dpos
 congr 1
 funext k
 rw [zbq]
 rfl
theorem zci (a m : List Nat) : dpos (a ++ m) = dpos a ++ (dpos m).map (a.length + ·) := by
 unfold dpos
 rw [zY, List.range_add, List.filter_append, List.filter_map]
 congr 1
 ·apply List.filter_congr
  intro k hk
  have := List.mem_range.mp hk
  rw [List.getD_eq_getElem?_getD, List.getD_eq_getElem?_getD, List.getElem?_append_left this]
 ·congr 1
  apply List.filter_congr
  intro k hk
  show ((a ++ m).getD (a.length + k) 0 == 46) = _
  rw [List.getD_eq_getElem?_getD, List.getD_eq_getElem?_getD, List.getElem?_append_right (Zb _ _), Nat.add_sub_cancel_left]
theorem zcd {l : List Nat} (h : 46 ∉ l) : dpos l = [] := by
 unfold dpos
 rw [List.filter_eq_nil_iff]
 intro k hk
 have hlt := List.mem_range.mp hk
 rw [List.getD_eq_getElem?_getD, zI hlt]
 simp only [Option.getD_some, beq_iff_eq]
 intro e
 exact h (by rw [← e]; exact List.getElem_mem hlt)
theorem zgb (l : List Nat) (L : List (List Nat)) : dpos (fl (l :: L)) = 0 :: (dpos (l ++ fl L)).map (1 + ·) := by
 have e : fl (l :: L) = [46] ++ (l ++ fl L) := by simp [fl]
 rw [e, zci]
 rfl
theorem zjp : ∀ (L : List (List Nat)), (∀ l ∈ L, 46 ∉ l) → (dpos (fl L)).length = L.length
 | [], _ => rfl
 | l :: r, h => by
  rw [zgb, List.length_cons, List.length_map, zci, zcd (h l (.head _)), List.nil_append, List.length_map, zjp r fun x hx => h x (.tail _ hx), List.length_cons]
theorem zfx {f : Str → Option Int} : ∀ {l : List Str} {vs : List (Option Int)}, l.map f = vs → l.mapM f = if vs.all Option.isSome = true then some (vs.filterMap id) else none
 | [], vs, h => by subst h; rfl
 | x :: r, vs, h => by
  subst h
  rw [List.mapM_cons, zfx (l := r) rfl, Zi]
  cases e : f x with
  | none => simp
  | some i =>
   by_cases c : (r.map f).all Option.isSome = true
   ·rw [zH c]
    have : ((some i :: r.map f).all Option.isSome) = true := by rw [List.all_cons, c]; rfl
    rw [zH this]
    rfl
   ·rw [zG c]
    have : ¬ ((some i :: r.map f).all Option.isSome) = true := by rw [List.all_cons]; simpa using c
    rw [zG this]
    rfl
theorem zfj (e : Str) (ys : List Str) : Txt.join e ys = Str.join e ys := StrLaws.glued_eq_join _ _
theorem zel {b : Str} (hb : b ∈ zdp) : (b.length = 0 ∧ b ≠ ofString "x") ∨ (b.length ≠ 0 ∧ b ≠ ofString "x" ∧ PySem.intText? b = some 42) ∨ (b.length ≠ 0 ∧ b = ofString "x" ∧ PySem.intText? b = none) := by
 unfold zdp at hb
 simp only [List.mem_cons, List.not_mem_nil, or_false] at hb
 rcases hb with rfl | rfl | rfl
 ·exact .inl (by decide +kernel)
 ·exact .inr (.inl (by decide +kernel))
 ·exact .inr (.inr (by decide +kernel))
theorem slice_to {x : Str} {k : Nat} (h : k ≤ (chars x).length) : chars (Txt.slice x none (some (k : Int))) = (chars x).take k := by
 have : Txt.slice x none (some (k : Int)) = StrLaws.sliceText x none (some (k : Int)) := rfl
 have h2 : (k : Int) ≤ x.cps.toList.length := by
  have : x.cps.toList.length = (chars x).length := rfl
  exact om76 h this
 rw [this, StrLaws.sliceText_to ⟨by exact om23, h2⟩]
 show (x.cps.toList.drop 0).take ((k : Int) - 0).toNat = _
 rfl
theorem norm_law {x : Str} {a : List Nat} {L : List (List Nat)} {vals : List (Option Int)} (h : chars x = a ++ fl L) (hp : PP (a :: L) vals) (hne : L ≠ []) : ∀ b ∈ zdp, zd9 x b = za2 x vals b := by
 intro b hb
 have hnd := hp.nd
 have ha := hnd a (.head _)
 have hL : ∀ l ∈ L, 46 ∉ l := fun l hl => hnd l (.tail _ hl)
 have hs := zdy h ha hL
 have hi := hp.ints _ hs
 have hdots : (zbi x).length = L.length := by
  rw [zmp, h, zci, zcd ha, List.nil_append, List.length_map, zjp L hL]
 have hj := StrLaws.join_split x dotS
 have hB := zel hb
 by_cases c : vals.all Option.isSome = true ∧ b ≠ ofString "x"
 ·have eR : za2 x vals b = Txt.join dotS (((vals.filterMap id ++ if b.length = 0 then [] else [42]).take 3).map zag) := by unfold za2; rw [if_pos c]
  rw [eR, List.map_take]
  have eP : (zai x b).map PySem.intText? = vals ++ (if b.length = 0 then [] else [some 42]) := by
   unfold zai
   rw [List.map_append, hi]
   congr 1
   rcases hB with ⟨b1, _⟩ | ⟨b1, b2, b3⟩ | ⟨b1, b2, b3⟩
   ·rw [zH b1, zH b1]; rfl
   ·rw [zG b1, zG b1, List.map_singleton, b3]
   ·exact absurd b2 c.2
  have hall : (vals ++ (if b.length = 0 then [] else [some (42 : Int)])).all Option.isSome = true := by
   rw [List.all_append, c.1]
   split <;> rfl
  have eS : zb3 (zai x b) = (vals.filterMap id ++ if b.length = 0 then [] else [42]).map zag := by
   unfold zb3
   rw [zfx eP, zH hall, List.filterMap_append]
   dsimp only
   congr 2
   split <;> rfl
  unfold zd9
  rw [eS]
 ·have eS : zb3 (zai x b) = zai x b := by
   have hno : ∃ vs, (zai x b).map PySem.intText? = vs ∧ ¬ vs.all Option.isSome = true := by
    unfold zai
    refine ⟨_, rfl, fun hall => ?_⟩
    rw [List.map_append, hi, List.all_append, Bool.and_eq_true] at hall
    obtain ⟨h1, h2⟩ := hall
    rcases hB with ⟨b1, b2⟩ | ⟨b1, b2, b3⟩ | ⟨b1, b2, b3⟩
    ·exact c ⟨h1, b2⟩
    ·exact c ⟨h1, b2⟩
    ·rw [zG b1, List.map_singleton, b3] at h2
     cases h2
   obtain ⟨vs, e1, e2⟩ := hno
   unfold zb3
   rw [zfx e1, zG e2]
  have eR : za2 x vals b = if 2 < L.length then Txt.slice x none (some (((zbi x).getD 2 0 : Nat) : Int)) else if b.length ≠ 0 ∧ L.length = 1 then (x ++ dotS) ++ b else x := by
   unfold za2; rw [if_neg c, hdots]
  rw [eR]
  unfold zd9
  rw [eS, zfj]
  unfold zai
  have hd46 : chars dotS = [46] := by decide +kernel
  generalize Txt.split x dotS = ps at hs hj
  cases L with
  | nil => exact absurd rfl hne
  | cons l1 L =>
   cases ps with
   | nil => cases hs
   | cons p0 ps =>
    cases ps with
    | nil => cases hs
    | cons p1 ps =>
     cases L with
     | nil =>
      cases ps with
      | cons => cases hs
      | nil =>
       rw [zG (show ¬ 2 < [l1].length from by simp)]
       by_cases hb0 : b.length = 0
       ·rw [zH hb0, zG (fun z => z.1 hb0), List.append_nil]
        exact hj
       ·rw [zG hb0, zH ⟨hb0, rfl⟩]
        rw [← hj]
        show p0 ++ dotS ++ (p1 ++ dotS ++ b) = ((p0 ++ dotS ++ p1) ++ dotS) ++ b
        rw [← za4, ← za4]
     | cons l2 L =>
      cases ps with
      | nil => cases hs
      | cons p2 ps =>
       cases L with
       | nil =>
        cases ps with
        | cons => cases hs
        | nil =>
         rw [zG (show ¬ 2 < [l1, l2].length from by simp), if_neg (show ¬ (b.length ≠ 0 ∧ [l1, l2].length = 1) from by simp)]
         exact hj
       | cons l3 L =>
        rw [zH (show 2 < (l1 :: l2 :: l3 :: L).length from by simp)]
        injection hs with s0 hs
        injection hs with s1 hs
        injection hs with s2 hs
        have hlen : (zbi x).getD 2 0 = a.length + (1 + (l1.length + (1 + (l2.length)))) := by
         rw [zmp, h, zci, zcd ha, List.nil_append, zgb, zci, zcd (hL l1 (.head _)), List.nil_append, zgb, zci, zcd (hL l2 (.tail _ (.head _))), List.nil_append, zgb]
         simp
        have hx : chars x = (a ++ 46 :: (l1 ++ 46 :: l2)) ++ fl (l3 :: L) := by rw [h]; simp [fl]
        have hk : (a ++ 46 :: (l1 ++ 46 :: l2)).length = a.length + (1 + (l1.length + (1 + (l2.length)))) := by simp; exact om78
        apply za1
        rw [hlen, slice_to (by rw [hx, zY, hk]; exact om79), hx, ← hk, List.take_left]
        show chars (Str.join dotS [p0, p1, p2]) = _
        rw [zca, zca, hd46]
        show chars p0 ++ [46] ++ (chars p1 ++ [46] ++ chars p2) = _
        rw [s0, s1, s2]
        simp
theorem zlq {x : Str} {a : List Nat} {L : List (List Nat)} {vals : List (Option Int)} (h : chars x = a ++ fl L) (hp : PP (a :: L) vals) : ∀ p n, p ∈ Txt.split x dotS → PySem.intText? p = some n → n.natAbs < 2000 := by
 intro p n hpm hn
 have hnd := hp.nd
 have hs := zdy h (hnd a (.head _)) fun l hl => hnd l (.tail _ hl)
 have hi := hp.ints _ hs
 refine hp.vb n ?_
 rw [← hi, ← hn]
 exact List.mem_map.mpr ⟨p, hpm, rfl⟩
theorem zlr {x : Str} {a : List Nat} {L : List (List Nat)} {vals : List (Option Int)} (h : chars x = a ++ fl L) (hp : PP (a :: L) vals) : ∀ b ∈ zdp, ∀ p n, p ∈ zai x b → PySem.intText? p = some n → n.natAbs < 10 ^ 8 := by
 intro b hb p n hpm hn
 unfold zai at hpm
 rcases zD hpm with hpm | hpm
 ·have := zlq h hp p n hpm hn
  exact om80 this
 ·rcases zel hb with ⟨b1, b2⟩ | ⟨b1, b2, b3⟩ | ⟨b1, b2, b3⟩
  ·rw [zH b1] at hpm; cases hpm
  ·rw [zG b1] at hpm
   rw [zS hpm, b3] at hn
   cases hn; decide
  ·rw [zG b1] at hpm
   rw [zS hpm, b3] at hn
   cases hn
theorem zls {x v : Str} (hx : ∀ c ∈ chars x, Sg c) (hn : NoC (chars x)) (hv : zen x.cps v) : v ∉ za5 := by
 intro hm
 obtain ⟨a, b, e, hp⟩ := hv
 have e : chars x = a ++ chars v ++ b := e
 have hin : ∀ c ∈ chars v, Sg c := fun c hc => hx c (by rw [e]; simp [hc])
 have bad : ∀ c, c ∈ chars v → (zck c || c == 32 || c == 10 || c == 13) = false → False := by
  intro c hc hf
  have := hin c hc
  simp at hf
  rcases this with h | h | h | h <;> simp_all
 unfold za5 at hm
 simp only [List.mem_cons, List.not_mem_nil, or_false] at hm
 rcases hm with rfl | rfl | rfl | rfl | rfl | rfl | rfl | rfl | rfl
 ·exact bad 100 (by decide +kernel) rfl
 ·exact bad 97 (by decide +kernel) rfl
 ·exact bad 97 (by decide +kernel) rfl
 ·exact bad 98 (by decide +kernel) rfl
 ·exact bad 98 (by decide +kernel) rfl
 ·have ev : chars (ofString "c") = [99] := by decide +kernel
  rw [ev] at e hp
  obtain ⟨a', ha⟩ := hn a b (by rw [e]; simp)
  rcases hp with hp | hp
  ·rcases hp with hp | ⟨a2, c, hp, hc⟩
   ·rw [hp] at ha
    simp at ha
   ·rw [hp] at ha
    have : c = 114 := by
     have := congrArg List.getLast? ha
     simpa using this
    rw [this] at hc
    cases hc
  ·have := hp 99 (.head _)
   cases this
 ·exact bad 82 (by decide +kernel) rfl
 ·exact bad 112 (by decide +kernel) rfl
 ·exact bad 112 (by decide +kernel) rfl
theorem comp_ok {Ls : List Str} (h : ∀ v ∈ Ls, PyData.strOk v = true) : ∀ s ∈ zbv Ls, s.ok := by
 intro s hs
 unfold zbv at hs
 obtain ⟨v, hv, hs⟩ := List.mem_flatMap.mp hs
 unfold zat at hs
 split at hs
 ·cases hs
 ·split at hs
  ·simp only [List.mem_cons, List.not_mem_nil, or_false] at hs
   rcases hs with rfl | rfl <;> trivial
  ·simp only [List.mem_cons, List.not_mem_nil, or_false] at hs
   rcases hs with rfl | rfl
   ·trivial
   ·exact h v hv
theorem zh3 {x : Str} {a : List Nat} {L : List (List Nat)} {vals : List (Option Int)} (h : chars x = a ++ fl L) (hp : PP (a :: L) vals) : (∀ c ∈ chars x, Sg c) ∧ NoC (chars x) ∧ (chars x).length ≤ 8 + 9 * L.length := by
 have hs := hp.sg
 obtain ⟨a1, a2, a3⟩ := hs a (.head _)
 obtain ⟨b1, b2, b3⟩ := fl_sg fun l hl => hs l (.tail _ hl)
 rw [h]
 refine ⟨fun c hc => ?_, zft a2 b2, by rw [zY]; exact om81 a3 b3⟩
 rcases zD hc with h | h
 ·exact a1 c h
 ·exact b1 c h
theorem readOk {x : Str} {a : List Nat} {L : List (List Nat)} {vals : List (Option Int)} (h : chars x = a ++ fl L) (hp : PP (a :: L) vals) (hne : L ≠ []) (hl : L.length ≤ 12) : ReadOk x vals := by
 obtain ⟨t1, t2, t3⟩ := zh3 h hp
 have hlen : x.length ≤ 640 := by rw [← za0]; exact om82 hl t3
 have hasc : ∀ c ∈ x.cps.toList, c ≠ 0 ∧ c < 128 := fun c hc => (t1 c hc).asc
 have hcut : ∀ Ls, Cuts (end1 x.cps) x.cps 0 Ls → zbv Ls = ranks x ∧ ∀ v ∈ Ls, zen x.cps v := by
  intro Ls hc
  exact zm0 (t := x.cps) hasc hlen _ [] x.cps.toList Ls (Ze _) rfl (.inl rfl) hc
 have hpc : ∀ v, zen x.cps v → v.length ≤ 640 ∧ ∀ c ∈ v.cps.toList, c ≠ 0 ∧ c < 128 := by
  intro v hv
  obtain ⟨p, q, e, _⟩ := hv
  have e : chars x = p ++ chars v ++ q := e
  refine ⟨?_, fun c hc => hasc c (show c ∈ chars x from by rw [e]; have : c ∈ chars v := hc; simp [this])⟩
  have := congrArg List.length e
  simp [za0] at this
  exact om83 hlen this
 refine ⟨hasc, hlen, zlr h hp, ?_, fun i hi => ?_, norm_law h hp hne, fun Ls hc v hv => ?_, fun Ls hc => ?_⟩
 ·rw [hp.len, List.length_cons]; exact om84 hl
 ·have := hp.vb i hi; exact om80 this
 ·have := (hcut Ls hc).2 v hv
  obtain ⟨c1, c2⟩ := hpc v this
  exact ⟨c1, c2, zls t1 t2 this⟩
 ·obtain ⟨c1, c2⟩ := hcut Ls hc
  refine ⟨c1, comp_ok fun v hv => zcz fun c hc => ((hpc v (c2 v hv)).2 c hc).2⟩
theorem zi1 {shift : Int} {t : Int × Int × Str} (h : t ∈ zjz shift) : (0 ≤ t.1 ∧ t.1 ≤ 1000) ∧ (-1000 ≤ t.2.1 ∧ t.2.1 ≤ 1000) ∧ (chars t.2.2 = [10] ∨ chars t.2.2 = [13, 10]) := by
 have hm : ∀ x : Int, -1000 ≤ x.fmod 20 ∧ x.fmod 20 ≤ 1000 := by
  intro x
  rw [Int.fmod_eq_emod_of_nonneg _ (by decide)]
  exact om85
 unfold zjz at h
 simp only [List.mem_cons, List.not_mem_nil, or_false] at h
 rcases h with rfl | rfl | rfl
 ·exact ⟨show (0 : Int) ≤ 0 ∧ (0 : Int) ≤ 1000 from by decide, hm _, .inl (show chars (ofString "\n") = [10] from by decide +kernel)⟩
 ·exact ⟨show (0 : Int) ≤ 4 ∧ (4 : Int) ≤ 1000 from by decide, hm _, .inr (show chars (ofString "\r\n") = [13, 10] from by decide +kernel)⟩
 ·exact ⟨show (0 : Int) ≤ 0 ∧ (0 : Int) ≤ 1000 from by decide, hm _, .inr (show chars (ofString "\r\n") = [13, 10] from by decide +kernel)⟩
theorem zez {e : Str} (he : 1 ≤ e.length) : ∀ (rows : List Str), rows ≠ [] → (rows.map (·.length)).sum + rows.length ≤ (Str.join e rows).length + 1
 | [], h => absurd rfl h
 | [y], _ => by show _ ≤ y.length + 1; simp
 | y :: z :: r, _ => by
  have ih := zez he (z :: r) (by simp)
  show _ ≤ (y ++ e ++ Str.join e (z :: r)).length + 1
  rw [Str.length_append, Str.length_append, Zi, List.sum_cons, List.length_cons]
  exact om86 he ih
theorem zh7 : ∀ (pr : List Part) (us : List (List Nat)), (pcs pr us).length = pr.length
 | [], _ => rfl
 | p :: r, us => by
  unfold pcs
  split <;> rw [List.length_cons, List.length_cons, zh7]
structure Two (ns : List Int) (p0 : Part) (pr : List Part) (t : Int × Int × Str) (u0 : List Nat) (us : List (List Nat)) : Prop where
 w0 : zhv u0
 wu : ∀ u ∈ us, zhv u
 x : chars (joinRows (wordsOf p0.sp pr) (wfold p0.sp pr).gaps t) = (u0 ++ chars p0.sp) ++ fl (pcs pr us)
 y : chars (joinRows (wordsOf (zas p0) pr) (wfold p0.sp pr).gaps t) = (u0 ++ chars (zas p0)) ++ fl (pcs pr us)
 ne : ∃ r rest, zak (wordsOf (zas p0) pr) (wfold p0.sp pr).gaps t.1 t.2.1 = r :: rest
 row : ((∃ rest, zak (wordsOf p0.sp pr) (wfold p0.sp pr).gaps t.1 t.2.1 = ofString "" :: rest) ∧ ∃ c r, u0 = c :: r ∧ c < 53) ∨
  (u0 = [] ∧ ∃ r rest, zak (wordsOf p0.sp pr) (wfold p0.sp pr).gaps t.1 t.2.1 = r :: rest ∧ r ≠ ofString "" ∧
   ∀ w wr, wordsOf p0.sp pr = w :: wr → w.cps.getD 0 0 = (chars (joinRows (wordsOf p0.sp pr) (wfold p0.sp pr).gaps t)).headD 0)
theorem two {ns : List Int} {p0 : Part} {pr : List Part} {shift : Int} {t : Int × Int × Str} (h : zae ns = p0 :: pr) (ht : t ∈ zjz shift) : ∃ u0 us, Two ns p0 pr t u0 us := by
 have hp0 : p0 ∈ zae ns := by rw [h]; exact .head _
 have P := zeq hp0
 have F := zcw h P.al P.len
 obtain ⟨hg, tt, wr, e1, e2⟩ := zc9 (f := p0.sp) (f' := zas p0) pr P.low
 obtain ⟨_, _, gr, s1, s2, s3, s4⟩ := F.shape
 have hgap := F.gap
 rw [s2, List.tail_cons] at hgap
 rw [e1] at s1
 cases s1
 obtain ⟨t1, t2, t3⟩ := zi1 ht
 have he : (∀ c ∈ chars t.2.2, c = 32 ∨ c = 10 ∨ c = 13) ∧ (chars t.2.2).length ≤ 2 := by
  rcases t3 with e | e <;> rw [e] <;> simp
 have hne : chars (p0.sp ++ tt) ≠ [] := (F.al _ (by rw [e1]; exact .head _)).2
 have hlen : ((zas p0 ++ tt) : Str).length = (p0.sp ++ tt).length := by rw [Str.length_append, Str.length_append, P.low]
 obtain ⟨us, u1, u2, u3⟩ := joined (e := t.2.2) (wd := t.2.1) (head := t.1) (wr := wr) (gr := gr) (w0 := p0.sp ++ tt) he (fun g hgm => by have := hgap g hgm; exact om87 this) s3
 have wv : ∀ u0 : List Nat, weave (u0 :: us) ((p0.sp ++ tt) :: wr) = (u0 ++ chars p0.sp) ++ fl (pcs pr us) := fun u0 => by
  rw [← e1]; exact zbz pr p0.sp u0 us (by rw [e1, u1]; rfl)
 have wv' : ∀ u0 : List Nat, weave (u0 :: us) ((zas p0 ++ tt) :: wr) = (u0 ++ chars (zas p0)) ++ fl (pcs pr us) := fun u0 => by
  rw [← e2]; exact zbz pr (zas p0) u0 us (by rw [e2, u1]; rfl)
 rcases u3 with u3 | u3
 ·obtain ⟨a1, a2⟩ := u3 (p0.sp ++ tt) rfl
  obtain ⟨⟨rest', b1⟩, b2⟩ := u3 (zas p0 ++ tt) hlen
  refine ⟨chars t.2.2 ++ [32], us, ⟨fun c hc => ?_, by simp; omega⟩, u2, ?_, ?_, ?_, .inl ⟨?_, ?_⟩⟩
  ·rcases zD hc with hc | hc
   ·exact he.1 c hc
   ·exact .inl (zS hc)
  ·rw [e1, s2, a2, wv]
  ·rw [e2, s2, b2, wv']
  ·rw [e2, s2, b1]; exact ⟨_, _, rfl⟩
  ·rw [e1, s2]; exact a1
  ·rcases t3 with e | e <;> rw [e]
   ·exact ⟨10, _, rfl, by decide⟩
   ·exact ⟨13, _, rfl, by decide⟩
 ·obtain ⟨⟨r, rest, a1⟩, a2⟩ := u3 (p0.sp ++ tt) rfl
  obtain ⟨⟨r', rest', b1⟩, b2⟩ := u3 (zas p0 ++ tt) hlen
  refine ⟨[], us, ⟨fun j h => (nomatch h), Nat.zero_le _⟩, u2, ?_, ?_, ?_, .inr ⟨rfl, (p0.sp ++ tt) ++ r, rest, ?_, ?_, ?_⟩⟩
  ·rw [e1, s2, a2, wv]
  ·rw [e2, s2, b2, wv']
  ·rw [e2, s2, b1]; exact ⟨_, _, rfl⟩
  ·rw [e1, s2, a1]
  ·intro e
   have := congrArg chars e
   rw [zam, show chars (ofString "") = [] from by decide +kernel] at this
   exact hne (List.append_eq_nil_iff.mp this).1
  ·intro w wr' ew
   rw [e1] at ew
   cases ew
   rw [e1, s2, a2]
   show Array.getD _ 0 0 = ([] ++ chars (p0.sp ++ tt) ++ weave us wr).headD 0
   rw [zbq, List.nil_append]
   show (chars (p0.sp ++ tt)).getD 0 0 = _
   cases e : chars (p0.sp ++ tt) with
   | nil => exact absurd e hne
   | cons c q => rfl
theorem lt5 {x : Str} {c : Nat} {r : List Nat} (h : chars x = c :: r) : (x.cps.toList < (ofString "5").cps.toList) ↔ c < 53 := by
 have e : x.cps.toList = c :: r := h
 rw [e, show (ofString "5").cps.toList = [53] from by decide +kernel, List.cons_lt_cons_iff]
 simp
theorem zl7 (c : Nat) : inS (ofString "56789rx") c = (decide (53 ≤ c) && decide (c ≤ 57) || decide (c = 114 ∨ c = 120)) := by
 rw [inS_eq, show (ofString "56789rx").cps.toList = [53, 54, 55, 56, 57, 114, 120] from by decide +kernel, Bool.eq_iff_iff]
 simp
 exact om89
theorem low_not {p : Part} (h : zaq p = false) : zas p = p.sp := by
 unfold zas
 rw [h, zG zF]
theorem zng {ns : List Int} {p0 : Part} {pr : List Part} {t : Int × Int × Str} {u0 : List Nat} {us : List (List Nat)} {w0 : Str} {wr : List Str} (h : zae ns = p0 :: pr) (T : Two ns p0 pr t u0 us) (hw : wordsOf p0.sp pr = w0 :: wr) :
  ∃ r rest, zak (wordsOf p0.sp pr) (wfold p0.sp pr).gaps t.1 t.2.1 = r :: rest ∧ zav (joinRows (wordsOf p0.sp pr) (wfold p0.sp pr).gaps t) = if r = ofString "" then (ofString "SunOS", joinRows (wordsOf p0.sp pr) (wfold p0.sp pr).gaps t) else (zcq w0, joinRows (wordsOf (zas p0) pr) (wfold p0.sp pr).gaps t) := by
 have hp0 : p0 ∈ zae ns := by rw [h]; exact .head _
 have I := (zh8 hp0).1
 have hF := zj3 hp0
 have hx := T.x
 have hy := T.y
 have hprne : pr ≠ [] := by
  obtain ⟨q, hq⟩ := zdb h
  rw [hq]; simp
 have hrow := T.row
 generalize joinRows (wordsOf p0.sp pr) (wfold p0.sp pr).gaps t = X at hx hrow ⊢
 rcases hrow with ⟨⟨rest, e1⟩, c, r, eu, hc⟩ | ⟨eu, r, rest, e1, hr, hfirst⟩
 ·refine ⟨_, rest, e1, ?_⟩
  rw [zH rfl]
  unfold zav
  rw [zH ((lt5 (c := c) (r := r ++ chars p0.sp ++ fl (pcs pr us)) (by rw [hx, eu]; simp)).mpr hc)]
 ·refine ⟨r, rest, e1, ?_⟩
  rw [zG hr]
  have hf0 := hfirst w0 wr hw
  rw [eu, List.nil_append] at hx hy
  obtain ⟨l1, L, hL⟩ : ∃ l1 L, pcs pr us = l1 :: L := by
   cases e : pcs pr us with
   | nil =>
    have := zh7 pr us
    rw [e] at this
    exact absurd (List.length_eq_zero_iff.mp this.symm) hprne
   | cons a b => exact ⟨a, b, rfl⟩
  have hsame : zaq p0 = false → joinRows (wordsOf (zas p0) pr) (wfold p0.sp pr).gaps t = X := by
   intro hl
   apply za1
   rw [hx, hy, low_not hl]
  cases eP : chars p0.sp with
  | nil =>
   have hxc : chars X = 46 :: (l1 ++ fl L) := by rw [hx, eP, hL]; simp [fl]
   have hlow : zaq p0 = false := by
    unfold zaq
    rw [zbq, show p0.sp.cps.toList = chars p0.sp from rfl, eP, zdh]
    exact Bool.and_false _
   rw [hsame hlow]
   have es : zcq w0 = ofString "SunOS" := by
    unfold zcq
    rw [hf0, hxc, List.headD_cons, zl7]
    rfl
   rw [es]
   unfold zav
   rw [zH ((lt5 hxc).mpr (by decide))]
  | cons c q =>
   have hxc : chars X = c :: (q ++ fl (pcs pr us)) := by rw [hx, eP]; rfl
   have hg : p0.sp.cps.getD 0 0 = c := by
    rw [zbq, show p0.sp.cps.toList = chars p0.sp from rfl, eP]; rfl
   have hsys : zcq w0 = if (decide (53 ≤ c) && decide (c ≤ 57) || decide (c = 114 ∨ c = 120)) = true then ofString "Solaris" else ofString "SunOS" := by
    unfold zcq
    rw [hf0, hxc, List.headD_cons, zl7]
   have hlo : zaq p0 = (p0.val.isSome && (decide (53 ≤ c) && decide (c ≤ 57))) := by
    unfold zaq
    rw [hg, zdh]
   rw [eP, List.headD_cons] at hF
   unfold zee at hF
   simp only [Bool.or_eq_true, Bool.and_eq_true, decide_eq_true_eq] at hF
   by_cases h5 : c < 53
   ·have hlow : zaq p0 = false := by
     rw [hlo, decide_eq_false (by exact om90 h5)]; simp
    rw [hsame hlow]
    have es : zcq w0 = ofString "SunOS" := by
     rw [hsys, decide_eq_false (show ¬ 53 ≤ c from by exact om90 h5), decide_eq_false (show ¬ (c = 114 ∨ c = 120) from by exact om91 h5)]; rfl
    rw [es]
    unfold zav
    rw [zH ((lt5 hxc).mpr h5)]
   ·have es : zcq w0 = ofString "Solaris" := by
     rw [hsys, zH]
     simp only [Bool.or_eq_true, Bool.and_eq_true, decide_eq_true_eq]
     rcases hF with (hF | hF) | hF
     ·exact absurd hF h5
     ·exact .inl ⟨hF.2, hF.1⟩
     ·exact .inr hF.1
    rw [es]
    have hPP : PP (chars p0.sp :: pcs pr us) (p0.val :: pr.map (·.val)) := by
     have := PP.cons [] p0.sp p0.val ⟨fun j h => (nomatch h), Nat.zero_le _⟩ I (zi9 (ns := ns) pr us (fun p hp => by rw [h]; exact .tail _ hp) T.wu)
     exact this
    have hnd := hPP.nd
    have hsp := zdy hx (hnd _ (.head _)) fun l hl => hnd l (.tail _ hl)
    unfold zav
    rw [zG (fun z => h5 ((lt5 hxc).mp z))]
    cases eS : Txt.split X dotS with
    | nil => exact absurd eS (zfm X)
    | cons p qs =>
     rw [eS, Zi] at hsp
     injection hsp with sp1 sp2
     have ep : p = p0.sp := za1 sp1
     dsimp only
     rw [ep, I.int]
     cases ev : p0.val with
     | none =>
      rw [hsame (by rw [hlo, ev]; rfl)]
     | some n =>
      dsimp only
      have hc : 53 ≤ c ∧ c ≤ 57 := by
       rcases hF with (hF | hF) | hF
       ·exact absurd hF h5
       ·exact ⟨hF.2, hF.1⟩
       ·rw [ev] at hF
        exact absurd hF.2 zF
      have hlt : zaq p0 = true := by
       rw [hlo, ev, decide_eq_true hc.1, decide_eq_true hc.2]; rfl
      have hsl : zas p0 = zag (n - 3) := by
       unfold zas
       rw [zH hlt, ev]; rfl
      congr 1
      apply za1
      rw [zfj, zf2, hy, sp2, hsl]
theorem zk9 {ws : List Str} {gs : List Int} {t : Int × Int × Str} {n : Nat} (he : chars t.2.2 = [10] ∨ chars t.2.2 = [13, 10]) (hr : ∃ r rest, zak ws gs t.1 t.2.1 = r :: rest) (hl : (chars (joinRows ws gs t)).length ≤ n) : ((zak ws gs t.1 t.2.1).map (·.length)).sum + (zak ws gs t.1 t.2.1).length ≤ n + 1 := by
 obtain ⟨r, rest, e⟩ := hr
 have h1 : 1 ≤ t.2.2.length := by
  rw [← za0]
  rcases he with e | e <;> rw [e] <;> decide
 have := zez h1 (zak ws gs t.1 t.2.1) (by rw [e]; simp)
 unfold joinRows at hl
 rw [zfj, za0] at hl
 exact om92 hl this
theorem tripOk {ns : List Int} {p0 : Part} {pr : List Part} {w0 : Str} {wr : List Str} {shift : Int} {t : Int × Int × Str} (h : zae ns = p0 :: pr) (hw : wordsOf p0.sp pr = w0 :: wr) (ht : t ∈ zjz shift) : TripOk (wordsOf p0.sp pr) (wordsOf (zas p0) pr) (wfold p0.sp pr).gaps (zcq w0) ((zae ns).map (·.val)) (lowVal p0 :: pr.map (·.val)) t := by
 have hp0 : p0 ∈ zae ns := by rw [h]; exact .head _
 have P := zeq hp0
 obtain ⟨I, I'⟩ := zh8 hp0
 have F := zcw h P.al P.len
 have F' := zcw (f := zas p0) h P.lal (by rw [P.low]; exact P.len)
 have hg := (zc9 (f := p0.sp) (f' := zas p0) pr P.low).1
 rw [hg] at F'
 obtain ⟨t1, t2, t3⟩ := zi1 ht
 obtain ⟨u0, us, T⟩ := two h ht
 have hprne : pr ≠ [] := by
  obtain ⟨q, hq⟩ := zdb h
  rw [hq]; simp
 have hpl := zg0 h
 have hcl := zh7 pr us
 have hcne : pcs pr us ≠ [] := by
  intro e
  rw [e] at hcl
  exact hprne (List.length_eq_zero_iff.mp hcl.symm)
 have pp := zi9 (ns := ns) pr us (fun p hp => by rw [h]; exact .tail _ hp) T.wu
 have px := PP.cons u0 p0.sp p0.val T.w0 I pp
 have py := PP.cons u0 (zas p0) (lowVal p0) T.w0 I' pp
 obtain ⟨x1, x2, x3⟩ := zh3 T.x px
 obtain ⟨y1, y2, y3⟩ := zh3 T.y py
 have hA := zng h T hw
 obtain ⟨r, rest, hr, ha⟩ := hA
 have okx : PyData.strOk (joinRows (wordsOf p0.sp pr) (wfold p0.sp pr).gaps t) = true := zcz fun c hc => (x1 c hc).asc.2
 have oky : PyData.strOk (joinRows (wordsOf (zas p0) pr) (wfold p0.sp pr).gaps t) = true := zcz fun c hc => (y1 c hc).asc.2
 refine ⟨foldOk F t1 t2, foldOk F' t1 t2, ?_, ?_, ?_, ⟨r, rest, hr, ha⟩, ?_, ?_, ?_, ?_⟩
 ·rw [← za0]
  rcases t3 with e | e <;> rw [e] <;> decide
 ·have := zk9 t3 ⟨r, rest, hr⟩ x3
  exact om93 hpl hcl this
 ·have := zk9 t3 T.ne y3
  exact om93 hpl hcl this
 ·rw [ha]
  split
  ·exact ⟨show PyData.strOk (ofString "SunOS") = true from by decide +kernel, okx⟩
  ·refine ⟨?_, oky⟩
   show PyData.strOk (zcq w0) = true
   unfold zcq
   split <;> decide +kernel
 ·intro p n hpm hn
  have := zlq T.x px p n hpm hn
  exact om80 this
 ·rw [h, Zi]
  exact readOk T.x px hcne (by exact om94 hpl hcl)
 ·exact readOk T.y py hcne (by exact om94 hpl hcl)
theorem lawOk (ns : List Int) : LawOk ns := by
 refine ⟨fun q hq => ?_, fun q hq => (zeq hq).some, fun q hq => (zeq hq).low, fun p0 pr h => ?_, fun p0 pr h => ?_, fun p0 pr w0 wr h hw t ht => tripOk h hw ht, fun q hq i hi => ?_⟩
 ·have := (zeq hq).len; exact om95 this
 ·have P := zeq (ns := ns) (p := p0) (by rw [h]; exact .head _)
  exact (zcw h P.al P.len).ok
 ·have P := zeq (ns := ns) (p := p0) (by rw [h]; exact .head _)
  have F' := zcw (f := zas p0) h P.lal (by rw [P.low]; exact P.len)
  rw [(zc9 (f := p0.sp) (f' := zas p0) pr P.low).1] at F'
  exact F'.ok
 ·have := (zeq hq).val i hi; exact om96 this
theorem gd_of {w : World} {s₁ : Shared} (KX : (KK w).In s₁.heap) {mg mb : Str → Option Value} {loose : List Str} {XP : (Str → Option Value) → Heap → Prop} {p : Program} {R : WRecords} {s₀ : Shared} (G : Ground p loose R XP w s₀ mg mb s₁.heap) : Gd w s₁.heap := by
 refine ⟨KX, ⟨mg, G.T.g, fun n v e => ?_⟩, ⟨mb, G.T.b, G.T.builtins⟩, G.T.nolimit, G.T.nodigits⟩
 cases v with
 | some v => exact mg_of KX G.T.g e
 | none => exact mg_none_of KX G.T.g e
theorem zkt {w : World} {h : Heap} (KX : (KK w).In h) : h.get? 190 = some { cls := .none, data := .fields #[] } ∧ h.get? 197 = some { cls := .none, data := .fields #[] } ∧ TabInv h 194 190 ∧ TabInv h 201 197 := by
 have a1 := KX 190 _ rfl
 have a2 := KX 197 _ rfl
 have a3 := KX 194 _ rfl
 have a4 := KX 201 _ rfl
 exact ⟨a1, a2, ⟨#[], ⟨⟨_, _, a3, rfl, rfl, rfl⟩, a1⟩, ⟨_, _, _, _, _, _, _, _, _, _, a3, rfl, rfl, rfl, rfl, rfl, rfl, a1, rfl, trivial, by decide⟩, trivial⟩,
  ⟨#[], ⟨⟨_, _, a4, rfl, rfl, rfl⟩, a2⟩, ⟨_, _, _, _, _, _, _, _, _, _, a4, rfl, rfl, rfl, rfl, rfl, rfl, a2, rfl, trivial, by decide⟩, trivial⟩⟩
theorem wd_of {w : World} {h : Heap} (KX : (KK w).In h) : Wd h [] h := by
 obtain ⟨t1, t2, t3, t4⟩ := zkt KX
 exact ⟨⟨fun j j e j => e, ⟨_, t1⟩, ⟨_, t2⟩, ⟨_, KX 194 _ rfl⟩, ⟨_, KX 201 _ rfl⟩, t3, t4⟩, fun j h => nomatch h⟩
theorem rm_of : Rm callerA [] 40 := ⟨rfl, rfl, by decide, by decide⟩
theorem old_of {w : World} {h h' : Heap} (KX : (KK w).In h) (r : Ret h [] h h') : OldK h h' := by
 obtain ⟨t1, t2, ⟨q1, u1, v1, _⟩, ⟨q2, u2, v2, _⟩⟩ := zkt KX
 refine ⟨fun b o e => ?_, fun b o e => r.keep.there b o e⟩
 by_cases ht : za9 b
 ·refine .inr (.inl ?_)
  rcases ht with rfl | rfl
  ·rw [t1] at e
   cases e
   obtain ⟨ps, ⟨_, z⟩, _⟩ := r.inv.t1
   exact ⟨u1.isCodeTable, rfl, #[], ps, rfl, by rw [z]; simp⟩
  ·rw [t2] at e
   cases e
   obtain ⟨ps, ⟨_, z⟩, _⟩ := r.inv.t2
   exact ⟨u2.isCodeTable, rfl, #[], ps, rfl, by rw [z]; simp⟩
 ·exact .inl (r.keep.obj b o e (fun h => nomatch h) (fun h => nomatch h) ht)
set_option tactic.hygienic true in
theorem final : PySem.Challenge.rw_ny0241_01.Holds := by
 refine hd ⟨left, ?_⟩
 intro w s₀ s₁ mg mb G Y fa o pm cd doc dV kV ho hd hcd hD hmg hg args vals as hpre hlay hrd hwl hlo
 have KX := kIn_of Y
 clear Y
 have GD := gd_of KX G
 have hfa : fa = 289 := by
  have e : mg (ofString "law") = some (.ref 289) := mg_of KX G.T.g rfl
  have hmg : mg (ofString "law") = some (.ref fa) := hmg
  rw [e] at hmg
  cases hmg
  rfl
 subst hfa
 clear ho hd hcd hD hmg
 wrow_args hpre hlay hrd hwl hlo
 rename_i ns _ _ _ _ _ _ _ aS vS _ hL _ w1 _ hI _ hlen _
 have w1 : Well w.params s₁.heap (.ref aS) (.list (ofPys (ns.map PyData.int))) := w1
 cases w1 with
 | list hget _ =>
  rename_i vs _
  obtain ⟨o, e1, _, n, e2⟩ := hL
  rw [hget] at e1
  cases e1
  have e2 : Data.seq vs.toArray 0 = .seq vS.toArray n := e2
  injection e2 with e3 _
  have e3 : vs = vS := by simpa using e3
  subst e3
  obtain ⟨t1, t2, _, _⟩ := zkt KX
  refine c_law (ns := ns) (nS := 0) GD (wd_of KX) rm_of (.of_eq hg) hget (fun h => nomatch h) ?_ hI (by exact om151 hlen) (lawOk ns) fun h' g' tk' r hb => ?_
  ·intro ht
   rcases ht with rfl | rfl
   ·rw [t1] at hget; cases hget
   ·rw [t2] at hget; cases hget
  ·refine ⟨.inl ⟨.bool true, .bool true, [], rfl, fun j => rfl, .bool true, by wrow_post, fun j => ⟨List.nodup_nil, fun j h => nomatch h⟩⟩, old_of KX r, rfl, hb⟩
end
end Mine
theorem PySem.Challenge.cw_ny0241_01_holds : PySem.Challenge.rw_ny0241_01.Holds :=
 Mine.final
