import PyProof.Rows.All
import Wide.All
import OpenK.AllK
import Wide.FinOn
import PySem.Challenge.RW_fb0050_01
open PySem PySem.W PyProof.Rows
set_option Elab.async false
set_option linter.all false
set_option maxRecDepth 100000
set_option maxHeartbeats 8000000
set_option rowWalk.seconds 0
namespace Mine
open_top hd for PySem.Challenge.rw_fb0050_01
local macro_rules | `(tactic| k_room) => `(tactic| ktr_room)
local macro_rules | `(tactic| k_mem) => `(tactic| ((show (_ : Addr × Obj) ∈ (_ : List (Addr × Obj))); ktr_member))
local macro_rules | `(tactic| kct_strs) => `(tactic| ((show (_ : Addr × Obj) ∈ (_ : List (Addr × Obj))); first | ktr_member | ((repeat (first | (with_reducible exact List.mem_cons_self ..) | (with_reducible refine List.mem_cons_of_mem _ ?_))); done) | k_mem))
local macro_rules | `(tactic| k_units) => `(tactic| ktr_units)
local macro_rules | `(tactic| k_enter) => `(tactic| first | (refine' code_def ?k1 ?k2 ?k3 ?k4 ?k5 ?kA ?kF ?kK ?k6 ?k7 ?k8 ?k9 ?kB ?_ ?c2 ?c3 ?c4 ?c5; (case kA => exact rfl); (case kF => exact rfl); (case kK => first | exact rfl | assumption); (case k1 => k_asm); (case k2 => k_asm); (case k3 => k_asm); (case k4 => k_asm); (case k5 => k_asm); (case k6 => k_is); (case k7 => k_is); (case k8 => k_room); (case k9 => first | exact BindsTo.of_eq rfl | exact binds_K (by k_in) rfl (by k_is) rfl rfl rfl | fail "k_enter: no rule for these arguments"); (case c5 => decide); (case kB => exact locs rfl); (case c2 => exact rfl); (case c3 => exact rfl); (case c4 => exact rfl); k_whole; intro g' L' h' FG' F' N' B' X' T'; (try dsimp only); (try k_lift B'); (try k_fold)) | (refine' code_defC ?k1 ?k2 ?k3 ?k4 ?k5 ?kA ?kF ?kK ?k6 ?k7 ?k8 ?k9 ?kB ?kD ?_ ?c2 ?c3 ?c4; (case kA => exact rfl); (case kF => exact rfl); (case kK => first | exact rfl | assumption); (case k1 => k_asm); (case k2 => k_asm); (case k3 => k_asm); (case k4 => k_asm); (case k5 => k_asm); (case k6 => k_is); (case k7 => k_is); (case k8 => k_room); (case k9 => exact BindsTo.of_eq rfl); (case kB => exact rfl); (case kD => decide +kernel); (case c2 => exact rfl); (case c3 => exact rfl); (case c4 => exact rfl); k_whole; intro g' L' h' tk' cells' FG' F' N' Y' B' X' T' l1; (try k_lt l1); k_cells Y'; (try simp only [List.cons_append, List.nil_append] at N'); (try dsimp only); (try k_lift B'); (try k_fold)))
/-- where a call stands: the frames below, the frame at hand, the ledger, room -/
inductive Here (w : World) (n : Nat) : Around → Heap → Addr → (Str → Option Value) → Shared → List (Addr × Obj) → Prop
  | mk {loose : List Str} {mean : ExcName → Option Value} {mg mb : Str → Option Value} {dp un : Nat} {gd : Option (List Code)} {cn : Str} {cs : Scope} {a : Addr} {ccd : Value} {cl : List (Str × Addr)} {outer : List Env} {A₀ : Around} {base h₀ : Heap} {L : Addr} {m : Str → Option Value} {s : Shared} {news : List (Addr × Obj)}
    (B : Below A₀ base outer h₀) (F : Fr h₀ L s.heap m) (X : (hd.heap_39 w.params).In h₀) (N : News h₀ L s.heap news) (T : Top hd.view_39 loose mean mg mb h₀) (hk : cs.kind = .function) (hd : dp + 10 * n < recursionLimit) (hu : un + 100 * n < cLine) :
    Here w n (ktrTop dp un gd cn cs L a ccd cl outer) h₀ L m s news

abbrev ptEntry (w : World) (tk : Tok) (t : Addr) : DictEntry := { hash := PyData.keyHash w.params (Str.ofString "_Point__point"), key := .str (Str.ofString "_Point__point") tk, val := .ref t }
abbrev tupObj (vs : List Value) : Obj := { cls := .type "tuple", data := .seq vs.toArray }
/-- the ledger bears a point -/
inductive PtIn (w : World) (news : List (Addr × Obj)) : Addr → Int → Int → Int → Prop
  | mk {x d t : Addr} {tk ta tb tc : Tok} {a b c : Int} (h1 : (x, instObj 134 d) ∈ news) (h2 : (d, dictOf [ptEntry w tk t] 1) ∈ news) (h3 : (t, tupObj [.int a ta, .int b tb, .int c tc]) ∈ news) : PtIn w news x a b c

/-- an int far below a factor's line -/
abbrev Sm (a : Int) : Prop := -1000000000000000000 < a ∧ a < 1000000000000000000

theorem PtIn.mono {w : World} {news news' : List (Addr × Obj)} {x : Addr} {a b c : Int} (h : PtIn w news x a b c) (hs : ∀ p ∈ news, p ∈ news') : PtIn w news' x a b c := by
  cases h with
  | mk h1 h2 h3 => exact .mk (hs _ h1) (hs _ h2) (hs _ h3)

/-- what comes back of a call that makes one point -/
abbrev RetPt (w : World) (h₀ : Heap) (L : Addr) (m : Str → Option Value) (news : List (Addr × Obj)) (s : Shared) (Q : Value → Shared → Prop) (a b c : Int) : Prop :=
  ∀ (x d t : Addr) (tk ta tb tc : Tok) (h' : Heap) (tk' : Nat), Fr h₀ L h' m → News h₀ L h' ((t, tupObj [.int a ta, .int b tb, .int c tc]) :: (x, instObj 134 d) :: (d, dictOf [ptEntry w tk t] 1) :: news) →
    (∀ p ∈ news, p.1 < d) → d < x → x < t → Q (.ref x) { s with heap := h', toks := tk' }
abbrev RetI (h₀ : Heap) (L : Addr) (m : Str → Option Value) (news : List (Addr × Obj)) (s : Shared) (Q : Value → Shared → Prop) (x : Int) : Prop :=
  ∀ (t : Tok) (h' : Heap) (tk' : Nat), Fr h₀ L h' m → News h₀ L h' news → Q (.int x t) { s with heap := h', toks := tk' }
abbrev RetB (h₀ : Heap) (L : Addr) (m : Str → Option Value) (news : List (Addr × Obj)) (s : Shared) (Q : Value → Shared → Prop) (x : Bool) : Prop :=
  ∀ (h' : Heap) (tk' : Nat), Fr h₀ L h' m → News h₀ L h' news → Q (.bool x) { s with heap := h', toks := tk' }
abbrev RetT2 (h₀ : Heap) (L : Addr) (m : Str → Option Value) (news : List (Addr × Obj)) (s : Shared) (Q : Value → Shared → Prop) (x y : Int) : Prop :=
  ∀ (D : Addr) (ta tb : Tok) (h' : Heap) (tk' : Nat), Fr h₀ L h' m → News h₀ L h' ((D, tupObj [.int x ta, .int y tb]) :: news) → (∀ p ∈ news, p.1 < D) → Q (.ref D) { s with heap := h', toks := tk' }
abbrev RetT3I (h₀ : Heap) (L : Addr) (m : Str → Option Value) (news : List (Addr × Obj)) (s : Shared) (Q : Value → Shared → Prop) (z x y : Int) : Prop :=
  ∀ (D : Addr) (ta tb tc : Tok) (h' : Heap) (tk' : Nat), Fr h₀ L h' m → News h₀ L h' ((D, tupObj [.int z ta, .int x tb, .int y tc]) :: news) → (∀ p ∈ news, p.1 < D) → Q (.ref D) { s with heap := h', toks := tk' }
abbrev RetT3B (h₀ : Heap) (L : Addr) (m : Str → Option Value) (news : List (Addr × Obj)) (s : Shared) (Q : Value → Shared → Prop) (z : Bool) (x y : Int) : Prop :=
  ∀ (D : Addr) (tb tc : Tok) (h' : Heap) (tk' : Nat), Fr h₀ L h' m → News h₀ L h' ((D, tupObj [.bool z, .int x tb, .int y tc]) :: news) → (∀ p ∈ news, p.1 < D) → Q (.ref D) { s with heap := h', toks := tk' }
section
variable {w : World} {A : Around} {h₀ : Heap} {L : Addr} {m : Str → Option Value} {s : Shared} {news : List (Addr × Obj)} {Q E : Value → Shared → Prop}
theorem rm_d {dp un n k m : Nat} {gd : Option (List Code)} {cn : Str} {cs : Scope} {L a : Addr} {ccd : Value} {cl : List (Str × Addr)} {outer : List Env} (h : dp + 10 * n < recursionLimit) (e : Nat.ble (k + 10 * m) (10 * n) = true) : (ktrTop dp un gd cn cs L a ccd cl outer).depth + k + 10 * m < recursionLimit := by
  have q := Nat.le_of_ble_eq_true e
  show dp + k + 10 * m < recursionLimit
  omega
theorem rm_u {dp un n k m : Nat} {gd : Option (List Code)} {cn : Str} {cs : Scope} {L a : Addr} {ccd : Value} {cl : List (Str × Addr)} {outer : List Env} (h : un + 100 * n < cLine) (e : Nat.ble (k + 100 * m) (100 * n) = true) : (ktrTop dp un gd cn cs L a ccd cl outer).units + k + 100 * m < cLine := by
  have q := Nat.le_of_ble_eq_true e
  show un + k + 100 * m < cLine
  omega
local macro_rules | `(tactic| ktr_rel) => `(tactic| (refine' Here.mk ?hB ?hF ?hX ?hN ?hT ?hK ?hD ?hU; (case hF => k_asm); (case hB => k_asm); (case hX => k_asm); (case hN => k_asm); (case hT => k_asm); (case hK => first | exact rfl | assumption); (case hD => first | (with_reducible exact rm_d (by with_reducible assumption) (by exact rfl)) | exact Nat.le_of_ble_eq_true rfl | ktr_room); (case hU => first | (with_reducible exact rm_u (by with_reducible assumption) (by exact rfl)) | exact Nat.le_of_ble_eq_true rfl | ktr_units)))
local macro_rules | `(tactic| krn_off) => `(tactic| (refine' PtIn.mk ?p1 ?p2 ?p3; (case p1 => k_mem); (case p2 => k_mem); (case p3 => k_mem)))
local macro_rules | `(tactic| walk_at "eval Name") => `(tactic| (k_here; (with_reducible show wpAny _ _ (eval (Expr.Name _ _) (envOf _ _ _ _ _)) _ _ _); k_dflt (first | (refine' nameX_L ?F ?v ?_ (by rfl) (by rfl); (case F => k_asm); (case v => rfl); k_whole) | (refine' nameX_K ?F ?X ?T ?e ?_ (by rfl) (by rfl); (case F => k_asm); (case X => k_asm); (case T => k_asm); (case e => k_is); k_whole))))
local macro_rules | `(tactic| walk_at "callWith ref") => `(tactic| (k_here; k_dflt (first | (refine' callWith_K ?k1 ?k2 ?_; (case k1 => k_asm); (case k2 => k_is); k_whole) | (refine' callWith_M ?k1 ?k2 ?k3 ?k4 ?_; (case k1 => k_asm); (case k2 => k_asm); (case k3 => k_mem); (case k4 => k_is); k_whole))))
local macro_rules | `(tactic| walk_at "compareOp NotEq ref ref") => `(tactic| (k_here; walk_at "compareOp NotEq ref"))
local macro_rules | `(tactic| walk_at "compareOp Eq ref ref") => `(tactic| (k_here; walk_at "compareOp Eq ref"))
theorem endPt {a b c a' b' c' : Int} {x d t : Addr} {tk ta tb tc : Tok} {h' : Heap} {tk' : Nat} (ret : RetPt w h₀ L m news s Q a b c) (F : Fr h₀ L h' m) (N : News h₀ L h' ((t, tupObj [.int a' ta, .int b' tb, .int c' tc]) :: (x, instObj 134 d) :: (d, dictOf [ptEntry w tk t] 1) :: news))
    (l1 : ∀ p ∈ news, p.1 < d) (l2 : d < x) (l3 : x < t) (e1 : a' = a) (e2 : b' = b) (e3 : c' = c) : Q (.ref x) { s with heap := h', toks := tk' } := by
  subst e1; subst e2; subst e3
  exact ret _ _ _ _ _ _ _ _ _ F N l1 l2 l3
theorem endT2 {a b a' b' : Int} {D : Addr} {ta tb : Tok} {h' : Heap} {tk' : Nat} (ret : RetT2 h₀ L m news s Q a b) (F : Fr h₀ L h' m) (N : News h₀ L h' ((D, tupObj [.int a' ta, .int b' tb]) :: news))
    (l1 : ∀ p ∈ news, p.1 < D) (e1 : a' = a) (e2 : b' = b) : Q (.ref D) { s with heap := h', toks := tk' } := by
  subst e1; subst e2
  exact ret _ _ _ _ _ F N l1
theorem endT3I {z a b z' a' b' : Int} {D : Addr} {ta tb tc : Tok} {h' : Heap} {tk' : Nat} (ret : RetT3I h₀ L m news s Q z a b) (F : Fr h₀ L h' m) (N : News h₀ L h' ((D, tupObj [.int z' ta, .int a' tb, .int b' tc]) :: news))
    (l1 : ∀ p ∈ news, p.1 < D) (e0 : z' = z) (e1 : a' = a) (e2 : b' = b) : Q (.ref D) { s with heap := h', toks := tk' } := by
  subst e0; subst e1; subst e2
  exact ret _ _ _ _ _ _ F N l1
theorem endT3B {z z' : Bool} {a b a' b' : Int} {D : Addr} {tb tc : Tok} {h' : Heap} {tk' : Nat} (ret : RetT3B h₀ L m news s Q z a b) (F : Fr h₀ L h' m) (N : News h₀ L h' ((D, tupObj [.bool z', .int a' tb, .int b' tc]) :: news))
    (l1 : ∀ p ∈ news, p.1 < D) (e0 : z' = z) (e1 : a' = a) (e2 : b' = b) : Q (.ref D) { s with heap := h', toks := tk' } := by
  subst e0; subst e1; subst e2
  exact ret _ _ _ _ _ F N l1
theorem retI_of {x y : Int} (ret : RetI h₀ L m news s Q x) (e : y = x) : RetI h₀ L m news s Q y := e ▸ ret
theorem retB_of {x y : Bool} (ret : RetB h₀ L m news s Q x) (e : y = x) : RetB h₀ L m news s Q y := e ▸ ret
theorem lt_of_all {l : List (Addr × Obj)} {d : Addr} (h : AllLt d l) : ∀ p ∈ l, p.1 < d := ktn_ltOf h
theorem lt_of_all1 {a1 : Prop} {l : List (Addr × Obj)} {d : Addr} (h : a1 ∧ AllLt d l) : ∀ p ∈ l, p.1 < d := ktn_ltOf h.2
theorem lt_of_all2 {a1 a2 : Prop} {l : List (Addr × Obj)} {d : Addr} (h : a1 ∧ a2 ∧ AllLt d l) : ∀ p ∈ l, p.1 < d := ktn_ltOf h.2.2
theorem lt_of_all3 {a1 a2 a3 : Prop} {l : List (Addr × Obj)} {d : Addr} (h : a1 ∧ a2 ∧ a3 ∧ AllLt d l) : ∀ p ∈ l, p.1 < d := ktn_ltOf h.2.2.2
theorem lt_of_all4 {a1 a2 a3 a4 : Prop} {l : List (Addr × Obj)} {d : Addr} (h : a1 ∧ a2 ∧ a3 ∧ a4 ∧ AllLt d l) : ∀ p ∈ l, p.1 < d := ktn_ltOf h.2.2.2.2
theorem lt_of_all5 {a1 a2 a3 a4 a5 : Prop} {l : List (Addr × Obj)} {d : Addr} (h : a1 ∧ a2 ∧ a3 ∧ a4 ∧ a5 ∧ AllLt d l) : ∀ p ∈ l, p.1 < d := ktn_ltOf h.2.2.2.2.2
theorem lt_of_all6 {a1 a2 a3 a4 a5 a6 : Prop} {l : List (Addr × Obj)} {d : Addr} (h : a1 ∧ a2 ∧ a3 ∧ a4 ∧ a5 ∧ a6 ∧ AllLt d l) : ∀ p ∈ l, p.1 < d := ktn_ltOf h.2.2.2.2.2.2
theorem lt_of_all7 {a1 a2 a3 a4 a5 a6 a7 : Prop} {l : List (Addr × Obj)} {d : Addr} (h : a1 ∧ a2 ∧ a3 ∧ a4 ∧ a5 ∧ a6 ∧ a7 ∧ AllLt d l) : ∀ p ∈ l, p.1 < d := ktn_ltOf h.2.2.2.2.2.2.2
theorem lt_of_all8 {a1 a2 a3 a4 a5 a6 a7 a8 : Prop} {l : List (Addr × Obj)} {d : Addr} (h : a1 ∧ a2 ∧ a3 ∧ a4 ∧ a5 ∧ a6 ∧ a7 ∧ a8 ∧ AllLt d l) : ∀ p ∈ l, p.1 < d := ktn_ltOf h.2.2.2.2.2.2.2.2
theorem lt_of_all9 {a1 a2 a3 a4 a5 a6 a7 a8 a9 : Prop} {l : List (Addr × Obj)} {d : Addr} (h : a1 ∧ a2 ∧ a3 ∧ a4 ∧ a5 ∧ a6 ∧ a7 ∧ a8 ∧ a9 ∧ AllLt d l) : ∀ p ∈ l, p.1 < d := ktn_ltOf h.2.2.2.2.2.2.2.2.2
theorem lt_of_all10 {a1 a2 a3 a4 a5 a6 a7 a8 a9 a10 : Prop} {l : List (Addr × Obj)} {d : Addr} (h : a1 ∧ a2 ∧ a3 ∧ a4 ∧ a5 ∧ a6 ∧ a7 ∧ a8 ∧ a9 ∧ a10 ∧ AllLt d l) : ∀ p ∈ l, p.1 < d := ktn_ltOf h.2.2.2.2.2.2.2.2.2.2
theorem lt_of_all11 {a1 a2 a3 a4 a5 a6 a7 a8 a9 a10 a11 : Prop} {l : List (Addr × Obj)} {d : Addr} (h : a1 ∧ a2 ∧ a3 ∧ a4 ∧ a5 ∧ a6 ∧ a7 ∧ a8 ∧ a9 ∧ a10 ∧ a11 ∧ AllLt d l) : ∀ p ∈ l, p.1 < d := ktn_ltOf h.2.2.2.2.2.2.2.2.2.2.2
theorem lt_of_all12 {a1 a2 a3 a4 a5 a6 a7 a8 a9 a10 a11 a12 : Prop} {l : List (Addr × Obj)} {d : Addr} (h : a1 ∧ a2 ∧ a3 ∧ a4 ∧ a5 ∧ a6 ∧ a7 ∧ a8 ∧ a9 ∧ a10 ∧ a11 ∧ a12 ∧ AllLt d l) : ∀ p ∈ l, p.1 < d := ktn_ltOf h.2.2.2.2.2.2.2.2.2.2.2.2
theorem lt_of_all13 {a1 a2 a3 a4 a5 a6 a7 a8 a9 a10 a11 a12 a13 : Prop} {l : List (Addr × Obj)} {d : Addr} (h : a1 ∧ a2 ∧ a3 ∧ a4 ∧ a5 ∧ a6 ∧ a7 ∧ a8 ∧ a9 ∧ a10 ∧ a11 ∧ a12 ∧ a13 ∧ AllLt d l) : ∀ p ∈ l, p.1 < d := ktn_ltOf h.2.2.2.2.2.2.2.2.2.2.2.2.2
theorem lt_of_all14 {a1 a2 a3 a4 a5 a6 a7 a8 a9 a10 a11 a12 a13 a14 : Prop} {l : List (Addr × Obj)} {d : Addr} (h : a1 ∧ a2 ∧ a3 ∧ a4 ∧ a5 ∧ a6 ∧ a7 ∧ a8 ∧ a9 ∧ a10 ∧ a11 ∧ a12 ∧ a13 ∧ a14 ∧ AllLt d l) : ∀ p ∈ l, p.1 < d := ktn_ltOf h.2.2.2.2.2.2.2.2.2.2.2.2.2.2
theorem lt_of_all15 {a1 a2 a3 a4 a5 a6 a7 a8 a9 a10 a11 a12 a13 a14 a15 : Prop} {l : List (Addr × Obj)} {d : Addr} (h : a1 ∧ a2 ∧ a3 ∧ a4 ∧ a5 ∧ a6 ∧ a7 ∧ a8 ∧ a9 ∧ a10 ∧ a11 ∧ a12 ∧ a13 ∧ a14 ∧ a15 ∧ AllLt d l) : ∀ p ∈ l, p.1 < d := ktn_ltOf h.2.2.2.2.2.2.2.2.2.2.2.2.2.2.2
theorem lt_of_all16 {a1 a2 a3 a4 a5 a6 a7 a8 a9 a10 a11 a12 a13 a14 a15 a16 : Prop} {l : List (Addr × Obj)} {d : Addr} (h : a1 ∧ a2 ∧ a3 ∧ a4 ∧ a5 ∧ a6 ∧ a7 ∧ a8 ∧ a9 ∧ a10 ∧ a11 ∧ a12 ∧ a13 ∧ a14 ∧ a15 ∧ a16 ∧ AllLt d l) : ∀ p ∈ l, p.1 < d := ktn_ltOf h.2.2.2.2.2.2.2.2.2.2.2.2.2.2.2.2
theorem lt_of_all17 {a1 a2 a3 a4 a5 a6 a7 a8 a9 a10 a11 a12 a13 a14 a15 a16 a17 : Prop} {l : List (Addr × Obj)} {d : Addr} (h : a1 ∧ a2 ∧ a3 ∧ a4 ∧ a5 ∧ a6 ∧ a7 ∧ a8 ∧ a9 ∧ a10 ∧ a11 ∧ a12 ∧ a13 ∧ a14 ∧ a15 ∧ a16 ∧ a17 ∧ AllLt d l) : ∀ p ∈ l, p.1 < d := ktn_ltOf h.2.2.2.2.2.2.2.2.2.2.2.2.2.2.2.2.2
theorem lt_of_all18 {a1 a2 a3 a4 a5 a6 a7 a8 a9 a10 a11 a12 a13 a14 a15 a16 a17 a18 : Prop} {l : List (Addr × Obj)} {d : Addr} (h : a1 ∧ a2 ∧ a3 ∧ a4 ∧ a5 ∧ a6 ∧ a7 ∧ a8 ∧ a9 ∧ a10 ∧ a11 ∧ a12 ∧ a13 ∧ a14 ∧ a15 ∧ a16 ∧ a17 ∧ a18 ∧ AllLt d l) : ∀ p ∈ l, p.1 < d := ktn_ltOf h.2.2.2.2.2.2.2.2.2.2.2.2.2.2.2.2.2.2
theorem lt_of_all19 {a1 a2 a3 a4 a5 a6 a7 a8 a9 a10 a11 a12 a13 a14 a15 a16 a17 a18 a19 : Prop} {l : List (Addr × Obj)} {d : Addr} (h : a1 ∧ a2 ∧ a3 ∧ a4 ∧ a5 ∧ a6 ∧ a7 ∧ a8 ∧ a9 ∧ a10 ∧ a11 ∧ a12 ∧ a13 ∧ a14 ∧ a15 ∧ a16 ∧ a17 ∧ a18 ∧ a19 ∧ AllLt d l) : ∀ p ∈ l, p.1 < d := ktn_ltOf h.2.2.2.2.2.2.2.2.2.2.2.2.2.2.2.2.2.2.2
theorem lt_of_all20 {a1 a2 a3 a4 a5 a6 a7 a8 a9 a10 a11 a12 a13 a14 a15 a16 a17 a18 a19 a20 : Prop} {l : List (Addr × Obj)} {d : Addr} (h : a1 ∧ a2 ∧ a3 ∧ a4 ∧ a5 ∧ a6 ∧ a7 ∧ a8 ∧ a9 ∧ a10 ∧ a11 ∧ a12 ∧ a13 ∧ a14 ∧ a15 ∧ a16 ∧ a17 ∧ a18 ∧ a19 ∧ a20 ∧ AllLt d l) : ∀ p ∈ l, p.1 < d := ktn_ltOf h.2.2.2.2.2.2.2.2.2.2.2.2.2.2.2.2.2.2.2.2
theorem lt_of_all21 {a1 a2 a3 a4 a5 a6 a7 a8 a9 a10 a11 a12 a13 a14 a15 a16 a17 a18 a19 a20 a21 : Prop} {l : List (Addr × Obj)} {d : Addr} (h : a1 ∧ a2 ∧ a3 ∧ a4 ∧ a5 ∧ a6 ∧ a7 ∧ a8 ∧ a9 ∧ a10 ∧ a11 ∧ a12 ∧ a13 ∧ a14 ∧ a15 ∧ a16 ∧ a17 ∧ a18 ∧ a19 ∧ a20 ∧ a21 ∧ AllLt d l) : ∀ p ∈ l, p.1 < d := ktn_ltOf h.2.2.2.2.2.2.2.2.2.2.2.2.2.2.2.2.2.2.2.2.2
theorem lt_of_all22 {a1 a2 a3 a4 a5 a6 a7 a8 a9 a10 a11 a12 a13 a14 a15 a16 a17 a18 a19 a20 a21 a22 : Prop} {l : List (Addr × Obj)} {d : Addr} (h : a1 ∧ a2 ∧ a3 ∧ a4 ∧ a5 ∧ a6 ∧ a7 ∧ a8 ∧ a9 ∧ a10 ∧ a11 ∧ a12 ∧ a13 ∧ a14 ∧ a15 ∧ a16 ∧ a17 ∧ a18 ∧ a19 ∧ a20 ∧ a21 ∧ a22 ∧ AllLt d l) : ∀ p ∈ l, p.1 < d := ktn_ltOf h.2.2.2.2.2.2.2.2.2.2.2.2.2.2.2.2.2.2.2.2.2.2
theorem lt_of_all23 {a1 a2 a3 a4 a5 a6 a7 a8 a9 a10 a11 a12 a13 a14 a15 a16 a17 a18 a19 a20 a21 a22 a23 : Prop} {l : List (Addr × Obj)} {d : Addr} (h : a1 ∧ a2 ∧ a3 ∧ a4 ∧ a5 ∧ a6 ∧ a7 ∧ a8 ∧ a9 ∧ a10 ∧ a11 ∧ a12 ∧ a13 ∧ a14 ∧ a15 ∧ a16 ∧ a17 ∧ a18 ∧ a19 ∧ a20 ∧ a21 ∧ a22 ∧ a23 ∧ AllLt d l) : ∀ p ∈ l, p.1 < d := ktn_ltOf h.2.2.2.2.2.2.2.2.2.2.2.2.2.2.2.2.2.2.2.2.2.2.2
theorem lt_of_all24 {a1 a2 a3 a4 a5 a6 a7 a8 a9 a10 a11 a12 a13 a14 a15 a16 a17 a18 a19 a20 a21 a22 a23 a24 : Prop} {l : List (Addr × Obj)} {d : Addr} (h : a1 ∧ a2 ∧ a3 ∧ a4 ∧ a5 ∧ a6 ∧ a7 ∧ a8 ∧ a9 ∧ a10 ∧ a11 ∧ a12 ∧ a13 ∧ a14 ∧ a15 ∧ a16 ∧ a17 ∧ a18 ∧ a19 ∧ a20 ∧ a21 ∧ a22 ∧ a23 ∧ a24 ∧ AllLt d l) : ∀ p ∈ l, p.1 < d := ktn_ltOf h.2.2.2.2.2.2.2.2.2.2.2.2.2.2.2.2.2.2.2.2.2.2.2.2
theorem hd_skip {x : Addr × Obj} {l : List (Addr × Obj)} {h : Heap} (N : News h₀ L h (x :: l)) : News h₀ L h l := fun p hp => N p (List.mem_cons_of_mem _ hp)
theorem hd_u1 {x y : Addr × Obj} {l : List (Addr × Obj)} {h : Heap} (N : News h₀ L h (x :: y :: l)) : News h₀ L h (x :: l) := fun p hp => N p (by
  rcases List.mem_cons.mp hp with rfl | hp
  · exact List.mem_cons_self ..
  · exact List.mem_cons_of_mem _ (List.mem_cons_of_mem _ hp))
theorem hd_u2 {x x' y : Addr × Obj} {l : List (Addr × Obj)} {h : Heap} (N : News h₀ L h (x :: x' :: y :: l)) : News h₀ L h (x :: x' :: l) := fun p hp => N p (by
  rcases List.mem_cons.mp hp with rfl | hp
  · exact List.mem_cons_self ..
  · rcases List.mem_cons.mp hp with rfl | hp
    · exact List.mem_cons_of_mem _ (List.mem_cons_self ..)
    · exact List.mem_cons_of_mem _ (List.mem_cons_of_mem _ (List.mem_cons_of_mem _ hp)))
theorem c_mkPt {x y z : Int} {tx ty tz : Tok} (H : Here w 1 A h₀ L m s news) (ret : RetPt w h₀ L m news s Q x y z) :
    wpAny (model PySem.Challenge.rw_fb0050_01.row.prog w) A (call (.ref 134) [.int x tx, .int y ty, .int z tz]) Q E s := by
  cases H with
  | mk B F X N T hk hd hu =>
    w_on
    revert X; k_fill; intro X
    w_strict (k_dflt (refine' call_cls ?k1 ?k2 ?k3 ?k4 ?k5 ?k6 ?_; (case k1 => k_asm); (case k2 => k_asm); (case k3 => k_asm); (case k4 => k_is); (case k5 => k_is); (case k6 => k_is); k_whole; intro x' d' h' F' N' l1 l2; (try k_lt l1); (try k_lt2 l2); (try k_sweep)))
    w_strict (k_dflt k_enter)
    w_strict (k_steps)
    rename_i l3 _ _ _ kF kN _ _
    exact ret _ _ _ _ _ _ _ _ _ kF kN l1 l2 l3.1
local macro_rules | `(tactic| walk_at "call ref") => `(tactic| (k_here; (with_reducible show wpAny _ _ (call (Value.ref 134) [Value.int _ _, Value.int _ _, Value.int _ _] _) _ _ _); k_dflt (refine' c_mkPt ?kH ?_; (case kH => ktr_rel)); intro x' d' t' tk' ta' tb' tc' h' tk2' F' N' l1 l2 l3; (try k_lt l1); (try k_lt2 l2); (try k_lt2 l3); (try k_dflt (dsimp only [PySem.W.CmpBack])); (try k_sweep)))
def pick3 (k : Int) (a b c : Int) : Int := if k = 0 then a else if k = 1 then b else c
theorem pick3_0 {a b c : Int} : pick3 0 a b c = a := rfl
theorem pick3_1 {a b c : Int} : pick3 1 a b c = b := rfl
theorem pick3_2 {a b c : Int} : pick3 2 a b c = c := rfl
theorem pick3_33 {a b c : Int} : pick3 (3 - 3) a b c = a := rfl
theorem pick3_43 {a b c : Int} : pick3 (4 - 3) a b c = b := rfl
theorem pick3_53 {a b c : Int} : pick3 (5 - 3) a b c = c := rfl
theorem c_get {x : Addr} {a b c k : Int} {tk : Tok} (H : Here w 1 A h₀ L m s news) (hp : PtIn w news x a b c) (hk : 0 ≤ k ∧ k < 3) (ret : RetI h₀ L m news s Q (pick3 k a b c)) :
    wpAny (model PySem.Challenge.rw_fb0050_01.row.prog w) A (call (.ref 42) [.ref x, .int k tk]) Q E s := by
  cases H with
  | mk B F X N T hkk hd hu =>
  cases hp with
  | mk h1 h2 h3 =>
    w_on
    revert X; k_fill; intro X
    refine wpAny_call ?_
    have hk3 : k = 0 ∨ k = 1 ∨ k = 2 := by omega
    rcases hk3 with rfl | rfl | rfl
    all_goals w_strict (k_dflt k_enter)
    all_goals w_strict (k_steps)
    all_goals exact ret _ _ _ (by k_asm) (by k_asm)
local macro_rules | `(tactic| walk_at "call ref") => `(tactic| (k_here; (with_reducible show wpAny _ _ (call (Value.ref 42) [Value.ref _, Value.int _ _] _) _ _ _); k_dflt (refine' c_get ?kH ?kp ?kk ?_; (case kH => ktr_rel); (case kp => krn_off); (case kk => first | omega | decide)); intro t' h' tk' F' N'; (try simp only [pick3_0, pick3_1, pick3_2, pick3_33, pick3_43, pick3_53]); (try k_sweep)))
open PySem.Spec PySem.Calls LCg in
/-- the block's source: a tuple of the ledger -/
def SrcTup (prog : Program) (w : World) (A : Around) (h₀ : Heap) (L : Addr) (m : Str → Option Value) (env : Env) (elt : Expr) (x : Str) (scope : Scope) (cl : List (Str × Addr)) (Fin : Shared → List Value → List (Addr × Obj) → Prop) (xv : Value) (s₁ : Shared) : Prop :=
  ∃ (t : Addr) (its : Array Value) (k : Nat) (news : List (Addr × Obj)), xv = .ref t ∧ A.handled = none ∧ Fr h₀ L s₁.heap m ∧ News h₀ L s₁.heap news ∧ (t, ({ cls := .type "tuple", data := .seq its k } : Obj)) ∈ news ∧ its.size ≤ sizeLine ∧
    ∀ g : Heap, CompRest prog w A h₀ L m env elt x scope cl { s₁ with heap := g } (fun nw => (t, ({ cls := .type "tuple", data := .seq its k } : Obj)) ∈ nw) (fun i v => its[i]? = some v) (Fin { s₁ with heap := g }) its.size 0 [] news

open PySem.Spec PySem.Calls LCg in
theorem assign_comp_tup {prog : Program} {elt iter : Expr} {x y : Str} {px py : Pos} {scope : Scope} {cl : List (Str × Addr)} {pos spos : Pos} {env : Env} {Q : Flow → Shared → Prop} (F₀ : Fr h₀ L s.heap m) (hLe : env.locals = L)
    (hsw : swapsWith (.ListComp elt [⟨.Name x px, iter, [], 0⟩] scope pos) (some (.Name y py)) spos.line env = pure true)
    (hclos : closureFor scope env = pure cl) (hcell : ∀ z ∈ scope.names, z.2 ≠ .cell) (hkind : scope.kind = .function)
    (hnames : ∀ z ∈ scope.names, z.2 = .local → scope.names.lookup z.1 = some .local) (hx : scope.names.lookup x = some .local)
    (hy : env.kindOf y = some .local) (hp : (env.scope.kind == .class || (env.scope.kind == .module && env.locals != env.globals)) = false)
    (h : wpAny (model prog w) A (eval iter env) (SrcTup prog w A h₀ L m env elt x scope cl (fun s₂ => FinA h₀ L m s₂ y Q)) E s)
    (hs : ∀ x, foldedSetIterable iter env x = pure x := by intro _; rfl) :
    wpAny (model prog w) A (exec (.Assign [.Name y py] (.ListComp elt [⟨.Name x px, iter, [], 0⟩] scope pos) spos) env) Q E s := by
  clear F₀
  rw [exec_Assign_Name_used _ _ _ _ hsw]
  refine wpAny_bind (wpAny_standAt (wpAny_bind ?_))
  show wpAny _ A (do let _ ← comprehension (.ListComp elt [⟨.Name x px, iter, [], 0⟩] scope pos) scope env _ (newList []) false (eval iter env) (some (assign (.Name y py) env))) _ _ s
  refine wpAny_bind (wpAny_mono (wpAny_comprehension_free (use := some (assign (.Name y py) env)) (Q := fun _ s' => Q .next s') rfl hs hclos hkind hnames
    (wpAny_mono h (fun xv s₁ h₁ => ?_) fun _ _ e => e)) (fun _ _ hq => wpAny_pure (wpAny_pure hq)) fun _ _ e => e)
  obtain ⟨t, its, k, news, rfl, hh, F, N, S, hsz, R⟩ := h₁
  have ht : s₁.heap.IsTuple t its := ⟨_, (N _ S).1, rfl, k, rfl⟩
  have hlt : t < s₁.heap.objs.size := Heap.lt_size (N _ S).1
  refine wpAny_pyIter_tuple ht ?_
  have up : ∀ b o, s₁.heap.get? b = some o → (s₁.heap.push { cls := .type "tuple_iterator", data := .fields #[.ref t, .int 0 0] }).get? b = some o := fun b o e => Heap.get?_push_of_some _ e
  refine block_U (h₀ := h₀) (L := L) (m := m) (news := news) (Walks.tuple hh s₁.heap.objs.size t (Nat.ne_of_lt hlt) its) hsz (fun i h st => by obtain ⟨o, e, _⟩ := st.1; exact ⟨o, e⟩) ?_ hcell hkind hx ⟨⟨_, Heap.get?_push_size _ rfl, rfl, rfl⟩, ht.push _⟩ (fun b hb => ?_)
    (F.keeps up) (N.grown up) (Nat.ne_of_lt F.ns.lt) (next_is_new F) (fun p hp => Nat.ne_of_lt (Heap.lt_size (N p hp).1)) S (R _) ?_
  · intro i h h' o nw st e e' kk NN SS
    obtain ⟨⟨o', q, r⟩, _⟩ := st
    rw [e] at q; cases q
    exact ⟨⟨o, e', r⟩, ⟨_, (NN _ SS).1, rfl, k, rfl⟩⟩
  · show b < (s₁.heap.push _).objs.size
    rw [Heap.size_push]
    rcases List.mem_cons.mp hb with rfl | hb
    · exact Nat.lt_succ_self _
    · rw [List.mem_singleton.mp hb]; exact Nat.lt_succ_of_lt hlt
  · intro D C h₁ tk m' ys news' F' N' o1 hn hC₀ hD₀ hCL hDL hCD offC fin
    show wpAny _ A (assign (.Name y py) env (.ref D)) _ _ _
    subst hLe
    refine wpAny_assign_Name (wpAny_storeName_local hy F'.ns (fun h₂ hn₂ hs₂ => ?_) hp)
    have hL₀ : h₀.get? env.locals = none := Heap.get?_none_of_le F'.above
    have F₂ : Fr h₀ env.locals h₂ (fun z => if z = y then some (.ref D) else m z) := F'.set hn₂ ⟨hs₂.1, hs₂.2⟩
    refine ⟨m', hn.sameBut hs₂ hCL, fun h'' hs'' => fin D h'' _ (F₂.change hs'' hCL hC₀) (fun p hp => ?_) o1⟩
    have z : h₂.get? p.1 = some p.2 := hs₂.extBut _ _ (N' p hp).2.1 (N' p hp).1
    refine ⟨hs''.extBut _ _ ?_ z, (N' p hp).2⟩
    rcases List.mem_cons.mp hp with rfl | hp
    · exact Ne.symm hCD
    · exact offC p hp

open PySem.Spec PySem.Calls LCg in
theorem SrcTup.mk {prog : Program} {elt : Expr} {x : Str} {scope : Scope} {cl : List (Str × Addr)} {env : Env} {Fin : Shared → List Value → List (Addr × Obj) → Prop} {t : Addr} {its : Array Value} {k : Nat} {s₁ : Shared}
    (hh : A.handled = none) (F : Fr h₀ L s₁.heap m) (N : News h₀ L s₁.heap news) (hm : (t, ({ cls := .type "tuple", data := .seq its k } : Obj)) ∈ news) (hsz : its.size ≤ sizeLine)
    (h : ∀ g, CompRest prog w A h₀ L m env elt x scope cl { s₁ with heap := g } (fun nw => (t, ({ cls := .type "tuple", data := .seq its k } : Obj)) ∈ nw) (fun i v => its[i]? = some v) (Fin { s₁ with heap := g }) its.size 0 [] news) :
    SrcTup prog w A h₀ L m env elt x scope cl Fin (.ref t) s₁ := ⟨t, its, k, news, rfl, hh, F, N, hm, hsz, h⟩
local macro_rules | `(tactic| lcg_src) => `(tactic| k_mem)
local macro_rules | `(tactic| walk_at "SrcTup") => `(tactic| (k_here; k_dflt (refine SrcTup.mk (by rfl) (by k_asm) (by k_asm) (by k_mem) (by first | size_fits | exact Nat.le_of_ble_eq_true rfl) ?_; intro g'; lcg_lit)))
local macro_rules | `(tactic| walk_at "CompEnd") => `(tactic| (refine LCg.CompEnd.intro (by assumption) (by assumption) _ (fun _ h => h) (by assumption) (by lcg_src) ?_))
local macro_rules | `(tactic| walk_at "eval ListComp") => `(tactic| (k_here; (first | lcg_look | lcf_look); k_dflt (refine LCg.ListComp_U (F₀ := by k_asm) (by with_unfolding_all rfl) (by decide) (by rfl) (by decide) (by rfl) ?_); k_dflt lcg_toSrc))
local macro_rules | `(tactic| walk_at "exec Assign cons ListComp") => `(tactic| (k_here; (first | lcg_look | lcf_look); k_dflt (refine LCg.Assign_ListComp_U (F₀ := by k_asm) (by rfl) (by with_unfolding_all rfl) (by with_unfolding_all rfl) (by decide) (by rfl) (by decide) (by rfl) (by rfl) (by rfl) ?_); k_dflt lcg_toSrc))
local macro_rules | `(tactic| walk_at "CompSrc") => `(tactic| (k_here; k_dflt (first
  | (refine LCg.CompSrc.ledger (by rfl) (by k_asm) (by k_asm) (by k_mem) (by first | size_fits | exact Nat.le_of_ble_eq_true rfl) ?_; intro g'; lcg_lit)
  | (refine LCg.CompSrc.range (by rfl) (by k_asm) (by k_asm) (by assumption) (by first | decide | rfl) (by first | rfl | decide) (by first | size_fits | exact Nat.le_of_ble_eq_true rfl) ?_; intro g'; lcg_lit))))
theorem m_class {prog : Program} {K : Frag} {x C : Addr} {ox od : Obj} {pl : Sem Bool} {Q : Value × List Value → Shared → Prop} {ty : String} (F : Fr h₀ L s.heap m) (X₀ : K.In h₀) (I : InstAt s.heap x ox C (some od)) (hg : plainGet K C "__class__" = true)
    (ha : findIn K (.ref C) "__class__" = some (some (.builtin "object.__class__"))) (hty : typeIn K (.builtin "object.__class__") = some (.type ty)) (hn : (Value.type ty != .type "function" && Value.type ty != .type "method_descriptor" && Value.type ty != .type "wrapper_descriptor") = true)
    (h : wpAny (model prog w) A (getAttr (.ref x) "__class__") (fun v => Q (v, [])) E s) : wpAny (model prog w) A (getMethod (.ref x) "__class__" pl) Q E s := by
  obtain ⟨g1, g2⟩ := Bool.and_eq_true_iff.mp hg
  exact method_usual (X₀.keeps F.keep) I (beq_iff_eq.mp g1) (beq_iff_eq.mp g2) ha (by simp only [Option.all, hty, Option.any]; exact hn) h
local macro_rules | `(tactic| walk_at "getMethod ref") => `(tactic| (k_here; (with_reducible show wpAny _ _ (getMethod (Value.ref _) (PySem.Str.ofString "__class__") _) _ _ _); k_dflt (refine' m_class ?k1 ?k2 ?k3 ?k4 ?k5 ?k6 ?k7 ?_; (case k1 => k_asm); (case k2 => k_asm); (case k3 => k_inst); (case k4 => k_is); (case k5 => k_is); (case k6 => k_is); (case k7 => decide +kernel); k_whole)))
theorem c_neg {x : Addr} {a b c : Int} (H : Here w 2 A h₀ L m s news) (hp : PtIn w news x a b c) (ret : RetPt w h₀ L m news s Q (-a) (-b) (-c)) :
    wpAny (model PySem.Challenge.rw_fb0050_01.row.prog w) A (call (.ref 49) [.ref x]) Q E s := by
  cases H with
  | mk B F X N T hkk hd hu =>
  cases hp with
  | mk h1 h2 h3 =>
    w_on
    revert X; k_fill; intro X
    refine wpAny_call ?_
    w_strict (k_dflt k_enter)
    w_strict (k_steps)
    all_goals exact ret _ _ _ _ _ _ _ _ _ (by k_asm) (by k_asm) (by assumption) (by assumption) (by assumption)
theorem c_add {x y : Addr} {a b c a' b' c' : Int} (H : Here w 2 A h₀ L m s news) (hp : PtIn w news x a b c) (hq : PtIn w news y a' b' c') (ret : RetPt w h₀ L m news s Q (a + a') (b + b') (c + c')) :
    wpAny (model PySem.Challenge.rw_fb0050_01.row.prog w) A (call (.ref 84) [.ref x, .ref y]) Q E s := by
  cases H with
  | mk B F X N T hkk hd hu =>
  cases hp with
  | mk h1 h2 h3 =>
  cases hq with
  | mk h4 h5 h6 =>
    w_on
    revert X; k_fill; intro X
    refine wpAny_call ?_
    w_strict (k_dflt k_enter)
    w_strict (k_steps)
    all_goals exact ret _ _ _ _ _ _ _ _ _ (by k_asm) (by k_asm) (by assumption) (by assumption) (by assumption)
theorem c_sub {x y : Addr} {a b c a' b' c' : Int} (H : Here w 2 A h₀ L m s news) (hp : PtIn w news x a b c) (hq : PtIn w news y a' b' c') (ret : RetPt w h₀ L m news s Q (a - a') (b - b') (c - c')) :
    wpAny (model PySem.Challenge.rw_fb0050_01.row.prog w) A (call (.ref 91) [.ref x, .ref y]) Q E s := by
  cases H with
  | mk B F X N T hkk hd hu =>
  cases hp with
  | mk h1 h2 h3 =>
  cases hq with
  | mk h4 h5 h6 =>
    w_on
    revert X; k_fill; intro X
    refine wpAny_call ?_
    w_strict (k_dflt k_enter)
    w_strict (k_steps)
    all_goals exact ret _ _ _ _ _ _ _ _ _ (by k_asm) (by k_asm) (by assumption) (by assumption) (by assumption)
theorem c_dot {x y : Addr} {a b c a' b' c' : Int} (H : Here w 2 A h₀ L m s news) (hp : PtIn w news x a b c) (hq : PtIn w news y a' b' c') (ha : Sm a) (hb : Sm b) (hc : Sm c) (ret : RetI h₀ L m news s Q (a * a' + b * b' + c * c')) :
    wpAny (model PySem.Challenge.rw_fb0050_01.row.prog w) A (call (.ref 124) [.ref x, .ref y]) Q E s := by
  cases H with
  | mk B F X N T hkk hd hu =>
  cases hp with
  | mk h1 h2 h3 =>
  cases hq with
  | mk h4 h5 h6 =>
    obtain ⟨ha1, ha2⟩ := ha; obtain ⟨hb1, hb2⟩ := hb; obtain ⟨hc1, hc2⟩ := hc
    w_on
    revert X; k_fill; intro X
    refine wpAny_call ?_
    w_strict (k_dflt k_enter)
    w_strict (k_steps)
    all_goals exact ret _ _ _ (by k_asm) (by k_asm)
theorem c_norm2 {x : Addr} {a b c : Int} (H : Here w 2 A h₀ L m s news) (hp : PtIn w news x a b c) (ha : Sm a) (hb : Sm b) (hc : Sm c) (ret : RetI h₀ L m news s Q (a * a + b * b + c * c)) :
    wpAny (model PySem.Challenge.rw_fb0050_01.row.prog w) A (call (.ref 131) [.ref x]) Q E s := by
  cases H with
  | mk B F X N T hkk hd hu =>
  cases hp with
  | mk h1 h2 h3 =>
    obtain ⟨ha1, ha2⟩ := ha; obtain ⟨hb1, hb2⟩ := hb; obtain ⟨hc1, hc2⟩ := hc
    w_on
    revert X; k_fill; intro X
    refine wpAny_call ?_
    w_strict (k_dflt k_enter)
    w_strict (k_steps)
    all_goals exact ret _ _ _ (by k_asm) (by k_asm)
theorem c_cross {x y : Addr} {a b c a' b' c' : Int} (H : Here w 2 A h₀ L m s news) (hp : PtIn w news x a b c) (hq : PtIn w news y a' b' c') (ha : Sm a) (hb : Sm b) (hc : Sm c) (ret : RetPt w h₀ L m news s Q (b * c' - c * b') (c * a' - a * c') (a * b' - b * a')) :
    wpAny (model PySem.Challenge.rw_fb0050_01.row.prog w) A (call (.ref 117) [.ref x, .ref y]) Q E s := by
  cases H with
  | mk B F X N T hkk hd hu =>
  cases hp with
  | mk h1 h2 h3 =>
  cases hq with
  | mk h4 h5 h6 =>
    obtain ⟨ha1, ha2⟩ := ha; obtain ⟨hb1, hb2⟩ := hb; obtain ⟨hc1, hc2⟩ := hc
    w_on
    revert X; k_fill; intro X
    refine wpAny_call ?_
    w_strict (k_dflt k_enter)
    w_strict (k_steps)
    all_goals exact ret _ _ _ _ _ _ _ _ _ (by k_asm) (by k_asm) (by assumption) (by assumption) (by assumption)
theorem c_mul {x : Addr} {a b c k : Int} {tk : Tok} (H : Here w 2 A h₀ L m s news) (hp : PtIn w news x a b c) (hk : Sm k) (ret : RetPt w h₀ L m news s Q (a * k) (b * k) (c * k)) :
    wpAny (model PySem.Challenge.rw_fb0050_01.row.prog w) A (call (.ref 98) [.ref x, .int k tk]) Q E s := by
  cases H with
  | mk B F X N T hkk hd hu =>
  cases hp with
  | mk h1 h2 h3 =>
    obtain ⟨ha1, ha2⟩ := hk
    w_on
    revert X; k_fill; intro X
    refine wpAny_call ?_
    w_strict (k_dflt k_enter)
    w_strict (k_steps)
    all_goals exact ret _ _ _ _ _ _ _ _ _ (by k_asm) (by k_asm) (by assumption) (by assumption) (by assumption)
theorem c_rmul {x : Addr} {a b c k : Int} {tk : Tok} (H : Here w 2 A h₀ L m s news) (hp : PtIn w news x a b c) (hk : Sm k) (ret : RetPt w h₀ L m news s Q (a * k) (b * k) (c * k)) :
    wpAny (model PySem.Challenge.rw_fb0050_01.row.prog w) A (call (.ref 105) [.ref x, .int k tk]) Q E s := by
  cases H with
  | mk B F X N T hkk hd hu =>
  cases hp with
  | mk h1 h2 h3 =>
    obtain ⟨ha1, ha2⟩ := hk
    w_on
    revert X; k_fill; intro X
    refine wpAny_call ?_
    w_strict (k_dflt k_enter)
    w_strict (k_steps)
    all_goals exact ret _ _ _ _ _ _ _ _ _ (by k_asm) (by k_asm) (by assumption) (by assumption) (by assumption)
theorem c_eq {x y : Addr} {a b c a' b' c' : Int} (H : Here w 2 A h₀ L m s news) (hp : PtIn w news x a b c) (hq : PtIn w news y a' b' c') (ret : RetB h₀ L m news s Q (decide (a = a' ∧ b = b' ∧ c = c'))) :
    wpAny (model PySem.Challenge.rw_fb0050_01.row.prog w) A (call (.ref 56) [.ref x, .ref y]) Q E s := by
  cases H with
  | mk B F X N T hkk hd hu =>
  cases hp with
  | mk h1 h2 h3 =>
  cases hq with
  | mk h4 h5 h6 =>
    w_on
    revert X; k_fill; intro X
    refine wpAny_call ?_
    w_strict (k_dflt k_enter)
    w_strict (k_steps)
    all_goals exact retB_of ret (by rw [Bool.eq_iff_iff]; simp) _ _ (by k_asm) (by k_asm)
local macro_rules | `(tactic| walk_at "call ref") => `(tactic| (k_here; (k_dflt (show wpAny _ _ (call (Value.ref 49) [Value.ref _] _) _ _ _)); k_dflt (refine' c_neg ?kH ?kp0 ?_; (case kH => ktr_rel); (case kp0 => krn_off)); intro x' d' t' tk' ta' tb' tc' h' tk2' F' N' l1 l2 l3; (try k_lt l1); (try k_lt2 l2); (try k_lt2 l3); (try k_dflt (dsimp only [PySem.W.CmpBack])); (try k_sweep)))
local macro_rules | `(tactic| walk_at "call ref") => `(tactic| (k_here; (with_reducible show wpAny _ _ (call (Value.ref 84) [Value.ref _, Value.ref _] _) _ _ _); k_dflt (refine' c_add ?kH ?kp0 ?kp1 ?_; (case kH => ktr_rel); (case kp0 => krn_off); (case kp1 => krn_off)); intro x' d' t' tk' ta' tb' tc' h' tk2' F' N' l1 l2 l3; (try k_lt l1); (try k_lt2 l2); (try k_lt2 l3); (try k_dflt (dsimp only [PySem.W.CmpBack])); (try k_sweep)))
local macro_rules | `(tactic| walk_at "call ref") => `(tactic| (k_here; (with_reducible show wpAny _ _ (call (Value.ref 91) [Value.ref _, Value.ref _] _) _ _ _); k_dflt (refine' c_sub ?kH ?kp0 ?kp1 ?_; (case kH => ktr_rel); (case kp0 => krn_off); (case kp1 => krn_off)); intro x' d' t' tk' ta' tb' tc' h' tk2' F' N' l1 l2 l3; (try k_lt l1); (try k_lt2 l2); (try k_lt2 l3); (try k_dflt (dsimp only [PySem.W.CmpBack])); (try k_sweep)))
local macro_rules | `(tactic| walk_at "call ref") => `(tactic| (k_here; (with_reducible show wpAny _ _ (call (Value.ref 124) [Value.ref _, Value.ref _] _) _ _ _); k_dflt (refine' c_dot ?kH ?kp0 ?kp1 ?kp2 ?kp3 ?kp4 ?_; (case kH => ktr_rel); (case kp0 => krn_off); (case kp1 => krn_off); (case kp2 => first | with_reducible assumption | exact ⟨by omega, by omega⟩ | exact ⟨by l_fact, by l_fact⟩); (case kp3 => first | with_reducible assumption | exact ⟨by omega, by omega⟩ | exact ⟨by l_fact, by l_fact⟩); (case kp4 => first | with_reducible assumption | exact ⟨by omega, by omega⟩ | exact ⟨by l_fact, by l_fact⟩)); intro t' h' tk' F' N'; (try k_dflt (dsimp only [PySem.W.CmpBack])); (try k_sweep)))
local macro_rules | `(tactic| walk_at "call ref") => `(tactic| (k_here; (k_dflt (show wpAny _ _ (call (Value.ref 131) [Value.ref _] _) _ _ _)); k_dflt (refine' c_norm2 ?kH ?kp0 ?kp1 ?kp2 ?kp3 ?_; (case kH => ktr_rel); (case kp0 => krn_off); (case kp1 => first | with_reducible assumption | exact ⟨by omega, by omega⟩ | exact ⟨by l_fact, by l_fact⟩); (case kp2 => first | with_reducible assumption | exact ⟨by omega, by omega⟩ | exact ⟨by l_fact, by l_fact⟩); (case kp3 => first | with_reducible assumption | exact ⟨by omega, by omega⟩ | exact ⟨by l_fact, by l_fact⟩)); intro t' h' tk' F' N'; (try k_dflt (dsimp only [PySem.W.CmpBack])); (try k_sweep)))
local macro_rules | `(tactic| walk_at "call ref") => `(tactic| (k_here; (with_reducible show wpAny _ _ (call (Value.ref 117) [Value.ref _, Value.ref _] _) _ _ _); k_dflt (refine' c_cross ?kH ?kp0 ?kp1 ?kp2 ?kp3 ?kp4 ?_; (case kH => ktr_rel); (case kp0 => krn_off); (case kp1 => krn_off); (case kp2 => first | with_reducible assumption | exact ⟨by omega, by omega⟩ | exact ⟨by l_fact, by l_fact⟩); (case kp3 => first | with_reducible assumption | exact ⟨by omega, by omega⟩ | exact ⟨by l_fact, by l_fact⟩); (case kp4 => first | with_reducible assumption | exact ⟨by omega, by omega⟩ | exact ⟨by l_fact, by l_fact⟩)); intro x' d' t' tk' ta' tb' tc' h' tk2' F' N' l1 l2 l3; (try k_lt l1); (try k_lt2 l2); (try k_lt2 l3); (try k_dflt (dsimp only [PySem.W.CmpBack])); (try k_sweep)))
local macro_rules | `(tactic| walk_at "call ref") => `(tactic| (k_here; (with_reducible show wpAny _ _ (call (Value.ref 98) [Value.ref _, Value.int _ _] _) _ _ _); k_dflt (refine' c_mul ?kH ?kp0 ?kp1 ?_; (case kH => ktr_rel); (case kp0 => krn_off); (case kp1 => first | with_reducible assumption | exact ⟨by omega, by omega⟩ | exact ⟨by l_fact, by l_fact⟩)); intro x' d' t' tk' ta' tb' tc' h' tk2' F' N' l1 l2 l3; (try k_lt l1); (try k_lt2 l2); (try k_lt2 l3); (try k_dflt (dsimp only [PySem.W.CmpBack])); (try k_sweep)))
local macro_rules | `(tactic| walk_at "call ref") => `(tactic| (k_here; (with_reducible show wpAny _ _ (call (Value.ref 105) [Value.ref _, Value.int _ _] _) _ _ _); k_dflt (refine' c_rmul ?kH ?kp0 ?kp1 ?_; (case kH => ktr_rel); (case kp0 => krn_off); (case kp1 => first | with_reducible assumption | exact ⟨by omega, by omega⟩ | exact ⟨by l_fact, by l_fact⟩)); intro x' d' t' tk' ta' tb' tc' h' tk2' F' N' l1 l2 l3; (try k_lt l1); (try k_lt2 l2); (try k_lt2 l3); (try k_dflt (dsimp only [PySem.W.CmpBack])); (try k_sweep)))
local macro_rules | `(tactic| walk_at "call ref") => `(tactic| (k_here; (with_reducible show wpAny _ _ (call (Value.ref 56) [Value.ref _, Value.ref _] _) _ _ _); k_dflt (refine' c_eq ?kH ?kp0 ?kp1 ?_; (case kH => ktr_rel); (case kp0 => krn_off); (case kp1 => krn_off)); intro h' tk' F' N'; (try k_dflt (dsimp only [PySem.W.CmpBack])); (try k_sweep)))
theorem c_ne {x y : Addr} {a b c a' b' c' : Int} (H : Here w 3 A h₀ L m s news) (hp : PtIn w news x a b c) (hq : PtIn w news y a' b' c') (ret : RetB h₀ L m news s Q (!decide (a = a' ∧ b = b' ∧ c = c'))) :
    wpAny (model PySem.Challenge.rw_fb0050_01.row.prog w) A (call (.ref 63) [.ref x, .ref y]) Q E s := by
  cases H with
  | mk B F X N T hkk hd hu =>
  cases hp with
  | mk h1 h2 h3 =>
  cases hq with
  | mk h4 h5 h6 =>
    w_on
    revert X; k_fill; intro X
    refine wpAny_call ?_
    w_strict (k_dflt k_enter)
    w_strict (k_steps)
    all_goals exact retB_of ret rfl _ _ (by k_asm) (by k_asm)
local macro_rules | `(tactic| walk_at "call ref") => `(tactic| (k_here; (with_reducible show wpAny _ _ (call (Value.ref 63) [Value.ref _, Value.ref _] _) _ _ _); k_dflt (refine' c_ne ?kH ?kp0 ?kp1 ?_; (case kH => ktr_rel); (case kp0 => krn_off); (case kp1 => krn_off)); intro h' tk' F' N'; (try k_dflt (dsimp only [PySem.W.CmpBack])); (try k_sweep)))
def mx (a : Int) : Int := if -a > a then -a else a
@[irreducible] def lac (a b c : Int) : Int := if mx a > mx b then (if mx a > mx c then 0 else 2) else if mx b > mx c then 1 else 2
theorem lac_0 {a b c : Int} (h1 : mx b < mx a) (h2 : mx c < mx a) : (0 : Int) = lac a b c := by unfold lac; rw [if_pos h1, if_pos h2]
theorem lac_2 {a b c : Int} (h1 : mx b < mx a) (h2 : ¬ mx c < mx a) : (2 : Int) = lac a b c := by unfold lac; rw [if_pos h1, if_neg h2]
theorem lac_1 {a b c : Int} (h1 : ¬ mx b < mx a) (h2 : mx c < mx b) : (1 : Int) = lac a b c := by unfold lac; rw [if_neg h1, if_pos h2]
theorem lac_3 {a b c : Int} (h1 : ¬ mx b < mx a) (h2 : ¬ mx c < mx b) : (2 : Int) = lac a b c := by unfold lac; rw [if_neg h1, if_neg h2]
theorem c_lac {x : Addr} {a b c : Int} (H : Here w 2 A h₀ L m s news) (hp : PtIn w news x a b c) (ret : RetI h₀ L m news s Q (lac a b c)) :
    wpAny (model PySem.Challenge.rw_fb0050_01.row.prog w) A (call (.ref 110) [.ref x]) Q E s := by
  cases H with
  | mk B F X N T hkk hd hu =>
  cases hp with
  | mk h1 h2 h3 =>
    w_on
    revert X; k_fill; intro X
    refine wpAny_call ?_
    w_strict (k_dflt k_enter)
    w_strict walk1
    w_strict walk1
    w_strict (k_dflt (refine assign_comp_tup (F₀ := by k_asm) (by rfl) (by with_unfolding_all rfl) (by with_unfolding_all rfl) (by decide) (by rfl) (by decide) (by rfl) (by rfl) (by rfl) ?_))
    w_strict (k_steps)
    all_goals exact retI_of ret (by first | exact lac_0 (by assumption) (by assumption) | exact lac_1 (by assumption) (by assumption) | exact lac_2 (by assumption) (by assumption) | exact lac_3 (by assumption) (by assumption)) _ _ _ (by k_asm) (by first | (with_reducible assumption) | ((rename News _ _ _ _ => nN9); (repeat (first | (with_reducible exact nN9) | (replace nN9 := hd_skip nN9))); done) | ((rename News _ _ _ _ => nN9); (repeat (first | (with_reducible exact nN9) | (replace nN9 := hd_u1 nN9))); done) | ((rename News _ _ _ _ => nN9); (repeat (first | (with_reducible exact nN9) | (replace nN9 := hd_u2 nN9))); done) | k_asm | (refine' cb_drop ?cbN ?cbS; (case cbN => assumption); (case cbS => kcj_all)))
local macro_rules | `(tactic| walk_at "call ref") => `(tactic| (k_here; (k_dflt (show wpAny _ _ (call (Value.ref 110) [Value.ref _] _) _ _ _)); k_dflt (refine' c_lac ?kH ?kp0 ?_; (case kH => ktr_rel); (case kp0 => krn_off)); intro t' h' tk' F' N'; (try k_dflt (dsimp only [PySem.W.CmpBack])); (try k_sweep)))
def fX (f u v : Int) : Int := if f = 0 then 1 else if f = 1 then -u else if f = 2 then -u else if f = 3 then -1 else if f = 4 then v else v
def fY (f u v : Int) : Int := if f = 0 then u else if f = 1 then 1 else if f = 2 then -v else if f = 3 then -v else if f = 4 then -1 else u
def fZ (f u v : Int) : Int := if f = 0 then v else if f = 1 then v else if f = 2 then 1 else if f = 3 then -u else if f = 4 then -u else -1
theorem fX_0 {u v : Int} : fX 0 u v = 1 := rfl
theorem fX_1 {u v : Int} : fX 1 u v = -u := rfl
theorem fX_2 {u v : Int} : fX 2 u v = -u := rfl
theorem fX_3 {u v : Int} : fX 3 u v = -1 := rfl
theorem fX_4 {u v : Int} : fX 4 u v = v := rfl
theorem fX_5 {u v : Int} : fX 5 u v = v := rfl
theorem fY_0 {u v : Int} : fY 0 u v = u := rfl
theorem fY_1 {u v : Int} : fY 1 u v = 1 := rfl
theorem fY_2 {u v : Int} : fY 2 u v = -v := rfl
theorem fY_3 {u v : Int} : fY 3 u v = -v := rfl
theorem fY_4 {u v : Int} : fY 4 u v = -1 := rfl
theorem fY_5 {u v : Int} : fY 5 u v = u := rfl
theorem fZ_0 {u v : Int} : fZ 0 u v = v := rfl
theorem fZ_1 {u v : Int} : fZ 1 u v = v := rfl
theorem fZ_2 {u v : Int} : fZ 2 u v = 1 := rfl
theorem fZ_3 {u v : Int} : fZ 3 u v = -u := rfl
theorem fZ_4 {u v : Int} : fZ 4 u v = -u := rfl
theorem fZ_5 {u v : Int} : fZ 5 u v = -1 := rfl
theorem c_uvxyz {f u v : Int} {tf tu tv : Tok} (H : Here w 2 A h₀ L m s news) (ret : RetPt w h₀ L m news s Q (fX f u v) (fY f u v) (fZ f u v)) :
    wpAny (model PySem.Challenge.rw_fb0050_01.row.prog w) A (call (.ref 590) [.int f tf, .int u tu, .int v tv]) Q E s := by
  cases H with
  | mk B F X N T hkk hd hu =>
    w_on
    revert X; k_fill; intro X
    refine wpAny_call ?_
    w_strict (k_dflt k_enter)
    w_strict (k_steps)
    all_goals exact endPt ret (by k_asm) (by k_asm) (by assumption) (by assumption) (by assumption) (by unfold fX; (repeat' split) <;> first | rfl | omega) (by unfold fY; (repeat' split) <;> first | rfl | omega) (by unfold fZ; (repeat' split) <;> first | rfl | omega)
theorem noPy {x y : Int} (h0 : y ≠ 0) (h : y.natAbs < 2 ^ 64) : Builtin.divisionGoesByPylong x y = false := by
  refine PyProof.noPylong_of_log2 ?_
  have h1 : y.natAbs ≠ 0 := by omega
  exact Nat.lt_trans ((Nat.log2_lt h1).mpr h) (by decide)
local macro_rules | `(tactic| walk_at "call ref") => `(tactic| (k_here; (with_reducible show wpAny _ _ (call (Value.ref 590) [Value.int _ _, Value.int _ _, Value.int _ _] _) _ _ _); k_dflt (refine' c_uvxyz ?kH  ?_; (case kH => ktr_rel)); intro x' d' t' tk' ta' tb' tc' h' tk2' F' N' l1 l2 l3; (try k_lt l1); (try k_lt2 l2); (try k_lt2 l3); (try simp only [fX_0, fX_1, fX_2, fX_3, fX_4, fX_5, fY_0, fY_1, fY_2, fY_3, fY_4, fY_5, fZ_0, fZ_1, fZ_2, fZ_3, fZ_4, fZ_5, Int.neg_zero] at N'); (try k_dflt (dsimp only [PySem.W.CmpBack])); (try k_sweep)))
local macro_rules | `(tactic| walk_at "binaryOp FloorDiv int int") => `(tactic| (k_here; with_reducible refine floordiv_int (by omega) ?_ (Or.inl (noPy (by omega) (by omega)))))
def qt (a b : Int) : Int := Int.fdiv (a * 18014398509481984 + b) (2 * b)
theorem c_quot {a b : Int} {ta tb : Tok} (H : Here w 2 A h₀ L m s news) (ha : Sm a) (hb : Sm b) (hb0 : b ≠ 0) (ret : RetI h₀ L m news s Q (qt a b)) :
    wpAny (model PySem.Challenge.rw_fb0050_01.row.prog w) A (call (.ref 562) [.int a ta, .int b tb]) Q E s := by
  cases H with
  | mk B F X N T hkk hd hu =>
    obtain ⟨ha1, ha2⟩ := ha; obtain ⟨hb1, hb2⟩ := hb
    w_on
    revert X; k_fill; intro X
    refine wpAny_call ?_
    w_strict (k_dflt k_enter)
    w_strict (k_steps)
    all_goals exact retI_of ret rfl _ _ _ (by k_asm) (by k_asm)
theorem c_norm {f : Int} {tf : Tok} (H : Here w 3 A h₀ L m s news) (ret : RetPt w h₀ L m news s Q (fX f 0 0) (fY f 0 0) (fZ f 0 0)) :
    wpAny (model PySem.Challenge.rw_fb0050_01.row.prog w) A (call (.ref 597) [.int f tf]) Q E s := by
  cases H with
  | mk B F X N T hkk hd hu =>
    w_on
    revert X; k_fill; intro X
    refine wpAny_call ?_
    w_strict (k_dflt k_enter)
    w_strict (k_steps)
    all_goals exact ret _ _ _ _ _ _ _ _ _ (by k_asm) (by k_asm) (by assumption) (by assumption) (by assumption)
local macro_rules | `(tactic| walk_at "call ref") => `(tactic| (k_here; (with_reducible show wpAny _ _ (call (Value.ref 562) [Value.int _ _, Value.int _ _] _) _ _ _); k_dflt (refine' c_quot ?kH ?kp0 ?kp1 ?kp2 ?_; (case kH => ktr_rel); (case kp0 => first | with_reducible assumption | exact ⟨by omega, by omega⟩ | exact ⟨by l_fact, by l_fact⟩); (case kp1 => first | with_reducible assumption | exact ⟨by omega, by omega⟩ | exact ⟨by l_fact, by l_fact⟩); (case kp2 => first | with_reducible assumption | omega | decide | l_fact)); intro t' h' tk' F' N'; (try k_dflt (dsimp only [PySem.W.CmpBack])); (try k_sweep)))
local macro_rules | `(tactic| walk_at "call ref") => `(tactic| (k_here; (with_reducible show wpAny _ _ (call (Value.ref 597) [Value.int _ _] _) _ _ _); k_dflt (refine' c_norm ?kH  ?_; (case kH => ktr_rel)); intro x' d' t' tk' ta' tb' tc' h' tk2' F' N' l1 l2 l3; (try k_lt l1); (try k_lt2 l2); (try k_lt2 l3); (try simp only [fX_0, fX_1, fX_2, fX_3, fX_4, fX_5, fY_0, fY_1, fY_2, fY_3, fY_4, fY_5, fZ_0, fZ_1, fZ_2, fZ_3, fZ_4, fZ_5, Int.neg_zero] at N'); (try k_dflt (dsimp only [PySem.W.CmpBack])); (try k_sweep)))
def vU (f a b c : Int) : Int := if f = 0 then qt b a else if f = 1 then qt (-a) b else if f = 2 then qt (-a) c else if f = 3 then qt c a else if f = 4 then qt c b else qt (-b) c
def vV (f a b c : Int) : Int := if f = 0 then qt c a else if f = 1 then qt c b else if f = 2 then qt (-b) c else if f = 3 then qt b a else if f = 4 then qt (-a) b else qt (-a) c
/-- the face's own part of a point: p·norm -/
@[irreducible] def fD (f a b c : Int) : Int := a * fX f 0 0 + b * fY f 0 0 + c * fZ f 0 0
theorem fz_all {f a b c : Int} (hf : 0 ≤ f ∧ f < 6) (hD : 0 < fD f a b c) : (f = 0 → a ≠ 0) ∧ (f = 1 → b ≠ 0) ∧ (f = 2 → c ≠ 0) ∧ (f = 3 → a ≠ 0) ∧ (f = 4 → b ≠ 0) ∧ (f = 5 → c ≠ 0) := by
  refine ⟨?_, ?_, ?_, ?_, ?_, ?_⟩
  all_goals (rintro rfl hz; subst hz; simp [fD, fX, fY, fZ] at hD)
theorem c_valid {x : Addr} {f a b c : Int} {tf : Tok} (H : Here w 3 A h₀ L m s news) (hp : PtIn w news x a b c) (ha : Sm a) (hb : Sm b) (hc : Sm c) (hf : 0 ≤ f ∧ f < 6) (hD : 0 < fD f a b c) (ret : RetT2 h₀ L m news s Q (vU f a b c) (vV f a b c)) :
    wpAny (model PySem.Challenge.rw_fb0050_01.row.prog w) A (call (.ref 569) [.int f tf, .ref x]) Q E s := by
  cases H with
  | mk B F X N T hkk hd hu =>
  cases hp with
  | mk h1 h2 h3 =>
    obtain ⟨ha1, ha2⟩ := ha; obtain ⟨hb1, hb2⟩ := hb; obtain ⟨hc1, hc2⟩ := hc
    have hz := fz_all hf hD
    simp only [fD] at hD
    w_on
    revert X; k_fill; intro X
    refine wpAny_call ?_
    w_strict (k_dflt k_enter)
    w_strict (k_steps)
    all_goals exact endT2 ret (by k_asm) (by first | (with_reducible assumption) | ((rename News _ _ _ _ => nN9); (repeat (first | (with_reducible exact nN9) | (replace nN9 := hd_skip nN9))); done) | ((rename News _ _ _ _ => nN9); (repeat (first | (with_reducible exact nN9) | (replace nN9 := hd_u1 nN9))); done) | ((rename News _ _ _ _ => nN9); (repeat (first | (with_reducible exact nN9) | (replace nN9 := hd_u2 nN9))); done) | k_asm | (refine' cb_drop ?cbN ?cbS; (case cbN => assumption); (case cbS => kcj_all))) (by first | (with_reducible assumption) | exact lt_of_all (by with_reducible assumption) | exact lt_of_all1 (by with_reducible assumption) | exact lt_of_all2 (by with_reducible assumption) | exact lt_of_all3 (by with_reducible assumption) | exact lt_of_all4 (by with_reducible assumption) | exact lt_of_all5 (by with_reducible assumption) | exact lt_of_all6 (by with_reducible assumption) | exact lt_of_all7 (by with_reducible assumption) | exact lt_of_all8 (by with_reducible assumption) | exact lt_of_all9 (by with_reducible assumption) | exact lt_of_all10 (by with_reducible assumption) | exact lt_of_all11 (by with_reducible assumption) | exact lt_of_all12 (by with_reducible assumption) | exact lt_of_all13 (by with_reducible assumption) | exact lt_of_all14 (by with_reducible assumption) | exact lt_of_all15 (by with_reducible assumption) | exact lt_of_all16 (by with_reducible assumption) | exact lt_of_all17 (by with_reducible assumption) | exact lt_of_all18 (by with_reducible assumption) | exact lt_of_all19 (by with_reducible assumption) | exact lt_of_all20 (by with_reducible assumption) | exact lt_of_all21 (by with_reducible assumption) | exact lt_of_all22 (by with_reducible assumption) | exact lt_of_all23 (by with_reducible assumption) | exact lt_of_all24 (by with_reducible assumption) | assumption) (by first | (subst_vars; rfl) | (simp only [vU]; (repeat' split) <;> first | rfl | omega)) (by first | (subst_vars; rfl) | (simp only [vV]; (repeat' split) <;> first | rfl | omega))
theorem fD_0 {a b c : Int} : fD 0 a b c = a := by simp [fD, fX, fY, fZ]
theorem fD_1 {a b c : Int} : fD 1 a b c = b := by simp [fD, fX, fY, fZ]
theorem fD_2 {a b c : Int} : fD 2 a b c = c := by simp [fD, fX, fY, fZ]
theorem fD_3 {a b c : Int} : fD 3 a b c = -a := by simp [fD, fX, fY, fZ]
theorem fD_4 {a b c : Int} : fD 4 a b c = -b := by simp [fD, fX, fY, fZ]
theorem fD_5 {a b c : Int} : fD 5 a b c = -c := by simp [fD, fX, fY, fZ]
theorem lac_range (a b c : Int) : lac a b c = 0 ∨ lac a b c = 1 ∨ lac a b c = 2 := by unfold lac; (repeat' split) <;> simp
theorem lac_big (a b c : Int) (h : ¬ (a = 0 ∧ b = 0 ∧ c = 0)) : pick3 (lac a b c) a b c ≠ 0 := by
  unfold lac mx pick3
  (repeat' split) <;> (intro hz; simp_all <;> omega)
theorem fD_pos {a b c : Int} (h : ¬ (a = 0 ∧ b = 0 ∧ c = 0)) (hn : ¬ pick3 (lac a b c) a b c < 0) : 0 < fD (lac a b c) a b c := by
  have hb := lac_big a b c h
  rcases lac_range a b c with e | e | e <;> rw [e] at hb hn ⊢
  · rw [fD_0]; rw [pick3_0] at hb hn; omega
  · rw [fD_1]; rw [pick3_1] at hb hn; omega
  · rw [fD_2]; rw [pick3_2] at hb hn; omega
theorem fD_neg {a b c : Int} (hn : pick3 (lac a b c) a b c < 0) : 0 < fD (lac a b c + 3) a b c := by
  rcases lac_range a b c with e | e | e <;> rw [e] at hn ⊢
  · show 0 < fD 3 a b c; rw [fD_3]; rw [pick3_0] at hn; omega
  · show 0 < fD 4 a b c; rw [fD_4]; rw [pick3_1] at hn; omega
  · show 0 < fD 5 a b c; rw [fD_5]; rw [pick3_2] at hn; omega
local macro_rules | `(tactic| walk_at "call ref") => `(tactic| (k_here; (with_reducible show wpAny _ _ (call (Value.ref 569) [Value.int _ _, Value.ref _] _) _ _ _); k_dflt (refine' c_valid ?kH ?kp0 ?kp1 ?kp2 ?kp3 ?kp4 ?kp5 ?_; (case kH => ktr_rel); (case kp0 => krn_off); (case kp1 => first | with_reducible assumption | exact ⟨by omega, by omega⟩ | exact ⟨by l_fact, by l_fact⟩); (case kp2 => first | with_reducible assumption | exact ⟨by omega, by omega⟩ | exact ⟨by l_fact, by l_fact⟩); (case kp3 => first | with_reducible assumption | exact ⟨by omega, by omega⟩ | exact ⟨by l_fact, by l_fact⟩); (case kp4 => first | with_reducible assumption | omega | decide | l_fact); (case kp5 => first | with_reducible assumption | (with_reducible exact fD_pos (by assumption) (by assumption)) | (with_reducible exact fD_neg (by assumption)) | (simp only [fD_0, fD_1, fD_2, fD_3, fD_4, fD_5]; omega))); intro D' ta' tb' h' tk2' F' N' l1; (try k_lt l1); (try k_dflt (dsimp only [PySem.W.CmpBack])); (try k_sweep)))
def fcOf (a b c : Int) : Int := if pick3 (lac a b c) a b c < 0 then lac a b c + 3 else lac a b c
theorem c_xyzface {x : Addr} {a b c : Int} (H : Here w 4 A h₀ L m s news) (hp : PtIn w news x a b c) (ha : Sm a) (hb : Sm b) (hc : Sm c) (h0 : ¬ (a = 0 ∧ b = 0 ∧ c = 0)) (ret : RetT3I h₀ L m news s Q (fcOf a b c) (vU (fcOf a b c) a b c) (vV (fcOf a b c) a b c)) :
    wpAny (model PySem.Challenge.rw_fb0050_01.row.prog w) A (call (.ref 576) [.ref x]) Q E s := by
  cases H with
  | mk B F X N T hkk hd hu =>
  cases hp with
  | mk h1 h2 h3 =>
    have hl := lac_range a b c
    w_on
    revert X; k_fill; intro X
    refine wpAny_call ?_
    w_strict (k_dflt k_enter)
    w_strict (k_steps)
    all_goals first
      | exact endT3I ret (by k_asm) (by first | (with_reducible assumption) | ((rename News _ _ _ _ => nN9); (repeat (first | (with_reducible exact nN9) | (replace nN9 := hd_skip nN9))); done) | ((rename News _ _ _ _ => nN9); (repeat (first | (with_reducible exact nN9) | (replace nN9 := hd_u1 nN9))); done) | ((rename News _ _ _ _ => nN9); (repeat (first | (with_reducible exact nN9) | (replace nN9 := hd_u2 nN9))); done) | k_asm | (refine' cb_drop ?cbN ?cbS; (case cbN => assumption); (case cbS => kcj_all))) (by first | (with_reducible assumption) | exact lt_of_all (by with_reducible assumption) | exact lt_of_all1 (by with_reducible assumption) | exact lt_of_all2 (by with_reducible assumption) | exact lt_of_all3 (by with_reducible assumption) | exact lt_of_all4 (by with_reducible assumption) | exact lt_of_all5 (by with_reducible assumption) | exact lt_of_all6 (by with_reducible assumption) | exact lt_of_all7 (by with_reducible assumption) | exact lt_of_all8 (by with_reducible assumption) | exact lt_of_all9 (by with_reducible assumption) | exact lt_of_all10 (by with_reducible assumption) | exact lt_of_all11 (by with_reducible assumption) | exact lt_of_all12 (by with_reducible assumption) | exact lt_of_all13 (by with_reducible assumption) | exact lt_of_all14 (by with_reducible assumption) | exact lt_of_all15 (by with_reducible assumption) | exact lt_of_all16 (by with_reducible assumption) | exact lt_of_all17 (by with_reducible assumption) | exact lt_of_all18 (by with_reducible assumption) | exact lt_of_all19 (by with_reducible assumption) | exact lt_of_all20 (by with_reducible assumption) | exact lt_of_all21 (by with_reducible assumption) | exact lt_of_all22 (by with_reducible assumption) | exact lt_of_all23 (by with_reducible assumption) | exact lt_of_all24 (by with_reducible assumption) | assumption) (if_pos (by assumption)).symm (congrArg (fun f => vU f a b c) (if_pos (by assumption)).symm) (congrArg (fun f => vV f a b c) (if_pos (by assumption)).symm)
      | exact endT3I ret (by k_asm) (by first | (with_reducible assumption) | ((rename News _ _ _ _ => nN9); (repeat (first | (with_reducible exact nN9) | (replace nN9 := hd_skip nN9))); done) | ((rename News _ _ _ _ => nN9); (repeat (first | (with_reducible exact nN9) | (replace nN9 := hd_u1 nN9))); done) | ((rename News _ _ _ _ => nN9); (repeat (first | (with_reducible exact nN9) | (replace nN9 := hd_u2 nN9))); done) | k_asm | (refine' cb_drop ?cbN ?cbS; (case cbN => assumption); (case cbS => kcj_all))) (by first | (with_reducible assumption) | exact lt_of_all (by with_reducible assumption) | exact lt_of_all1 (by with_reducible assumption) | exact lt_of_all2 (by with_reducible assumption) | exact lt_of_all3 (by with_reducible assumption) | exact lt_of_all4 (by with_reducible assumption) | exact lt_of_all5 (by with_reducible assumption) | exact lt_of_all6 (by with_reducible assumption) | exact lt_of_all7 (by with_reducible assumption) | exact lt_of_all8 (by with_reducible assumption) | exact lt_of_all9 (by with_reducible assumption) | exact lt_of_all10 (by with_reducible assumption) | exact lt_of_all11 (by with_reducible assumption) | exact lt_of_all12 (by with_reducible assumption) | exact lt_of_all13 (by with_reducible assumption) | exact lt_of_all14 (by with_reducible assumption) | exact lt_of_all15 (by with_reducible assumption) | exact lt_of_all16 (by with_reducible assumption) | exact lt_of_all17 (by with_reducible assumption) | exact lt_of_all18 (by with_reducible assumption) | exact lt_of_all19 (by with_reducible assumption) | exact lt_of_all20 (by with_reducible assumption) | exact lt_of_all21 (by with_reducible assumption) | exact lt_of_all22 (by with_reducible assumption) | exact lt_of_all23 (by with_reducible assumption) | exact lt_of_all24 (by with_reducible assumption) | assumption) (if_neg (by assumption)).symm (congrArg (fun f => vU f a b c) (if_neg (by assumption)).symm) (congrArg (fun f => vV f a b c) (if_neg (by assumption)).symm)
theorem fcOf_range (a b c : Int) : 0 ≤ fcOf a b c ∧ fcOf a b c < 6 := by
  unfold fcOf
  rcases lac_range a b c with e | e | e <;> rw [e] <;> split <;> omega
theorem wr_sX {f u v c : Int} (h0 : 0 ≤ f) (h6 : f < 6) (hc : c = 1073741823) (u0 : -4000000000 < u) (u1 : u < 4000000000) (v0 : -4000000000 < v) (v1 : v < 4000000000) : Sm (fX f u v + fX f 0 0 * c) := by
  subst hc; unfold fX; (repeat' split) <;> constructor <;> omega
theorem wr_sY {f u v c : Int} (h0 : 0 ≤ f) (h6 : f < 6) (hc : c = 1073741823) (u0 : -4000000000 < u) (u1 : u < 4000000000) (v0 : -4000000000 < v) (v1 : v < 4000000000) : Sm (fY f u v + fY f 0 0 * c) := by
  subst hc; unfold fY; (repeat' split) <;> constructor <;> omega
theorem wr_sZ {f u v c : Int} (h0 : 0 ≤ f) (h6 : f < 6) (hc : c = 1073741823) (u0 : -4000000000 < u) (u1 : u < 4000000000) (v0 : -4000000000 < v) (v1 : v < 4000000000) : Sm (fZ f u v + fZ f 0 0 * c) := by
  subst hc; unfold fZ; (repeat' split) <;> constructor <;> omega
theorem wr_nz {f u v c : Int} (h0 : 0 ≤ f) (h6 : f < 6) (hc : c = 1073741823) : ¬ (fX f u v + fX f 0 0 * c = 0 ∧ fY f u v + fY f 0 0 * c = 0 ∧ fZ f u v + fZ f 0 0 * c = 0) := by
  subst hc
  have h : f = 0 ∨ f = 1 ∨ f = 2 ∨ f = 3 ∨ f = 4 ∨ f = 5 := by omega
  rintro ⟨x, y, z⟩
  rcases h with rfl | rfl | rfl | rfl | rfl | rfl <;> simp [fX, fY, fZ] at x y z
local macro_rules | `(tactic| walk_at "call ref") => `(tactic| (k_here; (k_dflt (show wpAny _ _ (call (Value.ref 576) [Value.ref _] _) _ _ _)); k_dflt (refine' c_xyzface ?kH ?kp0 ?kp1 ?kp2 ?kp3 ?kp4 ?_; (case kH => ktr_rel); (case kp0 => krn_off); (case kp1 => first | with_reducible assumption | exact ⟨by omega, by omega⟩ | (with_reducible exact wr_sX (by omega) (by omega) (by omega) (by omega) (by omega) (by omega) (by omega)) | (with_reducible exact wr_sY (by omega) (by omega) (by omega) (by omega) (by omega) (by omega) (by omega)) | (with_reducible exact wr_sZ (by omega) (by omega) (by omega) (by omega) (by omega) (by omega) (by omega))); (case kp2 => first | with_reducible assumption | exact ⟨by omega, by omega⟩ | (with_reducible exact wr_sX (by omega) (by omega) (by omega) (by omega) (by omega) (by omega) (by omega)) | (with_reducible exact wr_sY (by omega) (by omega) (by omega) (by omega) (by omega) (by omega) (by omega)) | (with_reducible exact wr_sZ (by omega) (by omega) (by omega) (by omega) (by omega) (by omega) (by omega))); (case kp3 => first | with_reducible assumption | exact ⟨by omega, by omega⟩ | (with_reducible exact wr_sX (by omega) (by omega) (by omega) (by omega) (by omega) (by omega) (by omega)) | (with_reducible exact wr_sY (by omega) (by omega) (by omega) (by omega) (by omega) (by omega) (by omega)) | (with_reducible exact wr_sZ (by omega) (by omega) (by omega) (by omega) (by omega) (by omega) (by omega))); (case kp4 => first | with_reducible assumption | omega | (with_reducible exact wr_nz (by omega) (by omega) (by omega)))); intro D' ta' tb' tc' h' tk2' F' N' l1; (try k_lt l1); (try k_dflt (dsimp only [PySem.W.CmpBack])); (try k_sweep)))
def wU (f a b c : Int) : Int := if 0 < fD f a b c then vU f a b c else 0
def wV (f a b c : Int) : Int := if 0 < fD f a b c then vV f a b c else 0
theorem c_facexyz {x : Addr} {f a b c : Int} {tf : Tok} (H : Here w 4 A h₀ L m s news) (hp : PtIn w news x a b c) (ha : Sm a) (hb : Sm b) (hc : Sm c) (hf : 0 ≤ f ∧ f < 6) (ret : RetT3B h₀ L m news s Q (decide (0 < fD f a b c)) (wU f a b c) (wV f a b c)) :
    wpAny (model PySem.Challenge.rw_fb0050_01.row.prog w) A (call (.ref 583) [.int f tf, .ref x]) Q E s := by
  cases H with
  | mk B F X N T hkk hd hu =>
  cases hp with
  | mk h1 h2 h3 =>
    have hf6 : f = 0 ∨ f = 1 ∨ f = 2 ∨ f = 3 ∨ f = 4 ∨ f = 5 := by omega
    w_on
    revert X; k_fill; intro X
    rcases hf6 with rfl | rfl | rfl | rfl | rfl | rfl
    all_goals refine wpAny_call ?_
    all_goals w_strict (k_dflt k_enter)
    all_goals w_strict (k_steps)
    all_goals first
      | exact endT3B ret (by k_asm) (by first | (with_reducible assumption) | ((rename News _ _ _ _ => nN9); (repeat (first | (with_reducible exact nN9) | (replace nN9 := hd_skip nN9))); done) | ((rename News _ _ _ _ => nN9); (repeat (first | (with_reducible exact nN9) | (replace nN9 := hd_u1 nN9))); done) | ((rename News _ _ _ _ => nN9); (repeat (first | (with_reducible exact nN9) | (replace nN9 := hd_u2 nN9))); done) | k_asm | (refine' cb_drop ?cbN ?cbS; (case cbN => assumption); (case cbS => kcj_all))) (by first | (with_reducible assumption) | exact lt_of_all (by with_reducible assumption) | exact lt_of_all1 (by with_reducible assumption) | exact lt_of_all2 (by with_reducible assumption) | exact lt_of_all3 (by with_reducible assumption) | exact lt_of_all4 (by with_reducible assumption) | exact lt_of_all5 (by with_reducible assumption) | exact lt_of_all6 (by with_reducible assumption) | exact lt_of_all7 (by with_reducible assumption) | exact lt_of_all8 (by with_reducible assumption) | exact lt_of_all9 (by with_reducible assumption) | exact lt_of_all10 (by with_reducible assumption) | exact lt_of_all11 (by with_reducible assumption) | exact lt_of_all12 (by with_reducible assumption) | exact lt_of_all13 (by with_reducible assumption) | exact lt_of_all14 (by with_reducible assumption) | exact lt_of_all15 (by with_reducible assumption) | exact lt_of_all16 (by with_reducible assumption) | exact lt_of_all17 (by with_reducible assumption) | exact lt_of_all18 (by with_reducible assumption) | exact lt_of_all19 (by with_reducible assumption) | exact lt_of_all20 (by with_reducible assumption) | exact lt_of_all21 (by with_reducible assumption) | exact lt_of_all22 (by with_reducible assumption) | exact lt_of_all23 (by with_reducible assumption) | exact lt_of_all24 (by with_reducible assumption) | assumption) (by simp only [fD_0, fD_1, fD_2, fD_3, fD_4, fD_5]; exact (decide_eq_true (by omega)).symm) (by unfold wU; rw [if_pos (by simp only [fD_0, fD_1, fD_2, fD_3, fD_4, fD_5]; omega)]) (by unfold wV; rw [if_pos (by simp only [fD_0, fD_1, fD_2, fD_3, fD_4, fD_5]; omega)])
      | exact endT3B ret (by k_asm) (by first | (with_reducible assumption) | ((rename News _ _ _ _ => nN9); (repeat (first | (with_reducible exact nN9) | (replace nN9 := hd_skip nN9))); done) | ((rename News _ _ _ _ => nN9); (repeat (first | (with_reducible exact nN9) | (replace nN9 := hd_u1 nN9))); done) | ((rename News _ _ _ _ => nN9); (repeat (first | (with_reducible exact nN9) | (replace nN9 := hd_u2 nN9))); done) | k_asm | (refine' cb_drop ?cbN ?cbS; (case cbN => assumption); (case cbS => kcj_all))) (by first | (with_reducible assumption) | exact lt_of_all (by with_reducible assumption) | exact lt_of_all1 (by with_reducible assumption) | exact lt_of_all2 (by with_reducible assumption) | exact lt_of_all3 (by with_reducible assumption) | exact lt_of_all4 (by with_reducible assumption) | exact lt_of_all5 (by with_reducible assumption) | exact lt_of_all6 (by with_reducible assumption) | exact lt_of_all7 (by with_reducible assumption) | exact lt_of_all8 (by with_reducible assumption) | exact lt_of_all9 (by with_reducible assumption) | exact lt_of_all10 (by with_reducible assumption) | exact lt_of_all11 (by with_reducible assumption) | exact lt_of_all12 (by with_reducible assumption) | exact lt_of_all13 (by with_reducible assumption) | exact lt_of_all14 (by with_reducible assumption) | exact lt_of_all15 (by with_reducible assumption) | exact lt_of_all16 (by with_reducible assumption) | exact lt_of_all17 (by with_reducible assumption) | exact lt_of_all18 (by with_reducible assumption) | exact lt_of_all19 (by with_reducible assumption) | exact lt_of_all20 (by with_reducible assumption) | exact lt_of_all21 (by with_reducible assumption) | exact lt_of_all22 (by with_reducible assumption) | exact lt_of_all23 (by with_reducible assumption) | exact lt_of_all24 (by with_reducible assumption) | assumption) (by simp only [fD_0, fD_1, fD_2, fD_3, fD_4, fD_5]; exact (decide_eq_false (by omega)).symm) (by unfold wU; rw [if_neg (by simp only [fD_0, fD_1, fD_2, fD_3, fD_4, fD_5]; omega)]) (by unfold wV; rw [if_neg (by simp only [fD_0, fD_1, fD_2, fD_3, fD_4, fD_5]; omega)])
local macro_rules | `(tactic| walk_at "call ref") => `(tactic| (k_here; (with_reducible show wpAny _ _ (call (Value.ref 583) [Value.int _ _, Value.ref _] _) _ _ _); k_dflt (refine' c_facexyz ?kH ?kp0 ?kp1 ?kp2 ?kp3 ?kp4 ?_; (case kH => ktr_rel); (case kp0 => krn_off); (case kp1 => first | with_reducible assumption | exact ⟨by omega, by omega⟩ | exact ⟨by l_fact, by l_fact⟩); (case kp2 => first | with_reducible assumption | exact ⟨by omega, by omega⟩ | exact ⟨by l_fact, by l_fact⟩); (case kp3 => first | with_reducible assumption | exact ⟨by omega, by omega⟩ | exact ⟨by l_fact, by l_fact⟩); (case kp4 => first | with_reducible assumption | omega | decide | l_fact)); intro D' tb' tc' h' tk2' F' N' l1; (try k_lt l1); (try k_dflt (dsimp only [PySem.W.CmpBack])); (try k_sweep)))
theorem r_and {prog : Program} {a b : Int} {t u : Tok} {Q : Value → Shared → Prop} (hb : 0 ≤ b) (h : ∀ v, v = Builtin.bitAnd a b → 0 ≤ v → v ≤ b → Q (.int v s.toks) { s with toks := s.toks + 1 }) :
    wpAny (model prog w) A (binaryOp .BitAnd (.int a t) (.int b u)) Q E s := and_int (h _ rfl (bitAnd_range a hb).1 (bitAnd_range a hb).2)
theorem r_iand {prog : Program} {a b : Int} {t u : Tok} {Q : Value → Shared → Prop} (hb : 0 ≤ b) (h : ∀ v, v = Builtin.bitAnd a b → 0 ≤ v → v ≤ b → Q (.int v s.toks) { s with toks := s.toks + 1 }) :
    wpAny (model prog w) A (inplaceOp .BitAnd (.int a t) (.int b u)) Q E s := iand_int (h _ rfl (bitAnd_range a hb).1 (bitAnd_range a hb).2)
theorem r_shl {prog : Program} {a n : Int} (c : Int) {t u : Tok} {Q : Value → Shared → Prop} (hn : 0 ≤ n) (hn2 : n ≤ 1000000) (ha : a.natAbs < 2 ^ 64) (hc : (2 : Int) ^ n.toNat = c) (h : ∀ v, v = a * c → Q (.int v s.toks) { s with toks := s.toks + 1 }) :
    wpAny (model prog w) A (binaryOp .LShift (.int a t) (.int n u)) Q E s := lshift_int_small hn hn2 ha (h _ (by rw [hc]))
theorem r_shr {prog : Program} {a n : Int} (c : Int) {t u : Tok} {Q : Value → Shared → Prop} (hn : 0 ≤ n) (hc : (2 : Int) ^ n.toNat = c) (hc0 : 0 < c) (h : ∀ v, v = a / c → Q (.int v s.toks) { s with toks := s.toks + 1 }) :
    wpAny (model prog w) A (binaryOp .RShift (.int a t) (.int n u)) Q E s := rshift_int hn (h _ (by rw [hc]; exact Int.fdiv_eq_ediv_of_nonneg _ (Int.le_of_lt hc0)))
theorem r_shrS {prog : Program} {a n : Int} {t u : Tok} {Q : Value → Shared → Prop} (hn : 0 ≤ n) (h : ∀ v, v = a.fdiv (2 ^ n.toNat) → Q (.int v s.toks) { s with toks := s.toks + 1 }) :
    wpAny (model prog w) A (binaryOp .RShift (.int a t) (.int n u)) Q E s := rshift_int hn (h _ rfl)
theorem r_shlS {prog : Program} {a n : Int} {t u : Tok} {Q : Value → Shared → Prop} (hn : 0 ≤ n) (hn2 : n ≤ 1000000) (ha : a.natAbs < 2 ^ 64) (h : ∀ v, v = a * 2 ^ n.toNat → Q (.int v s.toks) { s with toks := s.toks + 1 }) :
    wpAny (model prog w) A (binaryOp .LShift (.int a t) (.int n u)) Q E s := lshift_int_small hn hn2 ha (h _ rfl)

/-- the list at an address of the written part -/
def seqAt (K : Frag) (a : Addr) : List Value := match K.lookup a with
  | some o => (match o.data with | .seq vs _ => if o.cls == .type "list" then vs.toList else [] | _ => [])
  | none => []
def okInt : Value → Bool
  | .int v _ => decide (0 ≤ v) && decide (v < 1024)
  | _ => false
def toI : Value → Int
  | .int v _ => v
  | _ => 0
def okRow (K : Frag) : Value → Bool
  | .ref a => (seqAt K a).length == 128 && (seqAt K a).all okInt
  | _ => false
def posGood (K : Frag) : Bool := (seqAt K 147).length == 8 && (seqAt K 147).all (okRow K)
theorem pos_good (P : Params) : posGood (hd.heap_39 P) = true := by kernel_rfl
/-- the row of the table at u, the number at y -/
def rowAt (K : Frag) (u : Int) : Value := (seqAt K 147).getD u.toNat .none
def tabv (K : Frag) (u y : Int) : Int := match rowAt K u with
  | .ref a => toI ((seqAt K a).getD y.toNat .none)
  | _ => 0
theorem seqAt_list {K : Frag} {a : Addr} {h : Heap} (X : K.In h) (hne : seqAt K a ≠ []) : h.IsList a (seqAt K a).toArray := by
  unfold seqAt at hne ⊢
  cases e : K.lookup a with
  | none => rw [e] at hne; exact absurd rfl hne
  | some o =>
    rw [e] at hne
    dsimp only at hne ⊢
    cases hd : o.data with
    | seq vs n =>
      rw [hd] at hne
      dsimp only at hne ⊢
      split at hne
      · rename_i hc
        rw [if_pos hc]
        exact ⟨o, X _ _ e, beq_iff_eq.mp hc, n, by rw [hd]⟩
      · exact absurd rfl hne
    | _ => rw [hd] at hne; exact absurd rfl hne
theorem rowAt_ok {K : Frag} (hg : posGood K = true) {u : Int} (h0 : 0 ≤ u) (h8 : u < 8) : ∃ a, rowAt K u = .ref a ∧ (seqAt K 147)[u.toNat]? = some (.ref a) ∧ (seqAt K a).length = 128 ∧ (seqAt K a).all okInt = true := by
  obtain ⟨g1, g2⟩ := Bool.and_eq_true_iff.mp hg
  have hlen : (seqAt K 147).length = 8 := beq_iff_eq.mp g1
  have hlt : u.toNat < (seqAt K 147).length := by omega
  have hm := List.all_eq_true.mp g2 _ (List.getElem_mem hlt)
  unfold rowAt
  rw [List.getD_eq_getElem?_getD, List.getElem?_eq_getElem hlt]
  cases e : (seqAt K 147)[u.toNat] with
  | ref a =>
    rw [e] at hm
    obtain ⟨m1, m2⟩ := Bool.and_eq_true_iff.mp hm
    exact ⟨a, rfl, rfl, beq_iff_eq.mp m1, m2⟩
  | _ => rw [e] at hm; cases hm
theorem tab_ok {K : Frag} (hg : posGood K = true) {u y : Int} (h0 : 0 ≤ u) (h8 : u < 8) (y0 : 0 ≤ y) (y1 : y < 128) : ∃ a t, rowAt K u = .ref a ∧ (seqAt K a).length = 128 ∧ (seqAt K a)[y.toNat]? = some (.int (tabv K u y) t) ∧ 0 ≤ tabv K u y ∧ tabv K u y < 1024 := by
  obtain ⟨a, e, _, hl, ha⟩ := rowAt_ok hg h0 h8
  have hlt : y.toNat < (seqAt K a).length := by omega
  have hm := List.all_eq_true.mp ha _ (List.getElem_mem hlt)
  have ht : tabv K u y = toI (seqAt K a)[y.toNat] := by
    unfold tabv; rw [e]; dsimp only
    rw [List.getD_eq_getElem?_getD, List.getElem?_eq_getElem hlt]; rfl
  cases ev : (seqAt K a)[y.toNat] with
  | int v t =>
    rw [ev] at hm ht
    obtain ⟨m1, m2⟩ := Bool.and_eq_true_iff.mp hm
    have ht' : tabv K u y = v := ht
    refine ⟨a, t, e, hl, ?_, ?_, ?_⟩
    · rw [List.getElem?_eq_getElem hlt, ev, ht']
    · rw [ht']; exact of_decide_eq_true m1
    · rw [ht']; exact of_decide_eq_true m2
  | _ => rw [ev] at hm; cases hm
theorem r_pos {prog : Program} {K : Frag} {value slice : Expr} {u : Int} {t : Tok} {Q : Value → Shared → Prop} (hg : posGood K = true) (F : Fr h₀ L s.heap m) (X₀ : K.In h₀) (h0 : 0 ≤ u) (h8 : u < 8)
    (h : ∀ a, rowAt K u = .ref a → Q (.ref a) s) (hs : subscripted slice false (.ref 147) (.int u t) = operate [.ref 147, .int u t] (getItem (.ref 147) (.int u t)) := by with_unfolding_all rfl) :
    wpAny (model prog w) A (subscriptTail value slice (.ref 147) (.int u t)) Q E s := by
  obtain ⟨a, e, e2, _⟩ := rowAt_ok hg h0 h8
  have hL := seqAt_list (X₀.keeps F.keep) (a := 147) (fun q => by rw [q] at e2; cases e2)
  exact tail_any hL.typeIs slot_list_getitem.lookup (wpAny_getItem_list hL h0 (by omega) (by simpa using e2) (h a e)) hs
theorem r_row {prog : Program} {K : Frag} {value slice : Expr} {a : Addr} {u y : Int} {t : Tok} {Q : Value → Shared → Prop} (hr : rowAt K u = .ref a) (hg : posGood K = true) (F : Fr h₀ L s.heap m) (X₀ : K.In h₀) (h0 : 0 ≤ u) (h8 : u < 8) (y0 : 0 ≤ y) (y1 : y < 128)
    (h : ∀ v tv, v = tabv K u y → 0 ≤ v → v < 1024 → Q (.int v tv) s) (hs : subscripted slice false (.ref a) (.int y t) = operate [.ref a, .int y t] (getItem (.ref a) (.int y t)) := by with_unfolding_all rfl) :
    wpAny (model prog w) A (subscriptTail value slice (.ref a) (.int y t)) Q E s := by
  obtain ⟨a', tv, e, hl, e2, v0, v1⟩ := tab_ok hg h0 h8 y0 y1
  rw [hr] at e; cases e
  have hL := seqAt_list (X₀.keeps F.keep) (a := a) (fun q => by rw [q] at hl; cases hl)
  exact tail_any hL.typeIs slot_list_getitem.lookup (wpAny_getItem_list hL y0 (by omega) (by simpa using e2) (h _ tv rfl v0 v1)) hs

/-- a turn's end: the frame's word J, the ledger as it stood -/
def TurnEnd (h₀ : Heap) (L : Addr) (s : Shared) (news : List (Addr × Obj)) (J : (Str → Option Value) → Prop) (f : Flow) (s₂ : Shared) : Prop :=
  f = .next ∧ ∃ h' tk' m', s₂ = { s with heap := h', toks := tk' } ∧ Fr h₀ L h' m' ∧ News h₀ L h' news ∧ J m'
theorem krs_ind {prog : Program} {env : Env} {x : Str} {body : List Stmt} {Q : Flow → Shared → Prop} {I : Addr} {a c : Int} {n : Nat} (J : Nat → (Str → Option Value) → Prop) (hI : ∀ p ∈ news, p.1 < I)
    (step : ∀ i m t h tk, i < n → J i m → Fr h₀ env.locals h (fun y => if y = x then some (.int (a + (i : Int) * c) t) else m y) → News h₀ env.locals h ((I, krsIt (a + ((i + 1 : Nat) : Int) * c) ((n : Int) - ((i + 1 : Nat) : Int)) c) :: news) →
      wpAny (model prog w) A (execs body env) (TurnEnd h₀ env.locals s ((I, krsIt (a + ((i + 1 : Nat) : Int) * c) ((n : Int) - ((i + 1 : Nat) : Int)) c) :: news) (J (i + 1))) E { s with heap := h, toks := tk })
    (done : ∀ m h tk, J n m → Fr h₀ env.locals h m → News h₀ env.locals h news → Q .next { s with heap := h, toks := tk }) :
    ∀ k i m, i + k = n → J i m → KrsRest prog w A E h₀ env x body Q s I a c n k i m news := by
  intro k
  induction k with
  | zero =>
    intro i m hi hJ
    obtain rfl : i = n := by omega
    exact fun h tk F N => done m h tk hJ F N
  | succ k ih =>
    intro i m hi hJ t h tk F N
    refine wpAny_mono (step i m t h tk (by omega) hJ F N) (fun f s₂ p => ?_) fun _ _ e => e
    obtain ⟨rfl, h', tk', m', rfl, F', N', hJ'⟩ := p
    show UnrEnd _ _ _ _ _ _ _
    exact ⟨h', tk', m', news, rfl, F', N', fun p hp => Nat.ne_of_lt (hI p hp), ih (i + 1) m' (by omega) hJ'⟩
section
local macro_rules | `(tactic| walk_at "eval Name") => `(tactic| (k_here; k_dflt (refine' ld ?k1 ?k2 ?_; (case k1 => k_asm); (case k2 => with_unfolding_all first | exact rfl | assumption); k_whole)))
local macro_rules | `(tactic| walk_at "loadName") => `(tactic| (k_here; k_dflt (refine' ldn ?k1 ?k2 ?_; (case k1 => k_asm); (case k2 => with_unfolding_all first | exact rfl | assumption); k_whole)))
local macro_rules | `(tactic| walk_at "binaryOp BitAnd int int") => `(tactic| (k_here; (with_reducible refine r_and ?hb ?_); (case hb => first | omega | decide); intro v' hv' hv0' hv1'))
local macro_rules | `(tactic| walk_at "inplaceOp BitAnd int int") => `(tactic| (k_here; (with_reducible refine r_iand ?hb ?_); (case hb => first | omega | decide); intro v' hv' hv0' hv1'))
local macro_rules | `(tactic| walk_at "binaryOp RShift int int") => `(tactic| (k_here; first
  | ((with_reducible show wpAny _ _ (binaryOp _ (Value.int _ _) (Value.int 7 _)) _ _ _); (with_reducible refine r_shr 128 (by decide) (by decide) (by decide) ?_); intro v' hv')
  | ((with_reducible show wpAny _ _ (binaryOp _ (Value.int _ _) (Value.int 2 _)) _ _ _); (with_reducible refine r_shr 4 (by decide) (by decide) (by decide) ?_); intro v' hv')
  | ((with_reducible show wpAny _ _ (binaryOp _ (Value.int _ _) (Value.int 24 _)) _ _ _); (with_reducible refine r_shr 16777216 (by decide) (by decide) (by decide) ?_); intro v' hv')
  | ((with_reducible refine r_shrS ?hn ?_); (case hn => omega); intro v' hv')))
local macro_rules | `(tactic| walk_at "binaryOp LShift int int") => `(tactic| (k_here; first
  | ((with_reducible show wpAny _ _ (binaryOp _ (Value.int _ _) (Value.int 4 _)) _ _ _); (with_reducible refine r_shl 16 (by decide) (by decide) (by omega) (by decide) ?_); intro v' hv')
  | ((with_reducible show wpAny _ _ (binaryOp _ (Value.int _ _) (Value.int 2 _)) _ _ _); (with_reducible refine r_shl 4 (by decide) (by decide) (by omega) (by decide) ?_); intro v' hv')
  | ((with_reducible show wpAny _ _ (binaryOp _ (Value.int _ _) (Value.int 1 _)) _ _ _); (with_reducible refine r_shl 2 (by decide) (by decide) (by omega) (by decide) ?_); intro v' hv')
  | ((with_reducible show wpAny _ _ (binaryOp _ (Value.int _ _) (Value.int (4 + 2) _)) _ _ _); (with_reducible refine r_shl 64 (by decide) (by decide) (by omega) (by decide) ?_); intro v' hv')
  | ((with_reducible refine r_shlS ?hn ?hm ?ha ?_); (case hn => omega); (case hm => omega); (case ha => omega); intro v' hv')))
local macro_rules | `(tactic| walk_at "subscriptTail Name BinOp ref int") => `(tactic| (k_here; (with_reducible show wpAny _ _ (subscriptTail _ _ (Value.ref 147) (Value.int _ _)) _ _ _); k_dflt (refine' r_pos (pos_good _) ?F ?X ?a ?b ?_; (case F => k_asm); (case X => k_asm); (case a => omega); (case b => omega)); intro a' ha'))
local macro_rules | `(tactic| walk_at "subscriptTail Subscript Name BinOp BinOp ref int") => `(tactic| (k_here; k_dflt (refine' r_row ?hr (pos_good _) ?F ?X ?a ?b ?c ?d ?_; (case hr => with_reducible assumption); (case F => k_asm); (case X => k_asm); (case a => omega); (case b => omega); (case c => omega); (case d => omega)); intro v' tv' hv' hv0' hv1'))
def fB2 (i j v B : Int) : Int := (B + Builtin.bitAnd (i.fdiv (2 ^ (v * 4).toNat)) (1 * 16 - 1) * 64) + Builtin.bitAnd (j.fdiv (2 ^ (v * 4).toNat)) (1 * 16 - 1) * 4
def fT (K : Frag) (i j v B : Int) : Int := tabv K (fB2 i j v B / 128) (Builtin.bitAnd (fB2 i j v B) 127)
def fN (K : Frag) (i j v N B : Int) : Int := Builtin.bitOr N (fT K i j v B / 4 * 2 ^ (v * 2 * 4).toNat)
def fBn (K : Frag) (i j v B : Int) : Int := Builtin.bitAnd (fT K i j v B) (Builtin.bitOr 1 2)
def ffS (K : Frag) (f i j : Int) : Nat → Int × Int
  | 0 => (f * 2 ^ (61 - 1 : Int).toNat, Builtin.bitAnd f 1)
  | k + 1 => (fN K i j (7 + (k : Int) * -1) (ffS K f i j k).1 (ffS K f i j k).2, fBn K i j (7 + (k : Int) * -1) (ffS K f i j k).2)
@[irreducible] def ffid (K : Frag) (f i j : Int) : Int := Int.fmod ((ffS K f i j 8).1 * 2 + 1) 18446744073709551615
/-- what the loop's frame holds ahead of turn k -/
def FJ (K : Frag) (f i j : Int) (tf ti tj : Tok) (k : Nat) (m : Str → Option Value) : Prop :=
  m (Str.ofString "cls") = some (.ref 551) ∧ m (Str.ofString "face") = some (.int f tf) ∧ m (Str.ofString "i") = some (.int i ti) ∧ m (Str.ofString "j") = some (.int j tj) ∧
    ∃ tn tb, m (Str.ofString "n") = some (.int (ffS K f i j k).1 tn) ∧ m (Str.ofString "bits") = some (.int (ffS K f i j k).2 tb) ∧ 0 ≤ (ffS K f i j k).2 ∧ (ffS K f i j k).2 < 4
abbrev cellEntry (w : World) (tk : Tok) (v : Int) (tv : Tok) : DictEntry := { hash := PyData.keyHash w.params (Str.ofString "_CellId__id"), key := .str (Str.ofString "_CellId__id") tk, val := .int v tv }
abbrev RetCell (w : World) (h₀ : Heap) (L : Addr) (m : Str → Option Value) (news : List (Addr × Obj)) (s : Shared) (Q : Value → Shared → Prop) (v : Int) : Prop :=
  ∀ (x d : Addr) (tk tv : Tok) (h' : Heap) (tk' : Nat), Fr h₀ L h' m → News h₀ L h' ((x, instObj 551 d) :: (d, dictOf [cellEntry w tk v tv] 1) :: news) →
    (∀ p ∈ news, p.1 < d) → d < x → Q (.ref x) { s with heap := h', toks := tk' }
theorem endCell {v v' : Int} {x d : Addr} {tk tv : Tok} {h' : Heap} {tk' : Nat} (ret : RetCell w h₀ L m news s Q v) (F : Fr h₀ L h' m) (N : News h₀ L h' ((x, instObj 551 d) :: (d, dictOf [cellEntry w tk v' tv] 1) :: news))
    (l1 : ∀ p ∈ news, p.1 < d) (l2 : d < x) (e : v' = v) : Q (.ref x) { s with heap := h', toks := tk' } := by
  subst e
  exact ret _ _ _ _ _ _ F N l1 l2
theorem c_ffij {q : Addr} {f i j : Int} {tf ti tj : Tok} (H : Here w 3 A h₀ L m s news) (hq : (q, methodObj (.ref 235) (.ref 551)) ∈ news) (hf : 0 ≤ f ∧ f < 6) (hi : 0 ≤ i ∧ i < 1073741824) (hj : 0 ≤ j ∧ j < 1073741824)
    (ret : RetCell w h₀ L m news s Q (ffid (hd.heap_39 w.params) f i j)) :
    wpAny (model PySem.Challenge.rw_fb0050_01.row.prog w) A (call (.ref q) [.int f tf, .int i ti, .int j tj]) Q E s := by
  cases H with
  | mk B F X N T hkk hd hu =>
    w_on
    revert X; k_fill; intro X
    w_strict (k_dflt (refine' call_meth ?k1 ?k2 ?_; (case k1 => k_asm); (case k2 => k_mem); k_whole; k_enter))
    iterate 37 (w_strict walk1)
    w_strict (k_here; l_hasStore; krs_unr)
    refine krs_ind (FJ (_root_.Mine.hd.heap_39 w.params) f i j tf ti tj) (by first | (with_reducible assumption) | exact lt_of_all (by with_reducible assumption) | exact lt_of_all1 (by with_reducible assumption) | exact lt_of_all2 (by with_reducible assumption) | exact lt_of_all3 (by with_reducible assumption) | exact lt_of_all4 (by with_reducible assumption) | exact lt_of_all5 (by with_reducible assumption) | exact lt_of_all6 (by with_reducible assumption) | exact lt_of_all7 (by with_reducible assumption) | exact lt_of_all8 (by with_reducible assumption) | exact lt_of_all9 (by with_reducible assumption) | exact lt_of_all10 (by with_reducible assumption) | exact lt_of_all11 (by with_reducible assumption) | exact lt_of_all12 (by with_reducible assumption) | exact lt_of_all13 (by with_reducible assumption) | exact lt_of_all14 (by with_reducible assumption) | exact lt_of_all15 (by with_reducible assumption) | exact lt_of_all16 (by with_reducible assumption) | exact lt_of_all17 (by with_reducible assumption) | exact lt_of_all18 (by with_reducible assumption) | exact lt_of_all19 (by with_reducible assumption) | exact lt_of_all20 (by with_reducible assumption) | exact lt_of_all21 (by with_reducible assumption) | exact lt_of_all22 (by with_reducible assumption) | exact lt_of_all23 (by with_reducible assumption) | exact lt_of_all24 (by with_reducible assumption) | assumption) ?step ?done 8 0 _ rfl ?init
    case init =>
      subst_vars
      exact ⟨rfl, rfl, rfl, rfl, _, _, rfl, rfl, by assumption, Int.lt_of_le_of_lt (by assumption) (by decide)⟩
    case step =>
      intro k m1 t1 h1 tk1 hk hJ F1 N1
      obtain ⟨hc, hfa, hii, hjj, tn, tb, hn, hb, hb0, hb4⟩ := hJ
      have hor : Builtin.bitOr 1 2 = 3 := by decide
      (show wpAny _ _ _ _ _ _)
      k_unmd
      k_fold
      w_strict (k_steps)
      clear hor
      subst_vars
      refine ⟨rfl, _, _, _, rfl, by k_asm, by k_asm, ?_⟩
      with_unfolding_all exact ⟨hc, hfa, hii, hjj, _, _, rfl, rfl, by assumption, Int.lt_of_le_of_lt (by assumption) (by decide)⟩
    case done =>
      intro m1 h1 tk1 hJ F1 N1
      obtain ⟨hc, hfa, hii, hjj, tn, tb, hn, hb, hb0, hb4⟩ := hJ
      w_strict (k_steps)
      exact endCell ret (by k_asm) (by k_asm) (by first | (with_reducible assumption) | exact lt_of_all (by with_reducible assumption) | exact lt_of_all1 (by with_reducible assumption) | exact lt_of_all2 (by with_reducible assumption) | exact lt_of_all3 (by with_reducible assumption) | exact lt_of_all4 (by with_reducible assumption) | exact lt_of_all5 (by with_reducible assumption) | exact lt_of_all6 (by with_reducible assumption) | exact lt_of_all7 (by with_reducible assumption) | exact lt_of_all8 (by with_reducible assumption) | exact lt_of_all9 (by with_reducible assumption) | exact lt_of_all10 (by with_reducible assumption) | exact lt_of_all11 (by with_reducible assumption) | exact lt_of_all12 (by with_reducible assumption) | exact lt_of_all13 (by with_reducible assumption) | exact lt_of_all14 (by with_reducible assumption) | exact lt_of_all15 (by with_reducible assumption) | exact lt_of_all16 (by with_reducible assumption) | exact lt_of_all17 (by with_reducible assumption) | exact lt_of_all18 (by with_reducible assumption) | exact lt_of_all19 (by with_reducible assumption) | exact lt_of_all20 (by with_reducible assumption) | exact lt_of_all21 (by with_reducible assumption) | exact lt_of_all22 (by with_reducible assumption) | exact lt_of_all23 (by with_reducible assumption) | exact lt_of_all24 (by with_reducible assumption) | assumption) (by assumption) (by unfold ffid; rfl)
theorem r_max {prog : Program} {a b : Int} {t u : Tok} {Q : Value → Shared → Prop} (hh : A.handled = none) (F : Fr h₀ L s.heap m) (N : News h₀ L s.heap news)
    (h : ∀ v tv h' tk, v = max a b → Fr h₀ L h' m → News h₀ L h' news → Q (.int v tv) { s with heap := h', toks := tk }) : wpAny (model prog w) A (call (.builtin "max") [.int a t, .int b u]) Q E s :=
  max_two_N hh F N fun h' tk F' N' => h _ _ h' tk (by split <;> omega) F' N'
theorem r_min {prog : Program} {a b : Int} {t u : Tok} {Q : Value → Shared → Prop} (hh : A.handled = none) (F : Fr h₀ L s.heap m) (N : News h₀ L s.heap news)
    (h : ∀ v tv h' tk, v = min a b → Fr h₀ L h' m → News h₀ L h' news → Q (.int v tv) { s with heap := h', toks := tk }) : wpAny (model prog w) A (call (.builtin "min") [.int a t, .int b u]) Q E s :=
  min_two_N hh F N fun h' tk F' N' => h _ _ h' tk (by split <;> omega) F' N'
local macro_rules | `(tactic| walk_at "call builtin:max") => `(tactic| (k_here; (with_reducible show wpAny _ _ (call (Value.builtin _) [Value.int _ _, Value.int _ _] _) _ _ _); k_dflt (refine' r_max (by rfl) ?kF ?kN ?_; (case kF => k_asm); (case kN => k_asm)); intro v' tv' h' tk' hv' F' N'; (try k_sweep)))
local macro_rules | `(tactic| walk_at "call builtin:min") => `(tactic| (k_here; (with_reducible show wpAny _ _ (call (Value.builtin _) [Value.int _ _, Value.int _ _] _) _ _ _); k_dflt (refine' r_min (by rfl) ?kF ?kN ?_; (case kF => k_asm); (case kN => k_asm)); intro v' tv' h' tk' hv' F' N'; (try k_sweep)))
@[irreducible] def stij (s : Int) : Int := max 0 (min (1073741824 - 1) (s / 16777216))
theorem stij_range (s : Int) : 0 ≤ stij s ∧ stij s < 1073741824 := by unfold stij; omega
theorem c_stij {q : Addr} {i : Int} {ti : Tok} (H : Here w 2 A h₀ L m s news) (hq : (q, methodObj (.ref 265) (.ref 551)) ∈ news) (ret : RetI h₀ L m news s Q (stij i)) :
    wpAny (model PySem.Challenge.rw_fb0050_01.row.prog w) A (call (.ref q) [.int i ti]) Q E s := by
  cases H with
  | mk B F X N T hkk hd hu =>
    w_on
    revert X; k_fill; intro X
    w_strict (k_dflt (refine' call_meth ?k1 ?k2 ?_; (case k1 => k_asm); (case k2 => k_mem); k_whole; k_enter))
    w_strict (k_steps)
    subst_vars
    exact retI_of ret (by unfold stij; rfl) _ _ _ (by k_asm) (by first | (with_reducible assumption) | ((rename News _ _ _ _ => nN9); (repeat (first | (with_reducible exact nN9) | (replace nN9 := hd_skip nN9))); done) | ((rename News _ _ _ _ => nN9); (repeat (first | (with_reducible exact nN9) | (replace nN9 := hd_u1 nN9))); done) | ((rename News _ _ _ _ => nN9); (repeat (first | (with_reducible exact nN9) | (replace nN9 := hd_u2 nN9))); done) | k_asm | (refine' cb_drop ?cbN ?cbS; (case cbN => assumption); (case cbS => kcj_all)))
theorem c_ceq {x y d d' : Addr} {a b : Int} {tk tv tk' tv' : Tok} (H : Here w 3 A h₀ L m s news) (h1 : (x, instObj 551 d) ∈ news) (h2 : (d, dictOf [cellEntry w tk a tv] 1) ∈ news) (h3 : (y, instObj 551 d') ∈ news) (h4 : (d', dictOf [cellEntry w tk' b tv'] 1) ∈ news) (ret : RetB h₀ L m news s Q (decide (a = b))) :
    wpAny (model PySem.Challenge.rw_fb0050_01.row.prog w) A (call (.ref 183) [.ref x, .ref y]) Q E s := by
  cases H with
  | mk B F X N T hkk hd hu =>
    w_on
    revert X; k_fill; intro X
    refine wpAny_call ?_
    w_strict (k_dflt k_enter)
    w_strict (k_steps)
    exact retB_of ret (by rw [Bool.eq_iff_iff]; simp) _ _ (by k_asm) (by first | (with_reducible assumption) | ((rename News _ _ _ _ => nN9); (repeat (first | (with_reducible exact nN9) | (replace nN9 := hd_skip nN9))); done) | ((rename News _ _ _ _ => nN9); (repeat (first | (with_reducible exact nN9) | (replace nN9 := hd_u1 nN9))); done) | ((rename News _ _ _ _ => nN9); (repeat (first | (with_reducible exact nN9) | (replace nN9 := hd_u2 nN9))); done) | k_asm | (refine' cb_drop ?cbN ?cbS; (case cbN => assumption); (case cbS => kcj_all)))
theorem c_cne {x y d d' : Addr} {a b : Int} {tk tv tk' tv' : Tok} (H : Here w 3 A h₀ L m s news) (h1 : (x, instObj 551 d) ∈ news) (h2 : (d, dictOf [cellEntry w tk a tv] 1) ∈ news) (h3 : (y, instObj 551 d') ∈ news) (h4 : (d', dictOf [cellEntry w tk' b tv'] 1) ∈ news) (ret : RetB h₀ L m news s Q (!decide (a = b))) :
    wpAny (model PySem.Challenge.rw_fb0050_01.row.prog w) A (call (.ref 190) [.ref x, .ref y]) Q E s := by
  cases H with
  | mk B F X N T hkk hd hu =>
    w_on
    revert X; k_fill; intro X
    refine wpAny_call ?_
    w_strict (k_dflt k_enter)
    w_strict (k_steps)
    exact retB_of ret (by rw [Bool.eq_iff_iff]; simp) _ _ (by k_asm) (by first | (with_reducible assumption) | ((rename News _ _ _ _ => nN9); (repeat (first | (with_reducible exact nN9) | (replace nN9 := hd_skip nN9))); done) | ((rename News _ _ _ _ => nN9); (repeat (first | (with_reducible exact nN9) | (replace nN9 := hd_u1 nN9))); done) | ((rename News _ _ _ _ => nN9); (repeat (first | (with_reducible exact nN9) | (replace nN9 := hd_u2 nN9))); done) | k_asm | (refine' cb_drop ?cbN ?cbS; (case cbN => assumption); (case cbS => kcj_all)))
local macro_rules | `(tactic| walk_at "call ref") => `(tactic| (k_here; (k_dflt (show wpAny _ _ (call (Value.ref _) [Value.int _ _, Value.int _ _, Value.int _ _] _) _ _ _)); k_dflt (refine' c_ffij ?kH ?kp0 ?kp1 ?kp2 ?kp3 ?_; (case kH => ktr_rel); (case kp0 => k_mem); (case kp1 => first | omega | (with_reducible exact fcOf_range _ _ _)); (case kp2 => first | omega | (with_reducible exact stij_range _)); (case kp3 => first | omega | (with_reducible exact stij_range _))); intro x' d' tk' tv' h' tk2' F' N' l1 l2; (try k_lt l1); (try k_lt2 l2); (try k_dflt (dsimp only [PySem.W.CmpBack])); (try k_sweep)))
local macro_rules | `(tactic| walk_at "call ref") => `(tactic| (k_here; (with_reducible show wpAny _ _ (call (Value.ref 183) [Value.ref _, Value.ref _] _) _ _ _); k_dflt (refine' c_ceq ?kH ?kp0 ?kp1 ?kp2 ?kp3 ?_; (case kH => ktr_rel); (case kp0 => k_mem); (case kp1 => k_mem); (case kp2 => k_mem); (case kp3 => k_mem)); intro h' tk' F' N'; (try k_dflt (dsimp only [PySem.W.CmpBack])); (try k_sweep)))
local macro_rules | `(tactic| walk_at "call ref") => `(tactic| (k_here; (with_reducible show wpAny _ _ (call (Value.ref 190) [Value.ref _, Value.ref _] _) _ _ _); k_dflt (refine' c_cne ?kH ?kp0 ?kp1 ?kp2 ?kp3 ?_; (case kH => ktr_rel); (case kp0 => k_mem); (case kp1 => k_mem); (case kp2 => k_mem); (case kp3 => k_mem)); intro h' tk' F' N'; (try k_dflt (dsimp only [PySem.W.CmpBack])); (try k_sweep)))
local macro_rules | `(tactic| walk_at "call ref") => `(tactic| (k_here; (k_dflt (show wpAny _ _ (call (Value.ref _) [Value.int _ _] _) _ _ _)); k_dflt (refine' c_stij ?kH ?kp0 ?_; (case kH => ktr_rel); (case kp0 => k_mem)); intro t' h' tk' F' N'; (try k_dflt (dsimp only [PySem.W.CmpBack])); (try k_sweep)))
def clp (i : Int) : Int := max (-1) (min 1073741824 i)
def wU' (i : Int) : Int := 1 * (clp i * 2 + 1 - 1073741824)
def wPX (f i j : Int) : Int := fX f (wU' i) (wU' j) + fX f 0 0 * (1073741824 - 1)
def wPY (f i j : Int) : Int := fY f (wU' i) (wU' j) + fY f 0 0 * (1073741824 - 1)
def wPZ (f i j : Int) : Int := fZ f (wU' i) (wU' j) + fZ f 0 0 * (1073741824 - 1)
@[irreducible] def wrid (K : Frag) (f i j : Int) : Int :=
  ffid K (fcOf (wPX f i j) (wPY f i j) (wPZ f i j)) (stij (vU (fcOf (wPX f i j) (wPY f i j) (wPZ f i j)) (wPX f i j) (wPY f i j) (wPZ f i j) + 1 * 2 ^ Int.toNat 53)) (stij (vV (fcOf (wPX f i j) (wPY f i j) (wPZ f i j)) (wPX f i j) (wPY f i j) (wPZ f i j) + 1 * 2 ^ Int.toNat 53))
theorem c_wrap {q : Addr} {f i j : Int} {tf ti tj : Tok} (H : Here w 5 A h₀ L m s news) (hq : (q, methodObj (.ref 245) (.ref 551)) ∈ news) (hf : 0 ≤ f ∧ f < 6)
    (ret : RetCell w h₀ L m news s Q (wrid (hd.heap_39 w.params) f i j)) :
    wpAny (model PySem.Challenge.rw_fb0050_01.row.prog w) A (call (.ref q) [.int f tf, .int i ti, .int j tj]) Q E s := by
  cases H with
  | mk B F X N T hkk hd hu =>
    w_on
    revert X; k_fill; intro X
    w_strict (k_dflt (refine' call_meth ?k1 ?k2 ?_; (case k1 => k_asm); (case k2 => k_mem); k_whole; k_enter))
    w_strict (k_steps)
    subst_vars
    exact endCell ret (by k_asm) (by first | (with_reducible assumption) | ((rename News _ _ _ _ => nN9); (repeat (first | (with_reducible exact nN9) | (replace nN9 := hd_skip nN9))); done) | ((rename News _ _ _ _ => nN9); (repeat (first | (with_reducible exact nN9) | (replace nN9 := hd_u1 nN9))); done) | ((rename News _ _ _ _ => nN9); (repeat (first | (with_reducible exact nN9) | (replace nN9 := hd_u2 nN9))); done) | k_asm | (refine' cb_drop ?cbN ?cbS; (case cbN => assumption); (case cbS => kcj_all))) (by first | (with_reducible assumption) | exact lt_of_all (by with_reducible assumption) | exact lt_of_all1 (by with_reducible assumption) | exact lt_of_all2 (by with_reducible assumption) | exact lt_of_all3 (by with_reducible assumption) | exact lt_of_all4 (by with_reducible assumption) | exact lt_of_all5 (by with_reducible assumption) | exact lt_of_all6 (by with_reducible assumption) | exact lt_of_all7 (by with_reducible assumption) | exact lt_of_all8 (by with_reducible assumption) | exact lt_of_all9 (by with_reducible assumption) | exact lt_of_all10 (by with_reducible assumption) | exact lt_of_all11 (by with_reducible assumption) | exact lt_of_all12 (by with_reducible assumption) | exact lt_of_all13 (by with_reducible assumption) | exact lt_of_all14 (by with_reducible assumption) | exact lt_of_all15 (by with_reducible assumption) | exact lt_of_all16 (by with_reducible assumption) | exact lt_of_all17 (by with_reducible assumption) | exact lt_of_all18 (by with_reducible assumption) | exact lt_of_all19 (by with_reducible assumption) | exact lt_of_all20 (by with_reducible assumption) | exact lt_of_all21 (by with_reducible assumption) | exact lt_of_all22 (by with_reducible assumption) | exact lt_of_all23 (by with_reducible assumption) | exact lt_of_all24 (by with_reducible assumption) | assumption) (by assumption) (by unfold wrid; rfl)
local macro_rules | `(tactic| walk_at "call ref") => `(tactic| (k_here; (k_dflt (show wpAny _ _ (call (Value.ref _) [Value.int _ _, Value.int _ _, Value.int _ _] _) _ _ _)); k_dflt (refine' c_wrap ?kH ?kp0 ?kp1 ?_; (case kH => ktr_rel); (case kp0 => k_mem); (case kp1 => first | with_reducible assumption | omega | decide | l_fact)); intro x' d' tk' tv' h' tk2' F' N' l1 l2; (try k_lt l1); (try k_lt2 l2); (try k_dflt (dsimp only [PySem.W.CmpBack])); (try k_sweep)))
end
local macro_rules | `(tactic| walk_at "call ref") => `(tactic| (k_here; (k_dflt (show wpAny _ _ (call (Value.ref _) [Value.int _ _, Value.int _ _, Value.int _ _] _) _ _ _)); k_dflt (refine' c_ffij ?kH ?kp0 ?kp1 ?kp2 ?kp3 ?_; (case kH => ktr_rel); (case kp0 => k_mem); (case kp1 => first | omega | (with_reducible exact fcOf_range _ _ _)); (case kp2 => first | omega | (with_reducible exact stij_range _)); (case kp3 => first | omega | (with_reducible exact stij_range _))); intro x' d' tk' tv' h' tk2' F' N' l1 l2; (try k_lt l1); (try k_lt2 l2); (try k_dflt (dsimp only [PySem.W.CmpBack])); (try k_sweep)))
local macro_rules | `(tactic| walk_at "call ref") => `(tactic| (k_here; (with_reducible show wpAny _ _ (call (Value.ref 183) [Value.ref _, Value.ref _] _) _ _ _); k_dflt (refine' c_ceq ?kH ?kp0 ?kp1 ?kp2 ?kp3 ?_; (case kH => ktr_rel); (case kp0 => k_mem); (case kp1 => k_mem); (case kp2 => k_mem); (case kp3 => k_mem)); intro h' tk' F' N'; (try k_dflt (dsimp only [PySem.W.CmpBack])); (try k_sweep)))
local macro_rules | `(tactic| walk_at "call ref") => `(tactic| (k_here; (with_reducible show wpAny _ _ (call (Value.ref 190) [Value.ref _, Value.ref _] _) _ _ _); k_dflt (refine' c_cne ?kH ?kp0 ?kp1 ?kp2 ?kp3 ?_; (case kH => ktr_rel); (case kp0 => k_mem); (case kp1 => k_mem); (case kp2 => k_mem); (case kp3 => k_mem)); intro h' tk' F' N'; (try k_dflt (dsimp only [PySem.W.CmpBack])); (try k_sweep)))
local macro_rules | `(tactic| walk_at "call ref") => `(tactic| (k_here; (k_dflt (show wpAny _ _ (call (Value.ref _) [Value.int _ _] _) _ _ _)); k_dflt (refine' c_stij ?kH ?kp0 ?_; (case kH => ktr_rel); (case kp0 => k_mem)); intro t' h' tk' F' N'; (try k_dflt (dsimp only [PySem.W.CmpBack])); (try k_sweep)))
local macro_rules | `(tactic| walk_at "call ref") => `(tactic| (k_here; (k_dflt (show wpAny _ _ (call (Value.ref _) [Value.int _ _, Value.int _ _, Value.int _ _] _) _ _ _)); k_dflt (refine' c_wrap ?kH ?kp0 ?kp1 ?_; (case kH => ktr_rel); (case kp0 => k_mem); (case kp1 => first | with_reducible assumption | omega | decide | l_fact)); intro x' d' tk' tv' h' tk2' F' N' l1 l2; (try k_lt l1); (try k_lt2 l2); (try k_dflt (dsimp only [PySem.W.CmpBack])); (try k_sweep)))
abbrev stObj (sl : Addr) (c : Int) (t : Tok) : Obj := { cls := .type "list", data := .seq #[.ref sl, .int c t] }
abbrev slObj (its : Array Value) : Obj := { cls := .type "list", data := .seq its }
theorem r_len {prog : Program} {a : Addr} {its : Array Value} {xs : List Int} {Q : Value → Shared → Prop} (N : News h₀ L s.heap news) (hm : (a, slObj its) ∈ news) (hX : IntsAre its.toList xs) (hl : xs.length ≤ 60) (h : ∀ z tz tk, z = (xs.length : Int) → Q (.int z tz) { s with toks := tk }) :
    wpAny (model prog w) A (call (.builtin "len") [.ref a]) Q E s := by
  have e : its.size = xs.length := by rw [← Array.length_toList]; exact hX.length
  exact len_list ⟨_, (N _ hm).1, rfl, _, rfl⟩ (by omega) (h _ _ _ (by rw [e]))
theorem r_item {prog : Program} {value slice : Expr} {a : Addr} {its : Array Value} {xs : List Int} {k : Int} {u : Tok} {Q : Value → Shared → Prop} (N : News h₀ L s.heap news) (hm : (a, slObj its) ∈ news) (hX : IntsAre its.toList xs) (h0 : 0 ≤ k) (h1 : k < xs.length) (h2 : k < 1000000) (h : ∀ x tx, Q (.int x tx) s)
    (hs : subscripted slice false (.ref a) (.int k u) = operate [.ref a, .int k u] (getItem (.ref a) (.int k u)) := by with_unfolding_all rfl) :
    wpAny (model prog w) A (subscriptTail value slice (.ref a) (.int k u)) Q E s := by
  have e : its.toList.length = xs.length := hX.length
  have hlt : k.toNat < xs.length := by omega
  obtain ⟨t, et⟩ := hX.get k.toNat _ (List.getElem?_eq_getElem hlt)
  have hL : s.heap.IsList a its := ⟨_, (N _ hm).1, rfl, _, rfl⟩
  exact tail_any hL.typeIs slot_list_getitem.lookup (wpAny_getItem_list hL h0 (by omega) (by rw [← Array.getElem?_toList]; exact et) (h _ _)) hs
theorem r_mod {prog : Program} {a b : Int} {t u : Tok} {Q : Value → Shared → Prop} (hb : 0 < b) (hb2 : b < 1000000000000) (h : ∀ v, v = a.fmod b → 0 ≤ v → v < b → Q (.int v s.toks) { s with toks := s.toks + 1 }) :
    wpAny (model prog w) A (binaryOp .Mod (.int a t) (.int b u)) Q E s := by
  refine mod_int (by omega) (h _ rfl ?_ ?_)
  · rw [Int.fmod_eq_emod_of_nonneg _ (by omega)]; exact Int.emod_nonneg _ (by omega)
  · rw [Int.fmod_eq_emod_of_nonneg _ (by omega)]; exact Int.emod_lt_of_pos _ hb
local macro_rules | `(tactic| walk_at "call builtin:len") => `(tactic| (k_here; (with_reducible show wpAny _ _ (call (Value.builtin "len") [Value.ref _]) _ _ _); k_dflt (refine' r_len ?N ?m ?X ?l ?_; (case N => k_asm); (case m => k_mem); (case X => k_asm); (case l => k_asm)); intro z' tz' tk' hz'))
local macro_rules | `(tactic| walk_at "subscriptTail Subscript Name Constant BinOp ref int") => `(tactic| (k_here; k_dflt (refine' r_item ?N ?m ?X ?a ?b ?c ?_; (case N => k_asm); (case m => k_mem); (case X => k_asm); (case a => omega); (case b => omega); (case c => omega)); intro x' tx'))
local macro_rules | `(tactic| walk_at "binaryOp Mod int int") => `(tactic| (k_here; (with_reducible refine r_mod ?a ?b ?_); (case a => omega); (case b => omega); intro v' hv' hv0' hv1'))
local macro_rules | `(tactic| walk_at "setItem ref int") => `(tactic| (k_here; k_dflt (refine' ki_set ?F ?N ?a ?b ?e (Upd.head (by assumption)) ?_; (case F => k_asm); (case N => k_asm); (case a => decide); (case b => decide); (case e => rfl)); (intro h' F' N'; (try dsimp only [List.nil_append, List.cons_append] at N'); (try k_sweep))))
theorem c_next {st sl : Addr} {c lim : Int} {t tl : Tok} {its : Array Value} {xs : List Int} {g : Obj → List (Addr × Obj)} (H : Here w 2 A h₀ L m s news) (hU : UpdF st (stObj sl c t) news g) (hS : (sl, slObj its) ∈ news) (hX : IntsAre its.toList xs) (hl : xs.length ≤ 60) (hc : 0 ≤ c ∧ c < 1000) (hm : 0 < lim ∧ lim < 100000)
    (ret : ∀ (v : Int) (tv t' : Tok) (h' : Heap) (tk' : Nat), 0 ≤ v → v < lim → Fr h₀ L h' m → News h₀ L h' (g (stObj sl (c + 1) t')) → Q (.int v tv) { s with heap := h', toks := tk' }) :
    wpAny (model PySem.Challenge.rw_fb0050_01.row.prog w) A (call (.ref 611) [.ref st, .int lim tl]) Q E s := by
  cases H with
  | mk B F X N T hkk hd hu =>
    obtain ⟨pre, post, e1, e2, h1, h2⟩ := hU.split
    subst e1
    have N1 : News h₀ L s.heap ((st, stObj sl c t) :: (pre ++ post)) := fun p hp => N p (by
      rcases List.mem_cons.mp hp with rfl | hp
      · exact List.mem_append.mpr (.inr (List.mem_cons_self ..))
      · rcases List.mem_append.mp hp with hp | hp
        · exact List.mem_append.mpr (.inl hp)
        · exact List.mem_append.mpr (.inr (List.mem_cons_of_mem _ hp)))
    have hne : ∀ p ∈ pre ++ post, p.1 ≠ st := fun p hp => by
      rcases List.mem_append.mp hp with hp | hp
      · exact h1 p hp
      · exact h2 p hp
    have hS1 : (sl, slObj its) ∈ (st, stObj sl c t) :: (pre ++ post) := by
      rcases List.mem_append.mp hS with hp | hp
      · exact List.mem_cons_of_mem _ (List.mem_append.mpr (.inl hp))
      · rcases List.mem_cons.mp hp with hp | hp
        · rw [hp]; exact List.mem_cons_self ..
        · exact List.mem_cons_of_mem _ (List.mem_append.mpr (.inr hp))
    have hS2 : (sl, slObj its) ∈ pre ++ post := by
      rcases List.mem_cons.mp hS1 with hp | hp
      · injection hp with hp1 hp2
        injection hp2 with _ _ hp3 _
        injection hp3 with hp4 _
        rw [hp4] at hX
        cases hX
      · exact hp
    clear N hS hS1
    have back : ∀ {h : Heap} {o' : Obj}, News h₀ L h ((st, o') :: (pre ++ post)) → News h₀ L h (g o') := fun NN => by
      rw [e2]
      exact fun p hp => NN p (by
        rcases List.mem_append.mp hp with hp | hp
        · exact List.mem_cons_of_mem _ (List.mem_append.mpr (.inl hp))
        · rcases List.mem_cons.mp hp with rfl | hp
          · exact List.mem_cons_self ..
          · exact List.mem_cons_of_mem _ (List.mem_append.mpr (.inr hp)))
    clear hU e2 h1 h2
    generalize pre ++ post = rest at N1 hne hS2 back
    w_on
    revert X; k_fill; intro X
    refine wpAny_call ?_
    w_strict (k_dflt k_enter)
    w_strict (k_steps)
    all_goals exact ret _ _ _ _ _ (by first | omega | assumption) (by first | omega | assumption) (by k_asm) (back (by k_asm))
section
abbrev rowObj (a b c : Int) (ta tb tc : Tok) (n : Nat) : Obj := { cls := .type "list", data := .seq #[.int a ta, .int b tb, .int c tc] n }
theorem c_row {x : Addr} {a b c : Int} (H : Here w 2 A h₀ L m s news) (hp : PtIn w news x a b c)
    (ret : ∀ (D : Addr) (ta tb tc : Tok) (h' : Heap) (tk' : Nat), Fr h₀ L h' m → News h₀ L h' ((D, rowObj a b c ta tb tc 0) :: news) → (∀ p ∈ news, p.1 < D) → Q (.ref D) { s with heap := h', toks := tk' }) :
    wpAny (model PySem.Challenge.rw_fb0050_01.row.prog w) A (call (.ref 618) [.ref x]) Q E s := by
  cases H with
  | mk B F X N T hkk hd hu =>
  cases hp with
  | mk h1 h2 h3 =>
    w_on
    revert X; k_fill; intro X
    refine wpAny_call ?_
    w_strict (k_dflt k_enter)
    w_strict (k_steps)
    exact ret _ _ _ _ _ _ (by k_asm) (by k_asm) (by first | (with_reducible assumption) | exact lt_of_all (by with_reducible assumption) | exact lt_of_all1 (by with_reducible assumption) | exact lt_of_all2 (by with_reducible assumption) | exact lt_of_all3 (by with_reducible assumption) | exact lt_of_all4 (by with_reducible assumption) | exact lt_of_all5 (by with_reducible assumption) | exact lt_of_all6 (by with_reducible assumption) | exact lt_of_all7 (by with_reducible assumption) | exact lt_of_all8 (by with_reducible assumption) | exact lt_of_all9 (by with_reducible assumption) | exact lt_of_all10 (by with_reducible assumption) | exact lt_of_all11 (by with_reducible assumption) | exact lt_of_all12 (by with_reducible assumption) | exact lt_of_all13 (by with_reducible assumption) | exact lt_of_all14 (by with_reducible assumption) | exact lt_of_all15 (by with_reducible assumption) | exact lt_of_all16 (by with_reducible assumption) | exact lt_of_all17 (by with_reducible assumption) | exact lt_of_all18 (by with_reducible assumption) | exact lt_of_all19 (by with_reducible assumption) | exact lt_of_all20 (by with_reducible assumption) | exact lt_of_all21 (by with_reducible assumption) | exact lt_of_all22 (by with_reducible assumption) | exact lt_of_all23 (by with_reducible assumption) | exact lt_of_all24 (by with_reducible assumption) | assumption)
theorem rd_neg {a b : Int} : (2 * (0 - a) * 2 ^ Int.toNat 53 + (0 - b)).fdiv (2 * (0 - b)) = qt a b := by
  have e1 : (2 * (0 - a) * 2 ^ Int.toNat 53 + (0 - b)) = -(a * 18014398509481984 + b) := by
    have : (2 : Int) ^ Int.toNat 53 = 9007199254740992 := by decide
    rw [this]; omega
  have e2 : (2 * (0 - b)) = -(2 * b) := by omega
  rw [e1, e2, Int.neg_fdiv_neg]; rfl
theorem rd_pos {a b : Int} : (2 * a * 2 ^ Int.toNat 53 + b).fdiv (2 * b) = qt a b := by
  have e1 : (2 * a * 2 ^ Int.toNat 53 + b) = a * 18014398509481984 + b := by
    have : (2 : Int) ^ Int.toNat 53 = 9007199254740992 := by decide
    rw [this]; omega
  rw [e1]; rfl
theorem c_rounded {a b : Int} {ta tb : Tok} (H : Here w 1 A h₀ L m s news) (ha : Sm a) (hb : Sm b) (hb0 : b ≠ 0) (ret : RetI h₀ L m news s Q (qt a b)) :
    wpAny (model PySem.Challenge.rw_fb0050_01.row.prog w) A (call (.ref 625) [.int a ta, .int b tb]) Q E s := by
  cases H with
  | mk B F X N T hkk hd hu =>
    obtain ⟨ha1, ha2⟩ := ha; obtain ⟨hb1, hb2⟩ := hb
    w_on
    revert X; k_fill; intro X
    refine wpAny_call ?_
    w_strict (k_dflt k_enter)
    w_strict (k_steps)
    all_goals first
      | exact retI_of ret rd_neg _ _ _ (by with_reducible assumption) (by first | (with_reducible assumption) | ((rename News _ _ _ _ => nN9); (repeat (first | (with_reducible exact nN9) | (replace nN9 := hd_skip nN9))); done) | ((rename News _ _ _ _ => nN9); (repeat (first | (with_reducible exact nN9) | (replace nN9 := hd_u1 nN9))); done) | ((rename News _ _ _ _ => nN9); (repeat (first | (with_reducible exact nN9) | (replace nN9 := hd_u2 nN9))); done) | k_asm | (refine' cb_drop ?cbN ?cbS; (case cbN => assumption); (case cbS => kcj_all)))
      | exact retI_of ret rd_pos _ _ _ (by with_reducible assumption) (by first | (with_reducible assumption) | ((rename News _ _ _ _ => nN9); (repeat (first | (with_reducible exact nN9) | (replace nN9 := hd_skip nN9))); done) | ((rename News _ _ _ _ => nN9); (repeat (first | (with_reducible exact nN9) | (replace nN9 := hd_u1 nN9))); done) | ((rename News _ _ _ _ => nN9); (repeat (first | (with_reducible exact nN9) | (replace nN9 := hd_u2 nN9))); done) | k_asm | (refine' cb_drop ?cbN ?cbS; (case cbN => assumption); (case cbS => kcj_all)))
theorem gr_e0 {A B C M : Int} (h : [A, B, C].getD (0 + ((0 : Nat) : Int)).toNat 0 = M) : A = M := h
theorem gr_e1 {A B C M : Int} (h : [A, B, C].getD (0 + ((0 + 1 : Nat) : Int)).toNat 0 = M) : B = M := h
theorem gr_e2 {A B C M : Int} (h : [A, B, C].getD (0 + ((0 + 1 + 1 : Nat) : Int)).toNat 0 = M) : C = M := h
theorem gr_n0 {A B C M : Int} (h : [A, B, C].getD (0 + ((0 : Nat) : Int)).toNat 0 ≠ M) : A ≠ M := h
theorem gr_n1 {A B C M : Int} (h : [A, B, C].getD (0 + ((0 + 1 : Nat) : Int)).toNat 0 ≠ M) : B ≠ M := h
theorem gr_n2 {A B C M : Int} (h : [A, B, C].getD (0 + ((0 + 1 + 1 : Nat) : Int)).toNat 0 ≠ M) : C ≠ M := h
@[irreducible] def ab (a : Int) : Int := if a < 0 then -a else a
@[irreducible] def mx3 (A B C : Int) : Int := max (max A B) C
theorem mx_ab (a : Int) : mx a = ab a := by unfold mx ab; (repeat' split) <;> omega
theorem mx3_of {A B C M : Int} (a' : M = A ∨ M = B ∨ M = C) (b' : A ≤ M ∧ B ≤ M ∧ C ≤ M) : M = mx3 A B C := by unfold mx3; omega
theorem r_abs {prog : Program} {a : Int} {t : Tok} {Q : Value → Shared → Prop} (h : ∀ v u tk, v = ab a → Q (.int v u) { s with toks := tk }) : wpAny (model prog w) A (call (.builtin "abs") [.int a t]) Q E s :=
  call_abs_int (fun u tk => by have := h _ u tk rfl; unfold ab at this; exact this)
theorem gr_x {x y r : Int} (a : r = x ∨ r = y) (b : x ≤ r ∧ y ≤ r) (h : x < y) : r = y := by omega
theorem gr_y {x y z r : Int} (h : x < z) (h' : y < z) (a : r = x ∨ r = y ∨ r = z) (b : x ≤ r ∧ y ≤ r ∧ z ≤ r) : r = z := by omega
theorem lac_is {a b c r A B C : Int} (hA : A = ab a) (hB : B = ab b) (hC : C = ab c) (h : (r = 0 ∧ C < A ∧ B < A) ∨ (r = 1 ∧ A ≤ B ∧ C < B) ∨ (r = 2 ∧ A ≤ C ∧ B ≤ C)) : r = lac a b c := by
  unfold lac
  rw [mx_ab, mx_ab, mx_ab, ← hA, ← hB, ← hC]
  (repeat' split) <;> omega
section
variable {a b c r A B C M1 M2 M3 : Int}
theorem gr_z {x y z r : Int} (a : r = mx3 x y z) (h : x < z) (h' : y < z) : r = z := by unfold mx3 at a; omega
theorem gr_2 (e2 : [A, B, C].getD (0 + ((0 + 1 + 1 : Nat) : Int)).toNat 0 = M3) (m3 : M3 = mx3 A B C) (hA : A = ab a) (hB : B = ab b) (hC : C = ab c) (hr : r = 0 + ((0 + 1 + 1 : Nat) : Int)) : r = lac a b c := by
  have e : C = M3 := e2
  exact lac_is hA hB hC (by unfold mx3 at m3; omega)
theorem gr_1 (e1 : [A, B, C].getD (0 + ((0 + 1 : Nat) : Int)).toNat 0 = M2) (e2 : [A, B, C].getD (0 + ((0 + 1 + 1 : Nat) : Int)).toNat 0 ≠ M3) (m2 : M2 = mx3 A B C) (m3 : M3 = mx3 A B C) (hA : A = ab a) (hB : B = ab b) (hC : C = ab c) (hr : r = 0 + ((0 + 1 : Nat) : Int)) : r = lac a b c := by
  have e : B = M2 := e1
  have e' : C ≠ M3 := e2
  exact lac_is hA hB hC (by unfold mx3 at m2 m3; omega)
theorem gr_0 (e1 : [A, B, C].getD (0 + ((0 + 1 : Nat) : Int)).toNat 0 ≠ M2) (e2 : [A, B, C].getD (0 + ((0 + 1 + 1 : Nat) : Int)).toNat 0 ≠ M3) (m2 : M2 = mx3 A B C) (m3 : M3 = mx3 A B C) (hA : A = ab a) (hB : B = ab b) (hC : C = ab c) (hr : r = 0 + ((0 : Nat) : Int)) : r = lac a b c := by
  have e : B ≠ M2 := e1
  have e' : C ≠ M3 := e2
  exact lac_is hA hB hC (by unfold mx3 at m2 m3; omega)
theorem gr_no (e0 : [A, B, C].getD (0 + ((0 : Nat) : Int)).toNat 0 ≠ M1) (e1 : [A, B, C].getD (0 + ((0 + 1 : Nat) : Int)).toNat 0 ≠ M2) (e2 : [A, B, C].getD (0 + ((0 + 1 + 1 : Nat) : Int)).toNat 0 ≠ M3) (m1 : M1 = mx3 A B C) (m2 : M2 = mx3 A B C) (m3 : M3 = mx3 A B C) : False := by
  have q0 : A ≠ M1 := e0
  have q1 : B ≠ M2 := e1
  have q2 : C ≠ M3 := e2
  unfold mx3 at m1 m2 m3; omega
end
theorem ne_up {l : List (Addr × Obj)} {d c : Addr} (h : ∀ p ∈ l, p.1 < d) (hd : @LE.le Nat _ d c) : ∀ p ∈ l, p.1 ≠ c := fun p hp => Nat.ne_of_lt (Nat.lt_of_lt_of_le (h p hp) hd)
local macro_rules | `(tactic| walk_at "call builtin:abs") => `(tactic| (k_here; (with_reducible refine r_abs ?_); intro v' u' tk' hv'))
local macro_rules | `(tactic| walk_at "call builtin:max") => `(tactic| (k_here; (with_reducible show wpAny _ _ (call (Value.builtin _) [Value.ref _]) _ _ _); (with_unfolding_all refine' kso_max ?k1 ?k2 ?k3 ?k4 ?k5 ?k6 ?_; (case k1 => k_asm); (case k2 => k_asm); (case k3 => kso_list); (case k4 => l_ints); (case k5 => kso_len); (case k6 => with_unfolding_all rfl); k_whole); intro h' M' t' k' F' N' a' b'; (try kso_open a'); (try kso_open b'); (try (replace a' := mx3_of a' b'; clear b')); (try k_sweep)))
local macro_rules | `(tactic| k_all) => `(tactic| exact ne_up (by assumption) (by (try dsimp only); omega))
theorem c_great {r : Addr} {a b c : Int} {ta tb tc : Tok} {n : Nat} (H : Here w 2 A h₀ L m s news) (hr : (r, rowObj a b c ta tb tc n) ∈ news) (ret : RetI h₀ L m news s Q (lac a b c)) :
    wpAny (model PySem.Challenge.rw_fb0050_01.row.prog w) A (call (.ref 637) [.ref r]) Q E s := by
  cases H with
  | mk B F X N T hkk hd hu =>
    w_on
    revert X; k_fill; intro X
    refine wpAny_call ?_
    w_strict (k_dflt k_enter)
    w_strict (k_steps)
    all_goals first
      | exact retI_of ret (gr_2 (by with_reducible assumption) (by with_reducible assumption) (by with_reducible assumption) (by with_reducible assumption) (by with_reducible assumption) (by first | with_reducible assumption | exact gr_x (by with_reducible assumption) (by with_reducible assumption) (by decide) | exact gr_z (by with_reducible assumption) (by decide) (by decide))) _ _ _ (by with_reducible assumption) (by first | (with_reducible assumption) | ((rename News _ _ _ _ => nN9); (repeat (first | (with_reducible exact nN9) | (replace nN9 := hd_skip nN9))); done) | ((rename News _ _ _ _ => nN9); (repeat (first | (with_reducible exact nN9) | (replace nN9 := hd_u1 nN9))); done) | ((rename News _ _ _ _ => nN9); (repeat (first | (with_reducible exact nN9) | (replace nN9 := hd_u2 nN9))); done) | k_asm | (refine' cb_drop ?cbN ?cbS; (case cbN => assumption); (case cbS => kcj_all)))
      | exact retI_of ret (gr_1 (by with_reducible assumption) (by with_reducible assumption) (by with_reducible assumption) (by with_reducible assumption) (by with_reducible assumption) (by with_reducible assumption) (by with_reducible assumption) (by first | with_reducible assumption | exact gr_x (by with_reducible assumption) (by with_reducible assumption) (by decide) | exact gr_z (by with_reducible assumption) (by decide) (by decide))) _ _ _ (by with_reducible assumption) (by first | (with_reducible assumption) | ((rename News _ _ _ _ => nN9); (repeat (first | (with_reducible exact nN9) | (replace nN9 := hd_skip nN9))); done) | ((rename News _ _ _ _ => nN9); (repeat (first | (with_reducible exact nN9) | (replace nN9 := hd_u1 nN9))); done) | ((rename News _ _ _ _ => nN9); (repeat (first | (with_reducible exact nN9) | (replace nN9 := hd_u2 nN9))); done) | k_asm | (refine' cb_drop ?cbN ?cbS; (case cbN => assumption); (case cbS => kcj_all)))
      | exact retI_of ret (gr_0 (by with_reducible assumption) (by with_reducible assumption) (by with_reducible assumption) (by with_reducible assumption) (by with_reducible assumption) (by with_reducible assumption) (by with_reducible assumption) (by first | with_reducible assumption | exact gr_x (by with_reducible assumption) (by with_reducible assumption) (by decide) | exact gr_z (by with_reducible assumption) (by decide) (by decide))) _ _ _ (by with_reducible assumption) (by first | (with_reducible assumption) | ((rename News _ _ _ _ => nN9); (repeat (first | (with_reducible exact nN9) | (replace nN9 := hd_skip nN9))); done) | ((rename News _ _ _ _ => nN9); (repeat (first | (with_reducible exact nN9) | (replace nN9 := hd_u1 nN9))); done) | ((rename News _ _ _ _ => nN9); (repeat (first | (with_reducible exact nN9) | (replace nN9 := hd_u2 nN9))); done) | k_asm | (refine' cb_drop ?cbN ?cbS; (case cbN => assumption); (case cbS => kcj_all)))
      | exact (gr_no (by with_reducible assumption) (by with_reducible assumption) (by with_reducible assumption) (by with_reducible assumption) (by with_reducible assumption) (by with_reducible assumption)).elim
local macro_rules | `(tactic| walk_at "call ref") => `(tactic| (k_here; (with_reducible show wpAny _ _ (call (Value.ref 618) [Value.ref _] _) _ _ _); k_dflt (refine' c_row ?kH ?kp ?_; (case kH => ktr_rel); (case kp => krn_off)); intro D' ta' tb' tc' h' tk' F' N' l1; (try k_lt l1); (try k_sweep)))
local macro_rules | `(tactic| walk_at "call ref") => `(tactic| (k_here; (with_reducible show wpAny _ _ (call (Value.ref 625) [Value.int _ _, Value.int _ _] _) _ _ _); k_dflt (refine' c_rounded ?kH ?kp0 ?kp1 ?kp2 ?_; (case kH => ktr_rel); (case kp0 => first | with_reducible assumption | exact ⟨by omega, by omega⟩ | exact ⟨by l_fact, by l_fact⟩); (case kp1 => first | with_reducible assumption | exact ⟨by omega, by omega⟩ | exact ⟨by l_fact, by l_fact⟩); (case kp2 => first | with_reducible assumption | omega | decide | l_fact)); intro t' h' tk' F' N'; (try k_dflt (dsimp only [PySem.W.CmpBack])); (try k_sweep)))
local macro_rules | `(tactic| walk_at "call ref") => `(tactic| (k_here; (k_dflt (show wpAny _ _ (call (Value.ref 637) [Value.ref _] _) _ _ _)); k_dflt (refine' c_great ?kH ?kp0 ?_; (case kH => ktr_rel); (case kp0 => k_mem)); intro t' h' tk' F' N'; (try k_dflt (dsimp only [PySem.W.CmpBack])); (try k_sweep)))
end
local macro_rules | `(tactic| walk_at "call ref") => `(tactic| (k_here; (with_reducible show wpAny _ _ (call (Value.ref 618) [Value.ref _] _) _ _ _); k_dflt (refine' c_row ?kH ?kp ?_; (case kH => ktr_rel); (case kp => krn_off)); intro D' ta' tb' tc' h' tk' F' N' l1; (try k_lt l1); (try k_sweep)))
local macro_rules | `(tactic| walk_at "call ref") => `(tactic| (k_here; (with_reducible show wpAny _ _ (call (Value.ref 625) [Value.int _ _, Value.int _ _] _) _ _ _); k_dflt (refine' c_rounded ?kH ?kp0 ?kp1 ?kp2 ?_; (case kH => ktr_rel); (case kp0 => first | with_reducible assumption | exact ⟨by omega, by omega⟩ | exact ⟨by l_fact, by l_fact⟩); (case kp1 => first | with_reducible assumption | exact ⟨by omega, by omega⟩ | exact ⟨by l_fact, by l_fact⟩); (case kp2 => first | with_reducible assumption | omega | decide | l_fact)); intro t' h' tk' F' N'; (try k_dflt (dsimp only [PySem.W.CmpBack])); (try k_sweep)))
local macro_rules | `(tactic| walk_at "call ref") => `(tactic| (k_here; (k_dflt (show wpAny _ _ (call (Value.ref 637) [Value.ref _] _) _ _ _)); k_dflt (refine' c_great ?kH ?kp0 ?_; (case kH => ktr_rel); (case kp0 => k_mem)); intro t' h' tk' F' N'; (try k_dflt (dsimp only [PySem.W.CmpBack])); (try k_sweep)))
section
theorem r_rowi {prog : Program} {value slice : Expr} {r : Addr} {a b c k : Int} {u ta tb tc : Tok} {n : Nat} {Q : Value → Shared → Prop} (N : News h₀ L s.heap news) (hm : (r, rowObj a b c ta tb tc n) ∈ news) (hk : 0 ≤ k ∧ k < 3) (h : ∀ t, Q (.int (pick3 k a b c) t) s)
    (hs : subscripted slice false (.ref r) (.int k u) = operate [.ref r, .int k u] (getItem (.ref r) (.int k u)) := by with_unfolding_all rfl) :
    wpAny (model prog w) A (subscriptTail value slice (.ref r) (.int k u)) Q E s := by
  have hL : s.heap.IsList r #[.int a ta, .int b tb, .int c tc] := ⟨_, (N _ hm).1, rfl, _, rfl⟩
  have hk3 : k = 0 ∨ k = 1 ∨ k = 2 := by omega
  rcases hk3 with rfl | rfl | rfl
  · exact tail_any hL.typeIs slot_list_getitem.lookup (wpAny_getItem_list hL (by decide) (by decide) rfl (h _)) hs
  · exact tail_any hL.typeIs slot_list_getitem.lookup (wpAny_getItem_list hL (by decide) (by decide) rfl (h _)) hs
  · exact tail_any hL.typeIs slot_list_getitem.lookup (wpAny_getItem_list hL (by decide) (by decide) rfl (h _)) hs
local macro_rules | `(tactic| walk_at "subscriptTail Name Name ref int") => `(tactic| (k_here; k_dflt (refine' r_rowi ?N ?m ?k ?_; (case N => k_asm); (case m => k_mem); (case k => omega)); intro t'; (try simp only [pick3_0, pick3_1, pick3_2])))
local macro_rules | `(tactic| walk_at "subscriptTail Name Constant ref int") => `(tactic| (k_here; k_dflt (refine' r_rowi ?N ?m ?k ?_; (case N => k_asm); (case m => k_mem); (case k => omega)); intro t'; (try simp only [pick3_0, pick3_1, pick3_2])))
theorem c_faces (H : Here w 1 A h₀ L m s news)
    (ret : ∀ (D d0 d1 d2 d3 d4 d5 : Addr) (ts : Nat → Tok) (h' : Heap) (tk' : Nat), Fr h₀ L h' m → News h₀ L h' ((D, { cls := .type "list", data := .seq #[.ref d0, .ref d1, .ref d2, .ref d3, .ref d4, .ref d5] }) :: (d5, tupObj [.int 2 (ts 30), .int 0 (ts 31), .int 1 (ts 32), .int 0 (ts 33), .int 0 (ts 34), .int 0 (ts 35)]) :: (d4, tupObj [.int 1 (ts 24), .int 0 (ts 25), .int 2 (ts 26), .int 1 (ts 27), .int 0 (ts 28), .int 0 (ts 29)]) :: (d3, tupObj [.int 0 (ts 18), .int 0 (ts 19), .int 2 (ts 20), .int 1 (ts 21), .int 1 (ts 22), .int 1 (ts 23)]) :: (d2, tupObj [.int 2 (ts 12), .int 1 (ts 13), .int 0 (ts 14), .int 0 (ts 15), .int 1 (ts 16), .int 0 (ts 17)]) :: (d1, tupObj [.int 1 (ts 6), .int 1 (ts 7), .int 0 (ts 8), .int 0 (ts 9), .int 2 (ts 10), .int 1 (ts 11)]) :: (d0, tupObj [.int 0 (ts 0), .int 1 (ts 1), .int 1 (ts 2), .int 1 (ts 3), .int 2 (ts 4), .int 1 (ts 5)]) :: news) → Q (.ref D) { s with heap := h', toks := tk' }) :
    wpAny (model PySem.Challenge.rw_fb0050_01.row.prog w) A (call (.ref 604) []) Q E s := by
  cases H with
  | mk B F X N T hkk hd hu =>
    w_on
    revert X; k_fill; intro X
    refine wpAny_call ?_
    w_strict (k_dflt k_enter)
    w_strict (k_steps)
    exact ret _ _ _ _ _ _ _ (fun k => [_, _, _, _, _, _, _, _, _, _, _, _, _, _, _, _, _, _, _, _, _, _, _, _, _, _, _, _, _, _, _, _, _, _, _, _].getD k 0) _ _ (by k_asm) (by k_asm)
local macro_rules | `(tactic| walk_at "call ref") => `(tactic| (k_here; k_dflt (show wpAny _ _ (call (Value.ref 604) [] _) _ _ _); k_dflt (refine' c_faces ?kH ?_; (case kH => ktr_rel)); intro D' d0' d1' d2' d3' d4' d5' ts' h' tk' F' N'; (try k_sweep)))
/-- the row of a face in the law's own table -/
inductive FR : Int → Int → Int → Int → Int → Int → Int → Prop
  | r0 : FR 0 0 1 1 1 2 1
  | r1 : FR 1 1 1 0 0 2 1
  | r2 : FR 2 2 1 0 0 1 0
  | r3 : FR 3 0 0 2 1 1 1
  | r4 : FR 4 1 0 2 1 0 0
  | r5 : FR 5 2 0 1 0 0 0
theorem n_pk {x : Addr × Obj} {l : List (Addr × Obj)} {h : Heap} (N : News h₀ L h l) (hx : x ∈ l) (hs : ∀ p ∈ news, p ∈ l) : News h₀ L h (x :: news) := fun p hp => by
  rcases List.mem_cons.mp hp with rfl | hp
  · exact N _ hx
  · exact N _ (hs p hp)
theorem r_face {prog : Program} {value slice : Expr} {D d0 d1 d2 d3 d4 d5 : Addr} {ts : Nat → Tok} {f : Int} {u : Tok} {Q : Value → Shared → Prop}
    (N : News h₀ L s.heap ((D, { cls := .type "list", data := .seq #[.ref d0, .ref d1, .ref d2, .ref d3, .ref d4, .ref d5] }) :: (d5, tupObj [.int 2 (ts 30), .int 0 (ts 31), .int 1 (ts 32), .int 0 (ts 33), .int 0 (ts 34), .int 0 (ts 35)]) :: (d4, tupObj [.int 1 (ts 24), .int 0 (ts 25), .int 2 (ts 26), .int 1 (ts 27), .int 0 (ts 28), .int 0 (ts 29)]) :: (d3, tupObj [.int 0 (ts 18), .int 0 (ts 19), .int 2 (ts 20), .int 1 (ts 21), .int 1 (ts 22), .int 1 (ts 23)]) :: (d2, tupObj [.int 2 (ts 12), .int 1 (ts 13), .int 0 (ts 14), .int 0 (ts 15), .int 1 (ts 16), .int 0 (ts 17)]) :: (d1, tupObj [.int 1 (ts 6), .int 1 (ts 7), .int 0 (ts 8), .int 0 (ts 9), .int 2 (ts 10), .int 1 (ts 11)]) :: (d0, tupObj [.int 0 (ts 0), .int 1 (ts 1), .int 1 (ts 2), .int 1 (ts 3), .int 2 (ts 4), .int 1 (ts 5)]) :: news)) (hf : 0 ≤ f ∧ f < 6)
    (h : ∀ (d : Addr) (p y fi pl se ot : Int) (t1 t2 t3 t4 t5 t6 : Tok), FR f p y fi pl se ot → 0 ≤ p → p < 3 → 0 ≤ fi → fi < 3 → 0 ≤ se → se < 3 → News h₀ L s.heap ((d, tupObj [.int p t1, .int y t2, .int fi t3, .int pl t4, .int se t5, .int ot t6]) :: news) → Q (.ref d) s)
    (hs : subscripted slice false (.ref D) (.int f u) = operate [.ref D, .int f u] (getItem (.ref D) (.int f u)) := by with_unfolding_all rfl) :
    wpAny (model prog w) A (subscriptTail value slice (.ref D) (.int f u)) Q E s := by
  have hL : s.heap.IsList D #[.ref d0, .ref d1, .ref d2, .ref d3, .ref d4, .ref d5] := ⟨_, (N _ (List.mem_cons_self ..)).1, rfl, _, rfl⟩
  have hn := fun (p : Addr × Obj) (hp : p ∈ news) => (List.mem_cons_of_mem _ (List.mem_cons_of_mem _ (List.mem_cons_of_mem _ (List.mem_cons_of_mem _ (List.mem_cons_of_mem _ (List.mem_cons_of_mem _ (List.mem_cons_of_mem _ hp)))))) : p ∈ (D, { cls := .type "list", data := .seq #[.ref d0, .ref d1, .ref d2, .ref d3, .ref d4, .ref d5] }) :: (d5, tupObj [.int 2 (ts 30), .int 0 (ts 31), .int 1 (ts 32), .int 0 (ts 33), .int 0 (ts 34), .int 0 (ts 35)]) :: (d4, tupObj [.int 1 (ts 24), .int 0 (ts 25), .int 2 (ts 26), .int 1 (ts 27), .int 0 (ts 28), .int 0 (ts 29)]) :: (d3, tupObj [.int 0 (ts 18), .int 0 (ts 19), .int 2 (ts 20), .int 1 (ts 21), .int 1 (ts 22), .int 1 (ts 23)]) :: (d2, tupObj [.int 2 (ts 12), .int 1 (ts 13), .int 0 (ts 14), .int 0 (ts 15), .int 1 (ts 16), .int 0 (ts 17)]) :: (d1, tupObj [.int 1 (ts 6), .int 1 (ts 7), .int 0 (ts 8), .int 0 (ts 9), .int 2 (ts 10), .int 1 (ts 11)]) :: (d0, tupObj [.int 0 (ts 0), .int 1 (ts 1), .int 1 (ts 2), .int 1 (ts 3), .int 2 (ts 4), .int 1 (ts 5)]) :: news)
  have hf6 : f = 0 ∨ f = 1 ∨ f = 2 ∨ f = 3 ∨ f = 4 ∨ f = 5 := by omega
  rcases hf6 with rfl | rfl | rfl | rfl | rfl | rfl
  · exact tail_any hL.typeIs slot_list_getitem.lookup (wpAny_getItem_list hL (by decide) (by decide) rfl (h _ _ _ _ _ _ _ _ _ _ _ _ _ .r0 (by decide) (by decide) (by decide) (by decide) (by decide) (by decide) (n_pk N (by k_mem) hn))) hs
  · exact tail_any hL.typeIs slot_list_getitem.lookup (wpAny_getItem_list hL (by decide) (by decide) rfl (h _ _ _ _ _ _ _ _ _ _ _ _ _ .r1 (by decide) (by decide) (by decide) (by decide) (by decide) (by decide) (n_pk N (by k_mem) hn))) hs
  · exact tail_any hL.typeIs slot_list_getitem.lookup (wpAny_getItem_list hL (by decide) (by decide) rfl (h _ _ _ _ _ _ _ _ _ _ _ _ _ .r2 (by decide) (by decide) (by decide) (by decide) (by decide) (by decide) (n_pk N (by k_mem) hn))) hs
  · exact tail_any hL.typeIs slot_list_getitem.lookup (wpAny_getItem_list hL (by decide) (by decide) rfl (h _ _ _ _ _ _ _ _ _ _ _ _ _ .r3 (by decide) (by decide) (by decide) (by decide) (by decide) (by decide) (n_pk N (by k_mem) hn))) hs
  · exact tail_any hL.typeIs slot_list_getitem.lookup (wpAny_getItem_list hL (by decide) (by decide) rfl (h _ _ _ _ _ _ _ _ _ _ _ _ _ .r4 (by decide) (by decide) (by decide) (by decide) (by decide) (by decide) (n_pk N (by k_mem) hn))) hs
  · exact tail_any hL.typeIs slot_list_getitem.lookup (wpAny_getItem_list hL (by decide) (by decide) rfl (h _ _ _ _ _ _ _ _ _ _ _ _ _ .r5 (by decide) (by decide) (by decide) (by decide) (by decide) (by decide) (n_pk N (by k_mem) hn))) hs
section
variable {f p y fi pl se ot a b c : Int}
theorem nq_p1 {x : Int} (h : (decide (0 < x) != ((1 : Int) == 1)) = false) : 0 < x := by simpa using h
theorem nq_p0 {x : Int} (h : (decide (0 < x) != ((0 : Int) == 1)) = false) : ¬ 0 < x := by simpa using h
theorem nq_n1 {x : Int} (h : (decide (0 < x) != ((1 : Int) == 1)) = true) : ¬ 0 < x := by simpa using h
theorem nq_n0 {x : Int} (h : (decide (0 < x) != ((0 : Int) == 1)) = true) : 0 < x := by simpa using h
theorem nN0 (R : FR f p y fi pl se ot) (h : pick3 p a b c = 0) : ¬ 0 < fD f a b c := by
  cases R <;> simp only [fD_0, fD_1, fD_2, fD_3, fD_4, fD_5, pick3_0, pick3_1, pick3_2] at h ⊢ <;> omega
theorem nN1 (R : FR f p y fi pl se ot) (q : (decide (0 < pick3 p a b c) != (y == 1)) = true) : ¬ 0 < fD f a b c := by
  cases R <;> simp only [fD_0, fD_1, fD_2, fD_3, fD_4, fD_5, pick3_0, pick3_1, pick3_2] at q ⊢ <;> first | (have q' := nq_n1 q; omega) | (have q' := nq_n0 q; omega)
theorem nP (R : FR f p y fi pl se ot) (q : (decide (0 < pick3 p a b c) != (y == 1)) = false) (h : ¬ pick3 p a b c = 0) : 0 < fD f a b c := by
  cases R <;> simp only [fD_0, fD_1, fD_2, fD_3, fD_4, fD_5, pick3_0, pick3_1, pick3_2] at q h ⊢ <;> first | (have q' := nq_p1 q; omega) | (have q' := nq_p0 q; omega)
theorem nU1 (R : FR f p y fi pl se ot) (h : pl = 1) : qt (pick3 fi a b c) (pick3 p a b c) = vU f a b c := by
  cases R <;> first | rfl | (exact absurd h (by decide))
theorem nU0 (R : FR f p y fi pl se ot) (h : ¬ pl = 1) : qt (0 - pick3 fi a b c) (pick3 p a b c) = vU f a b c := by
  rw [Int.zero_sub]; cases R <;> first | (exact absurd rfl h) | rfl
theorem nV1 (R : FR f p y fi pl se ot) (h : ot = 1) : qt (pick3 se a b c) (pick3 p a b c) = vV f a b c := by
  cases R <;> first | rfl | (exact absurd h (by decide))
theorem nV0 (R : FR f p y fi pl se ot) (h : ¬ ot = 1) : qt (0 - pick3 se a b c) (pick3 p a b c) = vV f a b c := by
  rw [Int.zero_sub]; cases R <;> first | (exact absurd rfl h) | rfl
theorem sm_pick (ha : Sm a) (hb : Sm b) (hc : Sm c) : Sm (pick3 p a b c) := by unfold pick3; (repeat' split) <;> assumption
theorem sm_npick (ha : Sm a) (hb : Sm b) (hc : Sm c) : Sm (0 - pick3 p a b c) := by
  have h := sm_pick (p := p) ha hb hc
  exact ⟨by omega, by omega⟩
end
local macro_rules | `(tactic| walk_at "subscriptTail") => `(tactic| (k_here; (with_reducible show wpAny _ _ (subscriptTail _ _ (Value.ref _) (Value.int _ _)) _ _ _); k_dflt (refine' r_face ?N ?f ?_; (case N => k_asm); (case f => with_reducible assumption)); intro d' p' y' fi' pl' se' ot' t1' t2' t3' t4' t5' t6' FR' b1' b2' b3' b4' b5' b6' N'))
local macro_rules | `(tactic| walk_at "call ref") => `(tactic| (k_here; (with_reducible show wpAny _ _ (call (Value.ref 625) [Value.int _ _, Value.int _ _] _) _ _ _); k_dflt (refine' c_rounded ?kH ?kp0 ?kp1 ?kp2 ?_; (case kH => ktr_rel); (case kp0 => first | with_reducible assumption | (with_reducible exact sm_pick (by assumption) (by assumption) (by assumption)) | (with_reducible exact sm_npick (by assumption) (by assumption) (by assumption)) | exact ⟨by omega, by omega⟩); (case kp1 => first | with_reducible assumption | (with_reducible exact sm_pick (by assumption) (by assumption) (by assumption)) | (with_reducible exact sm_npick (by assumption) (by assumption) (by assumption)) | exact ⟨by omega, by omega⟩); (case kp2 => first | with_reducible assumption | omega | decide | l_fact)); intro t' h' tk' F' N'; (try k_dflt (dsimp only [PySem.W.CmpBack])); (try k_sweep)))
theorem c_nums {r : Addr} {f a b c : Int} {ta tb tc tf : Tok} {n : Nat} (H : Here w 3 A h₀ L m s news) (hr : (r, rowObj a b c ta tb tc n) ∈ news) (hf : 0 ≤ f ∧ f < 6) (ha : Sm a) (hb : Sm b) (hc : Sm c)
    (retN : ¬ 0 < fD f a b c → ∀ (h' : Heap) (tk' : Nat), Fr h₀ L h' m → News h₀ L h' news → Q .none { s with heap := h', toks := tk' })
    (retS : 0 < fD f a b c → RetT2 h₀ L m news s Q (vU f a b c) (vV f a b c)) :
    wpAny (model PySem.Challenge.rw_fb0050_01.row.prog w) A (call (.ref 632) [.ref r, .int f tf]) Q E s := by
  cases H with
  | mk B F X N T hkk hd hu =>
    w_on
    revert X; k_fill; intro X
    refine wpAny_call ?_
    w_strict (k_dflt k_enter)
    w_strict (k_steps)
    all_goals first
      | exact retN (nN0 (by with_reducible assumption) (by with_reducible assumption)) _ _ (by with_reducible assumption) (by first | (with_reducible assumption) | ((rename News _ _ _ _ => nN9); (repeat (first | (with_reducible exact nN9) | (replace nN9 := hd_skip nN9))); done) | ((rename News _ _ _ _ => nN9); (repeat (first | (with_reducible exact nN9) | (replace nN9 := hd_u1 nN9))); done) | ((rename News _ _ _ _ => nN9); (repeat (first | (with_reducible exact nN9) | (replace nN9 := hd_u2 nN9))); done) | k_asm | (refine' cb_drop ?cbN ?cbS; (case cbN => assumption); (case cbS => kcj_all)))
      | exact retN (nN1 (by with_reducible assumption) (by with_reducible assumption)) _ _ (by with_reducible assumption) (by first | (with_reducible assumption) | ((rename News _ _ _ _ => nN9); (repeat (first | (with_reducible exact nN9) | (replace nN9 := hd_skip nN9))); done) | ((rename News _ _ _ _ => nN9); (repeat (first | (with_reducible exact nN9) | (replace nN9 := hd_u1 nN9))); done) | ((rename News _ _ _ _ => nN9); (repeat (first | (with_reducible exact nN9) | (replace nN9 := hd_u2 nN9))); done) | k_asm | (refine' cb_drop ?cbN ?cbS; (case cbN => assumption); (case cbS => kcj_all)))
      | exact endT2 (retS (nP (by with_reducible assumption) (by with_reducible assumption) (by with_reducible assumption))) (by with_reducible assumption) (by first | (with_reducible assumption) | ((rename News _ _ _ _ => nN9); (repeat (first | (with_reducible exact nN9) | (replace nN9 := hd_skip nN9))); done) | ((rename News _ _ _ _ => nN9); (repeat (first | (with_reducible exact nN9) | (replace nN9 := hd_u1 nN9))); done) | ((rename News _ _ _ _ => nN9); (repeat (first | (with_reducible exact nN9) | (replace nN9 := hd_u2 nN9))); done) | k_asm | (refine' cb_drop ?cbN ?cbS; (case cbN => assumption); (case cbS => kcj_all))) (by first | (with_reducible assumption) | exact lt_of_all (by with_reducible assumption) | exact lt_of_all1 (by with_reducible assumption) | exact lt_of_all2 (by with_reducible assumption) | exact lt_of_all3 (by with_reducible assumption) | exact lt_of_all4 (by with_reducible assumption) | exact lt_of_all5 (by with_reducible assumption) | exact lt_of_all6 (by with_reducible assumption) | exact lt_of_all7 (by with_reducible assumption) | exact lt_of_all8 (by with_reducible assumption) | exact lt_of_all9 (by with_reducible assumption) | exact lt_of_all10 (by with_reducible assumption) | exact lt_of_all11 (by with_reducible assumption) | exact lt_of_all12 (by with_reducible assumption) | exact lt_of_all13 (by with_reducible assumption) | exact lt_of_all14 (by with_reducible assumption) | exact lt_of_all15 (by with_reducible assumption) | exact lt_of_all16 (by with_reducible assumption) | exact lt_of_all17 (by with_reducible assumption) | exact lt_of_all18 (by with_reducible assumption) | exact lt_of_all19 (by with_reducible assumption) | exact lt_of_all20 (by with_reducible assumption) | exact lt_of_all21 (by with_reducible assumption) | exact lt_of_all22 (by with_reducible assumption) | exact lt_of_all23 (by with_reducible assumption) | exact lt_of_all24 (by with_reducible assumption) | assumption) (by first | (with_reducible exact nU1 (by with_reducible assumption) (by with_reducible assumption)) | (with_reducible exact nU0 (by with_reducible assumption) (by with_reducible assumption))) (by first | (with_reducible exact nV1 (by with_reducible assumption) (by with_reducible assumption)) | (with_reducible exact nV0 (by with_reducible assumption) (by with_reducible assumption)))
end
local macro_rules | `(tactic| walk_at "subscriptTail Name Name ref int") => `(tactic| (k_here; k_dflt (refine' r_rowi ?N ?m ?k ?_; (case N => k_asm); (case m => k_mem); (case k => omega)); intro t'; (try simp only [pick3_0, pick3_1, pick3_2])))
local macro_rules | `(tactic| walk_at "subscriptTail Name Constant ref int") => `(tactic| (k_here; k_dflt (refine' r_rowi ?N ?m ?k ?_; (case N => k_asm); (case m => k_mem); (case k => omega)); intro t'; (try simp only [pick3_0, pick3_1, pick3_2])))
def lawFd : List Stmt × Scope := match PySem.Challenge.pw_fb0050_01.main.body.getLast? with
  | some (.FunctionDef _ _ body _ _ _ scope _ _ _) => (body, scope)
  | _ => ([], { kind := .function, names := [], isGenerator := false, isCoroutine := false, more := [] })
def lawRest (k : Nat) : List Stmt := lawFd.1.drop k
def lawSt (k : Nat) : Stmt := match lawRest k with
  | st :: _ => st
  | [] => .Pass ⟨0, 0, 0, 0⟩
def lawSc : Scope := lawFd.2
theorem ne_of_news {a b : Addr} {o o' : Obj} {h : Heap} (N : News h₀ L h news) (h1 : (a, o) ∈ news) (h2 : (b, o') ∈ news) (hd : o.data ≠ o'.data) : a ≠ b := by
  intro e
  subst e
  have q := (N _ h1).1.symm.trans (N _ h2).1
  injection q with q
  exact hd (congrArg Obj.data q)
abbrev Bd (a : Int) : Prop := -2000 ≤ a ∧ a ≤ 2000
/-- within law's frame -/
inductive LH (w : World) (fa : Addr) (cd : Value) : Heap → Addr → (Str → Option Value) → Shared → List (Addr × Obj) → Around → Env → Prop
  | mk {loose : List Str} {mean : ExcName → Option Value} {mg mb : Str → Option Value} {base h₀ : Heap} {L : Addr} {m : Str → Option Value} {s : Shared} {news : List (Addr × Obj)} (B : Below callerA base [] h₀) (F : Fr h₀ L s.heap m) (X : (hd.heap_39 w.params).In h₀) (N : News h₀ L s.heap news) (T : Top hd.view_39 loose mean mg mb h₀) :
    LH w fa cd h₀ L m s news (callerA.deeper (envOfC (Str.ofString "law") lawSc L fa cd)) (envOfC (Str.ofString "law") lawSc L fa cd)
theorem fr_at {h : Heap} {x : Str} {v : Value} (F : Fr h₀ L h m) (hx : m x = some v) : Fr h₀ L h (fun z => if z = x then some v else m z) := by
  have e : (fun z => if z = x then some v else m z) = m := by
    funext z
    by_cases q : z = x
    · rw [if_pos q, q, hx]
    · rw [if_neg q]
  rw [e]; exact F
theorem fr_twice {h : Heap} {x : Str} {v v' : Value} (F : Fr h₀ L h (fun z => if z = x then some v else (fun z => if z = x then some v' else m z) z)) : Fr h₀ L h (fun z => if z = x then some v else m z) := by
  have e : (fun z => if z = x then some v else (fun z => if z = x then some v' else m z) z) = (fun z => if z = x then some v else m z) := by
    funext z; by_cases q : z = x <;> simp only [q, if_true, if_false]
  rw [← e]; exact F
theorem sub_cons {x : Addr × Obj} {r l : List (Addr × Obj)} (h : x ∈ l) (hs : ∀ p ∈ r, p ∈ l) : ∀ p ∈ x :: r, p ∈ l := fun p hp => by
  rcases List.mem_cons.mp hp with rfl | hp
  · exact h
  · exact hs p hp
theorem sub_skip {x : Addr × Obj} {r l : List (Addr × Obj)} (hs : ∀ p ∈ r, p ∈ l) : ∀ p ∈ r, p ∈ x :: l := fun p hp => List.mem_cons_of_mem _ (hs p hp)
theorem sub_nil {l : List (Addr × Obj)} : ∀ p ∈ ([] : List (Addr × Obj)), p ∈ l := fun _ hp => nomatch hp
theorem n_sub {h : Heap} {news' : List (Addr × Obj)} (N : News h₀ L h news) (hs : ∀ p ∈ news', p ∈ news) : News h₀ L h news' := fun p hp => N p (hs p hp)
theorem c_nextV {st sl : Addr} {c lim : Int} {t tl : Tok} {vs : List Value} {xs : List Int} {g : Obj → List (Addr × Obj)} (H : Here w 2 A h₀ L m s news) (hU : UpdF st (stObj sl c t) news g) (hS : (sl, slObj vs.toArray) ∈ news) (hX : IntsAre vs xs) (hl : xs.length ≤ 60) (hc : 0 ≤ c ∧ c < 1000) (hm : 0 < lim ∧ lim < 100000)
    (ret : ∀ (v : Int) (tv t' : Tok) (h' : Heap) (tk' : Nat), 0 ≤ v → v < lim → Fr h₀ L h' m → News h₀ L h' (g (stObj sl (c + 1) t')) → Q (.int v tv) { s with heap := h', toks := tk' }) :
    wpAny (model PySem.Challenge.rw_fb0050_01.row.prog w) A (call (.ref 611) [.ref st, .int lim tl]) Q E s := c_next H hU hS (xs := xs) (by simpa using hX) hl hc hm ret
theorem ne_cell {a b : Addr} {o o' : Obj} {h : Heap} {v : Option Value} {its : Array Value} {n : Nat} (N : News h₀ L h news) (h1 : (a, o) ∈ news) (h2 : (b, o') ∈ news) (hc : o.data = .cell v) (hs : o'.data = .seq its n) : a ≠ b ∧ b ≠ a := by
  have q := ne_of_news N h1 h2 (by rw [hc, hs]; intro q; cases q)
  exact ⟨q, Ne.symm q⟩
open LCg in
theorem compEnd1 {I C D : Addr} {s₁ : Shared} {oI oC oD : Obj} {S : List (Addr × Obj) → Prop} {rest : Value → List (Addr × Obj) → Prop} {y : Value} {h' : Heap} {tk : Nat} {x : Addr} {ox : Obj} {P : Prop}
    (F : Fr h₀ L h' m) (N : News h₀ L h' ((x, ox) :: (I, oI) :: (C, oC) :: (D, oD) :: news)) (l : I < x ∧ C < x ∧ D < x ∧ P) (off : Off3 I C D news) (hS : S ((x, ox) :: news)) (r : rest y ((x, ox) :: news)) :
    CompEnd h₀ L m s₁ I oI C oC D oD S rest y { s₁ with heap := h', toks := tk } :=
  CompEnd.intro F N ((x, ox) :: news) (fun p hp => by
    rcases List.mem_cons.mp hp with rfl | hp; · exact List.mem_cons_of_mem _ (List.mem_cons_self ..)
    rcases List.mem_cons.mp hp with rfl | hp; · exact List.mem_cons_of_mem _ (List.mem_cons_of_mem _ (List.mem_cons_self ..))
    rcases List.mem_cons.mp hp with rfl | hp; · exact List.mem_cons_of_mem _ (List.mem_cons_of_mem _ (List.mem_cons_of_mem _ (List.mem_cons_self ..)))
    rcases List.mem_cons.mp hp with rfl | hp; · exact List.mem_cons_self ..
    exact List.mem_cons_of_mem _ (List.mem_cons_of_mem _ (List.mem_cons_of_mem _ (List.mem_cons_of_mem _ hp)))) ⟨⟨Ne.symm (Nat.ne_of_lt l.1), Ne.symm (Nat.ne_of_lt l.2.1), Ne.symm (Nat.ne_of_lt l.2.2.1)⟩, off⟩ hS r
open LCg in
theorem compEnd2 {I C D : Addr} {s₁ : Shared} {oI oC oD : Obj} {S : List (Addr × Obj) → Prop} {rest : Value → List (Addr × Obj) → Prop} {y : Value} {h' : Heap} {tk : Nat} {x g : Addr} {ox og : Obj} {P P' : Prop}
    (F : Fr h₀ L h' m) (N : News h₀ L h' ((x, ox) :: (g, og) :: (I, oI) :: (C, oC) :: (D, oD) :: news)) (l : P' ∧ I < x ∧ C < x ∧ D < x ∧ P) (off : Off3 I C D news) (hS : S ((x, ox) :: news)) (r : rest y ((x, ox) :: news)) :
    CompEnd h₀ L m s₁ I oI C oC D oD S rest y { s₁ with heap := h', toks := tk } :=
  compEnd1 F (fun p hp => N p (by
    rcases List.mem_cons.mp hp with rfl | hp; · exact List.mem_cons_self ..
    exact List.mem_cons_of_mem _ (List.mem_cons_of_mem _ hp))) l.2 off hS r
open LCg in
theorem compEnd3 {I C D : Addr} {s₁ : Shared} {oI oC oD : Obj} {S : List (Addr × Obj) → Prop} {rest : Value → List (Addr × Obj) → Prop} {y : Value} {h' : Heap} {tk : Nat} {t x d : Addr} {ot ox od : Obj} {P : Prop}
    (F : Fr h₀ L h' m) (N : News h₀ L h' ((t, ot) :: (x, ox) :: (d, od) :: (I, oI) :: (C, oC) :: (D, oD) :: news)) (l : I < d ∧ C < d ∧ D < d ∧ P) (l2 : d < x) (l3 : x < t) (off : Off3 I C D news) (hS : S ((t, ot) :: (x, ox) :: (d, od) :: news)) (r : rest y ((t, ot) :: (x, ox) :: (d, od) :: news)) :
    CompEnd h₀ L m s₁ I oI C oC D oD S rest y { s₁ with heap := h', toks := tk } := by
  have k : ∀ z : Addr, z < d → d ≠ z ∧ x ≠ z ∧ t ≠ z := fun z h => ⟨Ne.symm (Nat.ne_of_lt h), Ne.symm (Nat.ne_of_lt (Nat.lt_trans h l2)), Ne.symm (Nat.ne_of_lt (Nat.lt_trans h (Nat.lt_trans l2 l3)))⟩
  refine CompEnd.intro F N ((t, ot) :: (x, ox) :: (d, od) :: news) (fun p hp => ?_) ⟨⟨(k I l.1).2.2, (k C l.2.1).2.2, (k D l.2.2.1).2.2⟩, ⟨(k I l.1).2.1, (k C l.2.1).2.1, (k D l.2.2.1).2.1⟩, ⟨(k I l.1).1, (k C l.2.1).1, (k D l.2.2.1).1⟩, off⟩ hS r
  simp only [List.mem_cons] at hp ⊢
  rcases hp with h | h | h | h | h | h | h
  · exact .inr (.inr (.inr (.inl h)))
  · exact .inr (.inr (.inr (.inr (.inl h))))
  · exact .inr (.inr (.inr (.inr (.inr (.inl h)))))
  · exact .inl h
  · exact .inr (.inl h)
  · exact .inr (.inr (.inl h))
  · exact .inr (.inr (.inr (.inr (.inr (.inr h)))))
local macro_rules | `(tactic| k_ne) => `(tactic| (refine neN ?_; first | (with_reducible assumption) | (with_reducible exact Ne.symm (by assumption)) | (with_reducible exact Nat.ne_of_lt (by assumption)) | (with_reducible exact Nat.ne_of_gt (by assumption)) | omega))
local macro_rules | `(tactic| walk_at "CompRest") => `(tactic| (with_unfolding_all first
  | (refine LCg.CompRest.succ ?_; intro v' I' oI' C' oC' D' m' h' tk' E' hv' hC' hx' F' N' off' ne'; (first | lcg_open hv' | (obtain ⟨t9', hv9'⟩ := hv'; subst hv9')))
  | refine LCg.CompRest.zero ?_))
local macro_rules | `(tactic| walk_at "FinE") => `(tactic| ((unfold LCg.FinE); intro D' h' tk' F' N' o1'; (try simp only [List.nil_append, List.cons_append] at N'); (try dsimp only)))
local macro_rules | `(tactic| walk_at "FinA") => `(tactic| ((unfold LCg.FinA); intro D' h' tk' F' N' o1'; (try simp only [List.nil_append, List.cons_append] at N'); (try dsimp only)))
local macro_rules | `(tactic| lcg_src) => `(tactic| first | exact Or.inl (by with_reducible assumption) | exact Or.inr ⟨_, by k_mem, rfl, _, rfl⟩ | exact True.intro)
local macro_rules | `(tactic| walk_at "CompEnd") => `(tactic| first
  | (refine LCg.CompEnd.intro (by assumption) (by assumption) _ (fun _ h => h) (by with_reducible assumption) (by lcg_src) ?_)
  | (refine compEnd1 (by assumption) (by assumption) (by with_reducible assumption) (by with_reducible assumption) (by lcg_src) ?_)
  | (refine compEnd2 (by assumption) (by assumption) (by with_reducible assumption) (by with_reducible assumption) (by lcg_src) ?_)
  | (refine compEnd3 (by assumption) (by assumption) (by with_reducible assumption) (by with_reducible assumption) (by with_reducible assumption) (by with_reducible assumption) (by lcg_src) ?_))
local macro_rules | `(tactic| k_all) => `(tactic| with_reducible assumption)
local macro_rules | `(tactic| walk_at "call ref") => `(tactic| (k_here; (with_reducible show wpAny _ _ (call (Value.ref 611) [Value.ref _, Value.int _ _] _) _ _ _); k_dflt (refine' c_nextV ?kH ?kU ?kS ?kX ?kl ?kc ?km ?_; (case kH => ktr_rel); (case kU => k_updF); (case kS => k_mem); (case kX => with_reducible assumption); (case kl => first | (with_reducible assumption) | exact List.length_take_le _ _); (case kc => omega); (case km => omega)); intro v' tv' t' h' tk' hv0' hv1' F' N'; (try dsimp only at N'); (try k_sweep)))
local macro_rules | `(tactic| walk_at "eval Name") => `(tactic| (k_here; (with_reducible show wpAny _ _ (eval (Expr.Name _ _) (envOfC _ _ _ _ _)) _ _ _); k_dflt (refine' ldLoc ?k1 ?k2 ?_; (case k1 => k_asm); (case k2 => with_unfolding_all first | exact rfl | assumption); k_whole)))
theorem seg2_ne {a b c : Int} (h : ¬ [a, b, c] = [0, 0, 0]) : ¬ (a = 0 ∧ b = 0 ∧ c = 0) := fun q => h (by rw [q.1, q.2.1, q.2.2])
theorem seg2 {fa : Addr} {cd : Value} {env : Env} {D r1 r2 : Addr} {a1 a2 a3 b1 b2 b3 : Int} {t1 t2 t3 u1 u2 u3 : Tok} {keep : List (Addr × Obj)} {Q : Flow → Shared → Prop}
    (H : LH w fa cd h₀ L m s ((D, LCg.lst [.ref r1, .ref r2]) :: (r1, rowObj a1 a2 a3 t1 t2 t3 3) :: (r2, rowObj b1 b2 b3 u1 u2 u3 3) :: keep) A env) (hm : m (Str.ofString "rows") = some (.ref D))
    (ret : ∀ (D r1 r2 : Addr) (a1' a2' a3' b1' b2' b3' : Int) (t1 t2 t3 u1 u2 u3 : Tok) (n1 n2 : Nat) (h' : Heap) (tk' : Nat), Fr h₀ L h' (fun z => if z = Str.ofString "rows" then some (Value.ref D) else m z) → News h₀ L h' ((D, LCg.lst [.ref r1, .ref r2]) :: (r1, rowObj a1' a2' a3' t1 t2 t3 n1) :: (r2, rowObj b1' b2' b3' u1 u2 u3 n2) :: keep) → (a1' = a1 ∧ a2' = a2 ∧ a3' = a3 ∨ a1' = 0 ∧ a2' = 0 ∧ a3' = 1) → (b1' = b1 ∧ b2' = b2 ∧ b3' = b3 ∨ b1' = 0 ∧ b2' = 0 ∧ b3' = 1) → ¬ (a1' = 0 ∧ a2' = 0 ∧ a3' = 0) → ¬ (b1' = 0 ∧ b2' = 0 ∧ b3' = 0) → Q .next { s with heap := h', toks := tk' }) :
    wpAny (model PySem.Challenge.rw_fb0050_01.row.prog w) A (exec (lawSt 2) env) Q E s := by
  cases H with
  | mk B F X N T =>
    replace F := fr_at F hm
    have e2 : lawSc = Scope.mk _ _ _ _ _ := rfl
    dsimp only at e2
    rw [e2]
    clear e2
    w_on
    revert X; k_fill; intro X
    (show wpAny _ _ (exec (Stmt.Assign _ _ _) _) _ _ _)
    w_strict (k_steps)
    all_goals exact ret _ _ _ _ _ _ _ _ _ _ _ _ _ _ _ _ _ _ _ (fr_twice (by k_asm)) (by first | (with_reducible assumption) | (refine' n_sub ?cbN ?cbS; (case cbN => assumption); (case cbS => ((repeat ((with_reducible refine' sub_cons ?cbM ?_); (case cbM => kct_strs))); first | (with_reducible exact sub_nil) | ((repeat (first | (with_reducible exact fun _ hp => hp) | (refine sub_skip ?_))); done)))) | k_asm) (by first | exact .inl ⟨rfl, rfl, rfl⟩ | exact .inr ⟨rfl, rfl, rfl⟩) (by first | exact .inl ⟨rfl, rfl, rfl⟩ | exact .inr ⟨rfl, rfl, rfl⟩) (by first | (with_reducible exact seg2_ne (by assumption)) | decide) (by first | (with_reducible exact seg2_ne (by assumption)) | decide)
theorem seg3 {fa : Addr} {cd : Value} {env : Env} {st sl : Addr} {c : Int} {t : Tok} {vs : List Value} {xs : List Int} {o1 o2 : Obj} {y : Option Value} {keep : List (Addr × Obj)} {Q : Flow → Shared → Prop}
    (H : LH w fa cd h₀ L m s ((st, stObj sl c t) :: (sl, slObj vs.toArray) :: (L + 1 + 1, o2) :: (L + 1, o1) :: keep) A env) (hX : IntsAre vs xs) (hl : xs.length ≤ 60) (hc : 0 ≤ c ∧ c < 900) (h1 : o1.data = .cell (some (.ref st))) (h2 : o2.data = .cell y)
    (k0 : sl ≠ st) (k1 : ∀ p ∈ keep, p.1 ≠ st) (k2 : ∀ p ∈ keep, p.1 ≠ L + 1 + 1)
    (ret : ∀ (v : Int) (tv t' : Tok) (o2' : Obj) (h' : Heap) (tk' : Nat), Fr h₀ L h' m → News h₀ L h' ((st, stObj sl (c + 1) t') :: (sl, slObj vs.toArray) :: (L + 1 + 1, o2') :: (L + 1, o1) :: keep) → o2'.data = .cell (some (.int (v - 20) tv)) → 0 ≤ v → v < 41 → Q .next { s with heap := h', toks := tk' }) :
    wpAny (model PySem.Challenge.rw_fb0050_01.row.prog w) A (exec (lawSt 3) env) Q E s := by
  cases H with
  | mk B F X N T =>
    have e2 : lawSc = Scope.mk _ _ _ _ _ := rfl
    dsimp only at e2
    rw [e2]
    clear e2
    w_on
    revert X; k_fill; intro X
    obtain ⟨n1, n2⟩ := ne_cell N (a := L + 1) (b := st) (o := o1) (by simp) (o' := stObj sl c t) (by simp) h1 rfl
    obtain ⟨n3, n4⟩ := ne_cell N (a := L + 1 + 1) (b := st) (o := o2) (by simp) (o' := stObj sl c t) (by simp) h2 rfl
    obtain ⟨n5, n6⟩ := ne_cell N (a := L + 1 + 1) (b := sl) (o := o2) (by simp) (o' := slObj vs.toArray) (by simp) h2 rfl
    have n7 : L + 1 ≠ L + 1 + 1 := Nat.ne_of_lt (Nat.lt_succ_self _)
    (show wpAny _ _ (exec (Stmt.Assign _ _ _) _) _ _ _)
    w_strict (k_steps)
    exact ret _ _ _ _ _ _ (by k_asm) (by first | (with_reducible assumption) | (refine' n_sub ?cbN ?cbS; (case cbN => assumption); (case cbS => ((repeat ((with_reducible refine' sub_cons ?cbM ?_); (case cbM => kct_strs))); first | (with_reducible exact sub_nil) | ((repeat (first | (with_reducible exact fun _ hp => hp) | (refine sub_skip ?_))); done)))) | k_asm) (by with_reducible assumption) (by with_reducible assumption) (by with_reducible assumption)
theorem seg4 {fa : Addr} {cd : Value} {env : Env} {D r1 r2 : Addr} {a1 a2 a3 b1 b2 b3 : Int} {t1 t2 t3 u1 u2 u3 : Tok} {n1 n2 : Nat} {keep : List (Addr × Obj)} {Q : Flow → Shared → Prop}
    (H : LH w fa cd h₀ L m s ((D, LCg.lst [.ref r1, .ref r2]) :: (r1, rowObj a1 a2 a3 t1 t2 t3 n1) :: (r2, rowObj b1 b2 b3 u1 u2 u3 n2) :: keep) A env) (hm : m (Str.ofString "rows") = some (.ref D))
    (ret : ∀ (x d t x' d' t' : Addr) (tk ta tb tc tk' ta' tb' tc' : Tok) (h' : Heap) (tk2 : Nat), Fr h₀ L h' (fun z => if z = Str.ofString "two" then some (.ref x') else if z = Str.ofString "one" then some (.ref x) else m z) →
      News h₀ L h' ((t', tupObj [.int b1 ta', .int b2 tb', .int b3 tc']) :: (x', instObj 134 d') :: (d', dictOf [ptEntry w tk' t'] 1) :: (t, tupObj [.int a1 ta, .int a2 tb, .int a3 tc]) :: (x, instObj 134 d) :: (d, dictOf [ptEntry w tk t] 1) :: (D, LCg.lst [.ref r1, .ref r2]) :: (r1, rowObj a1 a2 a3 t1 t2 t3 n1) :: (r2, rowObj b1 b2 b3 u1 u2 u3 n2) :: keep) → Q .next { s with heap := h', toks := tk2 }) :
    wpAny (model PySem.Challenge.rw_fb0050_01.row.prog w) A (exec (lawSt 4) env) Q E s := by
  cases H with
  | mk B F X N T =>
    have e2 : lawSc = Scope.mk _ _ _ _ _ := rfl
    dsimp only at e2
    rw [e2]
    clear e2
    w_on
    revert X; k_fill; intro X
    (show wpAny _ _ (exec (Stmt.Assign _ _ _) _) _ _ _)
    w_strict (walk_at "exec Assign")
    w_strict (k_steps)
    exact ret _ _ _ _ _ _ _ _ _ _ _ _ _ _ _ _ (by k_asm) (by first | (with_reducible assumption) | (refine' n_sub ?cbN ?cbS; (case cbN => assumption); (case cbS => ((repeat ((with_reducible refine' sub_cons ?cbM ?_); (case cbM => kct_strs))); first | (with_reducible exact sub_nil) | ((repeat (first | (with_reducible exact fun _ hp => hp) | (refine sub_skip ?_))); done)))) | k_asm)
theorem seg5 {fa : Addr} {cd : Value} {env : Env} {D r1 r2 : Addr} {o3 o4 : Obj} {y z : Option Value} {keep : List (Addr × Obj)} {Q : Flow → Shared → Prop}
    (H : LH w fa cd h₀ L m s ((D, LCg.lst [.ref r1, .ref r2]) :: (L + 1 + 1 + 1 + 1, o4) :: (L + 1 + 1 + 1, o3) :: keep) A env) (hm : m (Str.ofString "rows") = some (.ref D))
    (h3 : o3.data = .cell y) (h4 : o4.data = .cell z) (k1 : ∀ p ∈ keep, p.1 ≠ L + 1 + 1 + 1) (k2 : ∀ p ∈ keep, p.1 ≠ L + 1 + 1 + 1 + 1)
    (ret : ∀ (o3' o4' : Obj) (h' : Heap) (tk2 : Nat), Fr h₀ L h' m → News h₀ L h' ((D, LCg.lst [.ref r1, .ref r2]) :: (L + 1 + 1 + 1 + 1, o4') :: (L + 1 + 1 + 1, o3') :: keep) → o3'.data = .cell (some (.ref r1)) → o4'.data = .cell (some (.ref r2)) → Q .next { s with heap := h', toks := tk2 }) :
    wpAny (model PySem.Challenge.rw_fb0050_01.row.prog w) A (exec (lawSt 5) env) Q E s := by
  cases H with
  | mk B F X N T =>
    have e2 : lawSc = Scope.mk _ _ _ _ _ := rfl
    dsimp only at e2
    rw [e2]
    clear e2
    w_on
    revert X; k_fill; intro X
    obtain ⟨n3, n4⟩ := ne_cell N (a := L + 1 + 1 + 1) (b := D) (o := o3) (by simp) (o' := LCg.lst [.ref r1, .ref r2]) (by simp) h3 rfl
    obtain ⟨n5, n6⟩ := ne_cell N (a := L + 1 + 1 + 1 + 1) (b := D) (o := o4) (by simp) (o' := LCg.lst [.ref r1, .ref r2]) (by simp) h4 rfl
    have n7 : L + 1 + 1 + 1 ≠ L + 1 + 1 + 1 + 1 := Nat.ne_of_lt (Nat.lt_succ_self _)
    (show wpAny _ _ (exec (Stmt.Assign _ _ _) _) _ _ _)
    w_strict (k_steps)
    exact ret _ _ _ _ (by k_asm) (by first | (with_reducible assumption) | (refine' n_sub ?cbN ?cbS; (case cbN => assumption); (case cbS => ((repeat ((with_reducible refine' sub_cons ?cbM ?_); (case cbM => kct_strs))); first | (with_reducible exact sub_nil) | ((repeat (first | (with_reducible exact fun _ hp => hp) | (refine sub_skip ?_))); done)))) | k_asm) (by with_reducible assumption) (by with_reducible assumption)
theorem seg6 {fa : Addr} {cd : Value} {env : Env} {x x' : Addr} {r1 r2 : Addr} {a1 a2 a3 b1 b2 b3 nn : Int} {t1 t2 t3 u1 u2 u3 tn : Tok} {n1 n2 : Nat} {o2 o3 o4 : Obj} {Q : Flow → Shared → Prop}
    (H : LH w fa cd h₀ L m s news A env) (P1 : PtIn w news x a1 a2 a3) (P2 : PtIn w news x' b1 b2 b3) (m1 : m (Str.ofString "one") = some (.ref x)) (m2 : m (Str.ofString "two") = some (.ref x'))
    (c2 : (L + 1 + 1, o2) ∈ news) (c3 : (L + 1 + 1 + 1, o3) ∈ news) (c4 : (L + 1 + 1 + 1 + 1, o4) ∈ news) (h2 : o2.data = .cell (some (.int nn tn))) (h3 : o3.data = .cell (some (.ref r1))) (h4 : o4.data = .cell (some (.ref r2)))
    (q1 : (r1, rowObj a1 a2 a3 t1 t2 t3 n1) ∈ news) (q2 : (r2, rowObj b1 b2 b3 u1 u2 u3 n2) ∈ news) (A1 : Bd a1) (A2 : Bd a2) (A3 : Bd a3) (B1 : Bd b1) (B2 : Bd b2) (B3 : Bd b3) (BN : Bd nn)
    (ret : ∀ (D : Addr) (ta tb tc : Tok) (n : Nat) (h' : Heap) (tk' : Nat), Fr h₀ L h' (fun z => if z = Str.ofString "crossed" then some (.ref D) else m z) → News h₀ L h' ((D, rowObj (a2 * b3 - a3 * b2) (a3 * b1 - a1 * b3) (a1 * b2 - a2 * b1) ta tb tc n) :: news) → Q .next { s with heap := h', toks := tk' }) :
    wpAny (model PySem.Challenge.rw_fb0050_01.row.prog w) A (exec (lawSt 6) env) Q E s := by
  cases H with
  | mk B F X N T =>
  cases P1 with
  | mk e1 e2 e3 =>
  cases P2 with
  | mk e4 e5 e6 =>
    obtain ⟨A11, A12⟩ := A1; obtain ⟨A21, A22⟩ := A2; obtain ⟨A31, A32⟩ := A3; obtain ⟨B11, B12⟩ := B1; obtain ⟨B21, B22⟩ := B2; obtain ⟨B31, B32⟩ := B3; obtain ⟨BN1, BN2⟩ := BN
    have e2 : lawSc = Scope.mk _ _ _ _ _ := rfl
    dsimp only at e2
    rw [e2]
    clear e2
    w_on
    revert X; k_fill; intro X
    (show wpAny _ _ (exec (Stmt.Assign _ _ _) _) _ _ _)
    w_strict (k_steps)
    exact ret _ _ _ _ _ _ _ (by k_asm) (by first | (with_reducible assumption) | (refine' n_sub ?cbN ?cbS; (case cbN => assumption); (case cbS => ((repeat ((with_reducible refine' sub_cons ?cbM ?_); (case cbM => kct_strs))); first | (with_reducible exact sub_nil) | ((repeat (first | (with_reducible exact fun _ hp => hp) | (refine sub_skip ?_))); done)))) | k_asm)
theorem seg9 {fa : Addr} {cd : Value} {env : Env} {x x' : Addr} {r1 r2 : Addr} {a1 a2 a3 b1 b2 b3 nn : Int} {t1 t2 t3 u1 u2 u3 tn : Tok} {n1 n2 : Nat} {o2 o3 o4 : Obj} {Q : Flow → Shared → Prop}
    (H : LH w fa cd h₀ L m s news A env) (P1 : PtIn w news x a1 a2 a3) (P2 : PtIn w news x' b1 b2 b3) (m1 : m (Str.ofString "one") = some (.ref x)) (m2 : m (Str.ofString "two") = some (.ref x'))
    (c2 : (L + 1 + 1, o2) ∈ news) (c3 : (L + 1 + 1 + 1, o3) ∈ news) (c4 : (L + 1 + 1 + 1 + 1, o4) ∈ news) (h2 : o2.data = .cell (some (.int nn tn))) (h3 : o3.data = .cell (some (.ref r1))) (h4 : o4.data = .cell (some (.ref r2)))
    (q1 : (r1, rowObj a1 a2 a3 t1 t2 t3 n1) ∈ news) (q2 : (r2, rowObj b1 b2 b3 u1 u2 u3 n2) ∈ news) (A1 : Bd a1) (A2 : Bd a2) (A3 : Bd a3) (B1 : Bd b1) (B2 : Bd b2) (B3 : Bd b3) (BN : Bd nn)
    (ret : ∀ (y d t : Addr) (tk ta tb tc : Tok) (h' : Heap) (tk' : Nat), Fr h₀ L h' (fun z => if z = Str.ofString "made" then some (.ref y) else m z) → News h₀ L h' ((t, tupObj [.int (a2 * b3 - a3 * b2) ta, .int (a3 * b1 - a1 * b3) tb, .int (a1 * b2 - a2 * b1) tc]) :: (y, instObj 134 d) :: (d, dictOf [ptEntry w tk t] 1) :: news) → Q .next { s with heap := h', toks := tk' }) :
    wpAny (model PySem.Challenge.rw_fb0050_01.row.prog w) A (exec (lawSt 9) env) Q E s := by
  cases H with
  | mk B F X N T =>
  cases P1 with
  | mk e1 e2 e3 =>
  cases P2 with
  | mk e4 e5 e6 =>
    obtain ⟨A11, A12⟩ := A1; obtain ⟨A21, A22⟩ := A2; obtain ⟨A31, A32⟩ := A3; obtain ⟨B11, B12⟩ := B1; obtain ⟨B21, B22⟩ := B2; obtain ⟨B31, B32⟩ := B3; obtain ⟨BN1, BN2⟩ := BN
    have e2 : lawSc = Scope.mk _ _ _ _ _ := rfl
    dsimp only at e2
    rw [e2]
    clear e2
    w_on
    revert X; k_fill; intro X
    (show wpAny _ _ (exec (Stmt.Assign _ _ _) _) _ _ _)
    w_strict (k_steps)
    exact ret _ _ _ _ _ _ _ _ _ (by k_asm) (by k_asm)
theorem imul_declines {M : Model} {x d C : Addr} {a : Int} {t : Tok} {Q : Value → Shared → Prop} (ho : s.heap.get? x = some (instObj C d)) (h : Q .notImplemented s) :
    wpAny M A (Builtin.«int.__mul__» ⟨[.int a t, .ref x], []⟩) (fun fin s' => ∃ v, fin = .done (.ret v) ∧ Q v s') E s := by
  obtain ⟨hp, g, d, tk, os⟩ := s
  wp_walk
  exact ⟨_, rfl, h⟩

theorem imul_call {prog : Program} {x d C : Addr} {a : Int} {t : Tok} {Q : Value → Shared → Prop} (ho : s.heap.get? x = some (instObj C d)) (h : Q .notImplemented s) :
    wpAny (model prog w) A (call (.builtin "int.__mul__") [.int a t, .ref x]) Q E s :=
  call_givesAt (P := fun s' => s'.heap.get? x = some (instObj C d)) (T := "int") (name := dunder "mul") (id := "int.__mul__") (B := Builtin.«int.__mul__») (self := .int a t) (rest := [.ref x]) (m := .val .notImplemented) PySem.F.slot_int_mul (typeIs_int s a t) PySem.F.entry_int_mul (PySem.F.args_int_mul_2 _ _) (fun prog w A R s hP h => wpAny_mono (imul_declines hP h) (fun fin s' h' => by obtain ⟨v, rfl, hv⟩ := h'; exact hv) fun _ _ x => x) ho h
theorem r_rmul {prog : Program} {od : Obj} {K : Frag} {x C f g d : Addr} {a : Int} {t : Tok} {Q : Value → Shared → Prop} (F : Fr h₀ L s.heap m) (X₀ : K.In h₀) (N : News h₀ L s.heap news) (hm : (x, instObj C d) ∈ news) (hc : selfFirst K C = true)
    (hs : findIn K (.ref C) (PySem.dunder "mul") = some (some (.ref g))) (hr : findIn K (.ref C) (dunderR "mul") = some (some (.ref f))) (hf : isFn K (.ref f) = true) (hsub : subIn K (.ref C) (.type "int") = some false)
    (I : InstAt s.heap x (instObj C d) C (some od))
    (h : wpAny (model prog w) A (call (.ref f) [.ref x, .int a t]) (PySem.W.CmpBack Q) E s) : wpAny (model prog w) A (binaryOp .Mult (.int a t) (.ref x)) Q E s := by
  have X := X₀.keeps F.keep
  obtain ⟨cd, rest, hcd, hmr⟩ := ksp_first hc
  have one := ksp_try X I hr hf h
  have ho := (N _ hm).1
  have L2 : Looks (model prog w) s.heap (typeOf (.ref x)) (.ref C) := I.type
  have L3 : Looks (model prog w) s.heap (fillsNumberSlot (.ref C) "mul") true := fills_K X hcd hmr hs
  have L5 : Looks (model prog w) s.heap (isSubtype (.ref C) (.type "int")) false := looks_subIn X hsub
  have hne : (Value.type "int" == Value.ref C) = false := Bool.eq_false_iff.mpr fun q => by cases beq_iff_eq.mp q
  have hi : Operator.Mult.info = (Operator.Mult.info.1, "mul") := rfl
  unfold binaryOp
  refine wpAny_holding (wpAny_bind ?_)
  show wpAny _ _ (binaryOp1 "mul" _ _) _ _ _
  unfold binaryOp1
  refine wpAny_bind (wpAny_typeOf (typeIs_int s a t) (wpAny_bind (L2.here (wpAny_bind (wpAny_of_eq PySem.F.fills_int_mul ?_)))))
  simp only [hne, Bool.false_eq_true, if_false]
  refine wpAny_bind (L3.here ?_)
  simp only [Bool.and_self, if_true]
  refine wpAny_bind (L5.here ?_)
  have hpy : numberSlotInPython (.type "int") "mul" = pure false := rfl
  simp only [Bool.false_eq_true, if_false, pure_bind, Bool.not_false, Bool.and_self, if_true, hpy]
  refine wpAny_bind ?_
  refine wpAny_tryMethod_declines (T := "int") (id := "int.__mul__") (name := PySem.dunder "mul") (typeIs_int s a t) ?_ ?_
  exact PySem.F.slot_int_mul
  refine imul_call ho ?_
  refine And.intro rfl ?_
  dsimp only
  refine wpAny_bind (wpAny_mono one (fun r s' hr' => ?_) fun _ _ e => e)
  obtain ⟨v, rfl, hq⟩ := hr'
  exact wpAny_bind (wpAny_rule (wpAny_pure (wpAny_pure hq)))
theorem pk0 {a b c : Int} : pick3 (0 + ((0 : Nat) : Int)) a b c = a := rfl
theorem pk1 {a b c : Int} : pick3 (0 + ((0 + 1 : Nat) : Int)) a b c = b := rfl
theorem pk2 {a b c : Int} : pick3 (0 + ((0 + 1 + 1 : Nat) : Int)) a b c = c := rfl
theorem l3_no {a b c a' b' c' : Int} (h : ¬ [a, b, c] = [a', b', c']) (e1 : a = a') (e2 : b = b') (e3 : c = c') : False := h (by rw [e1, e2, e3])
theorem a3_no {a b c a' b' c' : Int} (h : ¬ (a = a' ∧ b = b' ∧ c = c')) (e1 : a = a') (e2 : b = b') (e3 : c = c') : False := h ⟨e1, e2, e3⟩
theorem ne_no {a b : Int} (h : a ≠ b) (e : a = b) : False := h e
local macro_rules | `(tactic| walk_at "eval ListComp") => `(tactic| (k_here; (with_reducible show wpAny _ _ _ _ _ _); (first | lcg_look | lcf_look); k_dflt (refine LCg.ListComp_U (F₀ := by k_asm) (by with_unfolding_all rfl) (by decide) (by rfl) (by decide) (by rfl) ?_); k_dflt lcg_toSrc))
local macro_rules | `(tactic| walk_at "binaryOp Mult int ref") => `(tactic| (k_here; (with_reducible show wpAny _ _ (binaryOp Operator.Mult (Value.int _ _) (Value.ref _)) _ _ _); k_dflt (refine' r_rmul ?F ?X ?N ?m ?hC ?hS ?hR ?hF ?hU ?I ?_; (case F => k_asm); (case X => k_asm); (case N => k_asm); (case m => k_mem); (case hC => k_is); (case hS => k_is); (case hR => k_is); (case hF => k_is); (case hU => k_is); (case I => k_inst); k_whole)))
local macro_rules | `(tactic| walk_at "subscriptTail Name Name ref int") => `(tactic| (k_here; k_dflt (refine' r_rowi ?N ?m ?k ?_; (case N => k_asm); (case m => k_mem); (case k => omega)); intro t'; (try simp only [pick3_0, pick3_1, pick3_2, pk0, pk1, pk2])))
theorem seg7 {fa : Addr} {cd : Value} {env : Env} {x x' : Addr} {r1 r2 : Addr} {a1 a2 a3 b1 b2 b3 nn : Int} {t1 t2 t3 u1 u2 u3 tn : Tok} {n1 n2 : Nat} {o2 o3 o4 : Obj} {Q : Flow → Shared → Prop}
    (H : LH w fa cd h₀ L m s news A env) (P1 : PtIn w news x a1 a2 a3) (P2 : PtIn w news x' b1 b2 b3) (m1 : m (Str.ofString "one") = some (.ref x)) (m2 : m (Str.ofString "two") = some (.ref x'))
    (c2 : (L + 1 + 1, o2) ∈ news) (c3 : (L + 1 + 1 + 1, o3) ∈ news) (c4 : (L + 1 + 1 + 1 + 1, o4) ∈ news) (h2 : o2.data = .cell (some (.int nn tn))) (h3 : o3.data = .cell (some (.ref r1))) (h4 : o4.data = .cell (some (.ref r2)))
    (q1 : (r1, rowObj a1 a2 a3 t1 t2 t3 n1) ∈ news) (q2 : (r2, rowObj b1 b2 b3 u1 u2 u3 n2) ∈ news) (A1 : Bd a1) (A2 : Bd a2) (A3 : Bd a3) (B1 : Bd b1) (B2 : Bd b2) (B3 : Bd b3) (BN : Bd nn)
    (ret : ∀ (h' : Heap) (tk' : Nat), Fr h₀ L h' m → News h₀ L h' news → Q .next { s with heap := h', toks := tk' }) :
    wpAny (model PySem.Challenge.rw_fb0050_01.row.prog w) A (exec (lawSt 7) env) Q E s := by
  cases H with
  | mk B F X N T =>
  cases P1 with
  | mk e1 e2 e3 =>
  cases P2 with
  | mk e4 e5 e6 =>
    obtain ⟨A11, A12⟩ := A1; obtain ⟨A21, A22⟩ := A2; obtain ⟨A31, A32⟩ := A3; obtain ⟨B11, B12⟩ := B1; obtain ⟨B21, B22⟩ := B2; obtain ⟨B31, B32⟩ := B3; obtain ⟨BN1, BN2⟩ := BN
    have e2 : lawSc = Scope.mk _ _ _ _ _ := rfl
    dsimp only at e2
    rw [e2]
    clear e2
    w_on
    revert X; k_fill; intro X
    (show wpAny _ _ (exec (Stmt.If _ _ _ _) _) _ _ _)
    w_strict (k_steps)
    all_goals first
      | exact ret _ _ (by k_asm) (by first | (with_reducible assumption) | (refine' n_sub ?cbN ?cbS; (case cbN => assumption); (case cbS => ((repeat ((with_reducible refine' sub_cons ?cbM ?_); (case cbM => kct_strs))); first | (with_reducible exact sub_nil) | ((repeat (first | (with_reducible exact fun _ hp => hp) | (refine sub_skip ?_))); done)))) | k_asm)
      | exact (l3_no (by with_reducible assumption) (by first | rfl | exact Int.mul_comm _ _) (by first | rfl | exact Int.mul_comm _ _) (by first | rfl | exact Int.mul_comm _ _)).elim
      | exact (a3_no (by with_reducible assumption) (by first | rfl | omega | grind) (by first | rfl | omega | grind) (by first | rfl | omega | grind)).elim
      | exact (ne_no (by with_reducible assumption) (by first | rfl | omega | grind)).elim
theorem seg8 {fa : Addr} {cd : Value} {env : Env} {x x' : Addr} {r1 r2 : Addr} {a1 a2 a3 b1 b2 b3 nn : Int} {t1 t2 t3 u1 u2 u3 tn : Tok} {n1 n2 : Nat} {o2 o3 o4 : Obj} {Q : Flow → Shared → Prop}
    (H : LH w fa cd h₀ L m s news A env) (P1 : PtIn w news x a1 a2 a3) (P2 : PtIn w news x' b1 b2 b3) (m1 : m (Str.ofString "one") = some (.ref x)) (m2 : m (Str.ofString "two") = some (.ref x'))
    (c2 : (L + 1 + 1, o2) ∈ news) (c3 : (L + 1 + 1 + 1, o3) ∈ news) (c4 : (L + 1 + 1 + 1 + 1, o4) ∈ news) (h2 : o2.data = .cell (some (.int nn tn))) (h3 : o3.data = .cell (some (.ref r1))) (h4 : o4.data = .cell (some (.ref r2)))
    (q1 : (r1, rowObj a1 a2 a3 t1 t2 t3 n1) ∈ news) (q2 : (r2, rowObj b1 b2 b3 u1 u2 u3 n2) ∈ news) (A1 : Bd a1) (A2 : Bd a2) (A3 : Bd a3) (B1 : Bd b1) (B2 : Bd b2) (B3 : Bd b3) (BN : Bd nn)
    (ret : ∀ (h' : Heap) (tk' : Nat), Fr h₀ L h' m → News h₀ L h' news → Q .next { s with heap := h', toks := tk' }) :
    wpAny (model PySem.Challenge.rw_fb0050_01.row.prog w) A (exec (lawSt 8) env) Q E s := by
  cases H with
  | mk B F X N T =>
  cases P1 with
  | mk e1 e2 e3 =>
  cases P2 with
  | mk e4 e5 e6 =>
    obtain ⟨A11, A12⟩ := A1; obtain ⟨A21, A22⟩ := A2; obtain ⟨A31, A32⟩ := A3; obtain ⟨B11, B12⟩ := B1; obtain ⟨B21, B22⟩ := B2; obtain ⟨B31, B32⟩ := B3; obtain ⟨BN1, BN2⟩ := BN
    have e2 : lawSc = Scope.mk _ _ _ _ _ := rfl
    dsimp only at e2
    rw [e2]
    clear e2
    w_on
    revert X; k_fill; intro X
    (show wpAny _ _ (exec (Stmt.If _ _ _ _) _) _ _ _)
    w_strict (k_steps)
    all_goals first
      | exact ret _ _ (by k_asm) (by first | (with_reducible assumption) | (refine' n_sub ?cbN ?cbS; (case cbN => assumption); (case cbS => ((repeat ((with_reducible refine' sub_cons ?cbM ?_); (case cbM => kct_strs))); first | (with_reducible exact sub_nil) | ((repeat (first | (with_reducible exact fun _ hp => hp) | (refine sub_skip ?_))); done)))) | k_asm)
      | exact (l3_no (by with_reducible assumption) (by first | rfl | exact Int.mul_comm _ _) (by first | rfl | exact Int.mul_comm _ _) (by first | rfl | exact Int.mul_comm _ _)).elim
      | exact (a3_no (by with_reducible assumption) (by first | rfl | omega | grind) (by first | rfl | omega | grind) (by first | rfl | omega | grind)).elim
      | exact (ne_no (by with_reducible assumption) (by first | rfl | omega | grind)).elim
theorem seg10 {fa : Addr} {cd : Value} {env : Env} {x x' : Addr} {r1 r2 : Addr} {a1 a2 a3 b1 b2 b3 nn : Int} {t1 t2 t3 u1 u2 u3 tn : Tok} {n1 n2 : Nat} {o2 o3 o4 : Obj} {Q : Flow → Shared → Prop}
    (H : LH w fa cd h₀ L m s news A env) (P1 : PtIn w news x a1 a2 a3) (P2 : PtIn w news x' b1 b2 b3) (m1 : m (Str.ofString "one") = some (.ref x)) (m2 : m (Str.ofString "two") = some (.ref x'))
    (c2 : (L + 1 + 1, o2) ∈ news) (c3 : (L + 1 + 1 + 1, o3) ∈ news) (c4 : (L + 1 + 1 + 1 + 1, o4) ∈ news) (h2 : o2.data = .cell (some (.int nn tn))) (h3 : o3.data = .cell (some (.ref r1))) (h4 : o4.data = .cell (some (.ref r2)))
    (q1 : (r1, rowObj a1 a2 a3 t1 t2 t3 n1) ∈ news) (q2 : (r2, rowObj b1 b2 b3 u1 u2 u3 n2) ∈ news) (A1 : Bd a1) (A2 : Bd a2) (A3 : Bd a3) (B1 : Bd b1) (B2 : Bd b2) (B3 : Bd b3) (BN : Bd nn)
    {y r3 : Addr} {v1 v2 v3 : Tok} {n3 : Nat} (P3 : PtIn w news y (a2 * b3 - a3 * b2) (a3 * b1 - a1 * b3) (a1 * b2 - a2 * b1)) (m3 : m (Str.ofString "made") = some (.ref y)) (m4 : m (Str.ofString "crossed") = some (.ref r3)) (q3 : (r3, rowObj (a2 * b3 - a3 * b2) (a3 * b1 - a1 * b3) (a1 * b2 - a2 * b1) v1 v2 v3 n3) ∈ news)
    (S1 : Sm (a2 * b3 - a3 * b2)) (S2 : Sm (a3 * b1 - a1 * b3)) (S3 : Sm (a1 * b2 - a2 * b1))
    (ret : ∀ (h' : Heap) (tk' : Nat), Fr h₀ L h' m → News h₀ L h' news → Q .next { s with heap := h', toks := tk' }) :
    wpAny (model PySem.Challenge.rw_fb0050_01.row.prog w) A (exec (lawSt 10) env) Q E s := by
  cases H with
  | mk B F X N T =>
  cases P1 with
  | mk e1 e2 e3 =>
  cases P2 with
  | mk e4 e5 e6 =>
  cases P3 with
  | mk e7 e8 e9 =>
    obtain ⟨A11, A12⟩ := A1; obtain ⟨A21, A22⟩ := A2; obtain ⟨A31, A32⟩ := A3; obtain ⟨B11, B12⟩ := B1; obtain ⟨B21, B22⟩ := B2; obtain ⟨B31, B32⟩ := B3; obtain ⟨BN1, BN2⟩ := BN
    have e2 : lawSc = Scope.mk _ _ _ _ _ := rfl
    dsimp only at e2
    rw [e2]
    clear e2
    w_on
    revert X; k_fill; intro X
    (show wpAny _ _ (exec (Stmt.If _ _ _ _) _) _ _ _)
    w_strict (k_steps)
    all_goals first
      | exact ret _ _ (by k_asm) (by first | (with_reducible assumption) | (refine' n_sub ?cbN ?cbS; (case cbN => assumption); (case cbS => ((repeat ((with_reducible refine' sub_cons ?cbM ?_); (case cbM => kct_strs))); first | (with_reducible exact sub_nil) | ((repeat (first | (with_reducible exact fun _ hp => hp) | (refine sub_skip ?_))); done)))) | k_asm)
      | exact (l3_no (by with_reducible assumption) (by first | rfl | exact Int.mul_comm _ _) (by first | rfl | exact Int.mul_comm _ _) (by first | rfl | exact Int.mul_comm _ _)).elim
      | exact (a3_no (by with_reducible assumption) (by first | rfl | omega | grind) (by first | rfl | omega | grind) (by first | rfl | omega | grind)).elim
      | exact (ne_no (by with_reducible assumption) (by first | rfl | omega | grind)).elim
theorem seg11 {fa : Addr} {cd : Value} {env : Env} {x x' : Addr} {r1 r2 : Addr} {a1 a2 a3 b1 b2 b3 nn : Int} {t1 t2 t3 u1 u2 u3 tn : Tok} {n1 n2 : Nat} {o2 o3 o4 : Obj} {Q : Flow → Shared → Prop}
    (H : LH w fa cd h₀ L m s news A env) (P1 : PtIn w news x a1 a2 a3) (P2 : PtIn w news x' b1 b2 b3) (m1 : m (Str.ofString "one") = some (.ref x)) (m2 : m (Str.ofString "two") = some (.ref x'))
    (c2 : (L + 1 + 1, o2) ∈ news) (c3 : (L + 1 + 1 + 1, o3) ∈ news) (c4 : (L + 1 + 1 + 1 + 1, o4) ∈ news) (h2 : o2.data = .cell (some (.int nn tn))) (h3 : o3.data = .cell (some (.ref r1))) (h4 : o4.data = .cell (some (.ref r2)))
    (q1 : (r1, rowObj a1 a2 a3 t1 t2 t3 n1) ∈ news) (q2 : (r2, rowObj b1 b2 b3 u1 u2 u3 n2) ∈ news) (A1 : Bd a1) (A2 : Bd a2) (A3 : Bd a3) (B1 : Bd b1) (B2 : Bd b2) (B3 : Bd b3) (BN : Bd nn)
    {y r3 : Addr} {v1 v2 v3 : Tok} {n3 : Nat} (P3 : PtIn w news y (a2 * b3 - a3 * b2) (a3 * b1 - a1 * b3) (a1 * b2 - a2 * b1)) (m3 : m (Str.ofString "made") = some (.ref y)) (m4 : m (Str.ofString "crossed") = some (.ref r3)) (q3 : (r3, rowObj (a2 * b3 - a3 * b2) (a3 * b1 - a1 * b3) (a1 * b2 - a2 * b1) v1 v2 v3 n3) ∈ news)
    (S1 : Sm (a2 * b3 - a3 * b2)) (S2 : Sm (a3 * b1 - a1 * b3)) (S3 : Sm (a1 * b2 - a2 * b1)) (S4 : (a1 * b1 + a2 * b2 + a3 * b3).natAbs < 2 ^ 64)
    (ret : ∀ (h' : Heap) (tk' : Nat), Fr h₀ L h' m → News h₀ L h' news → Q .next { s with heap := h', toks := tk' }) :
    wpAny (model PySem.Challenge.rw_fb0050_01.row.prog w) A (exec (lawSt 11) env) Q E s := by
  cases H with
  | mk B F X N T =>
  cases P1 with
  | mk e1 e2 e3 =>
  cases P2 with
  | mk e4 e5 e6 =>
  cases P3 with
  | mk e7 e8 e9 =>
    obtain ⟨A11, A12⟩ := A1; obtain ⟨A21, A22⟩ := A2; obtain ⟨A31, A32⟩ := A3; obtain ⟨B11, B12⟩ := B1; obtain ⟨B21, B22⟩ := B2; obtain ⟨B31, B32⟩ := B3; obtain ⟨BN1, BN2⟩ := BN
    have e2 : lawSc = Scope.mk _ _ _ _ _ := rfl
    dsimp only at e2
    rw [e2]
    clear e2
    w_on
    revert X; k_fill; intro X
    (show wpAny _ _ (exec (Stmt.If _ _ _ _) _) _ _ _)
    w_strict (k_steps)
    all_goals first
      | exact ret _ _ (by k_asm) (by first | (with_reducible assumption) | (refine' n_sub ?cbN ?cbS; (case cbN => assumption); (case cbS => ((repeat ((with_reducible refine' sub_cons ?cbM ?_); (case cbM => kct_strs))); first | (with_reducible exact sub_nil) | ((repeat (first | (with_reducible exact fun _ hp => hp) | (refine sub_skip ?_))); done)))) | k_asm)
      | exact (l3_no (by with_reducible assumption) (by first | rfl | exact Int.mul_comm _ _) (by first | rfl | exact Int.mul_comm _ _) (by first | rfl | exact Int.mul_comm _ _)).elim
      | exact (a3_no (by with_reducible assumption) (by first | rfl | omega | grind) (by first | rfl | omega | grind) (by first | rfl | omega | grind)).elim
      | exact (ne_no (by with_reducible assumption) (by first | rfl | omega | grind)).elim
local macro_rules | `(tactic| walk_at "binaryOp Mod int int") => `(tactic| (k_here; (with_reducible refine r_mod ?a ?b ?_); (case a => omega); (case b => omega); intro v' hv' hv0' hv1'))
theorem seg13 {fa : Addr} {cd : Value} {env : Env} {st sl : Addr} {c : Int} {t : Tok} {vs : List Value} {xs : List Int} {o1 oc : Obj} {y : Option Value} {tz : Tok} {keep : List (Addr × Obj)} {Q : Flow → Shared → Prop}
    (H : LH w fa cd h₀ L m s ((st, stObj sl c t) :: (sl, slObj vs.toArray) :: (L + 1 + 1 + 1 + 1 + 1, oc) :: (L + 1, o1) :: keep) A env) (hX : IntsAre vs xs) (hl : xs.length ≤ 60) (hc : 0 ≤ c ∧ c < 900) (h1 : o1.data = .cell (some (.ref st))) (hcl : oc.data = .cell y)
    (k0 : sl ≠ st) (k1 : ∀ p ∈ keep, p.1 ≠ st) (k2 : ∀ p ∈ keep, p.1 ≠ L + 1 + 1 + 1 + 1 + 1)
    (ret : ∀ (v : Int) (tv t' : Tok) (oc' : Obj) (h' : Heap) (tk' : Nat), Fr h₀ L h' m → News h₀ L h' ((st, stObj sl (c + 1) t') :: (sl, slObj vs.toArray) :: (L + 1 + 1 + 1 + 1 + 1, oc') :: (L + 1, o1) :: keep) → oc'.data = .cell (some (.int v tv)) → 0 ≤ v → v < 6 → Q .next { s with heap := h', toks := tk' }) :
    wpAny (model PySem.Challenge.rw_fb0050_01.row.prog w) A (exec (lawSt 13) env) Q E s := by
  cases H with
  | mk B F X N T =>
    have e2 : lawSc = Scope.mk _ _ _ _ _ := rfl
    dsimp only at e2
    rw [e2]
    clear e2
    w_on
    revert X; k_fill; intro X
    obtain ⟨n1, n2⟩ := ne_cell N (a := L + 1) (b := st) (o := o1) (by simp) (o' := stObj sl c t) (by simp) h1 rfl
    obtain ⟨n3, n4⟩ := ne_cell N (a := L + 1 + 1 + 1 + 1 + 1) (b := st) (o := oc) (by simp) (o' := stObj sl c t) (by simp) hcl rfl
    obtain ⟨n5, n6⟩ := ne_cell N (a := L + 1 + 1 + 1 + 1 + 1) (b := sl) (o := oc) (by simp) (o' := slObj vs.toArray) (by simp) hcl rfl
    have n7 : L + 1 ≠ L + 1 + 1 + 1 + 1 + 1 := neN (by omega)
    (show wpAny _ _ (exec (Stmt.Assign _ _ _) _) _ _ _)
    w_strict (k_steps)
    exact ret _ _ _ _ _ _ (by k_asm) (by first | (with_reducible assumption) | (refine' n_sub ?cbN ?cbS; (case cbN => assumption); (case cbS => ((repeat ((with_reducible refine' sub_cons ?cbM ?_); (case cbM => kct_strs))); first | (with_reducible exact sub_nil) | ((repeat (first | (with_reducible exact fun _ hp => hp) | (refine sub_skip ?_))); done)))) | k_asm) (by with_reducible assumption) (by with_reducible assumption) (by with_reducible assumption)
theorem seg14 {fa : Addr} {cd : Value} {env : Env} {Q : Flow → Shared → Prop}
    (H : LH w fa cd h₀ L m s news A env)
    (ret : ∀ (tz : Tok) (h' : Heap) (tk' : Nat), Fr h₀ L h' (fun z => if z = Str.ofString "size" then some (.int 1073741824 tz) else m z) → News h₀ L h' news → Q .next { s with heap := h', toks := tk' }) :
    wpAny (model PySem.Challenge.rw_fb0050_01.row.prog w) A (exec (lawSt 14) env) Q E s := by
  cases H with
  | mk B F X N T =>
    have e2 : lawSc = Scope.mk _ _ _ _ _ := rfl
    dsimp only at e2
    rw [e2]
    clear e2
    w_on
    revert X; k_fill; intro X
    (show wpAny _ _ (exec (Stmt.Assign _ _ _) _) _ _ _)
    w_strict (k_steps)
    exact ret _ _ _ (by k_asm) (by k_asm)
theorem seg15 {fa : Addr} {cd : Value} {env : Env} {st sl : Addr} {c : Int} {t : Tok} {vs : List Value} {xs : List Int} {o1 oc : Obj} {y : Option Value} {tz : Tok} {keep : List (Addr × Obj)} {Q : Flow → Shared → Prop}
    (H : LH w fa cd h₀ L m s ((st, stObj sl c t) :: (sl, slObj vs.toArray) :: (L + 1 + 1 + 1 + 1 + 1 + 1, oc) :: (L + 1, o1) :: keep) A env) (hX : IntsAre vs xs) (hl : xs.length ≤ 60) (hc : 0 ≤ c ∧ c < 900) (h1 : o1.data = .cell (some (.ref st))) (hcl : oc.data = .cell y) (hm : m (Str.ofString "size") = some (.int 1073741824 tz))
    (k0 : sl ≠ st) (k1 : ∀ p ∈ keep, p.1 ≠ st) (k2 : ∀ p ∈ keep, p.1 ≠ L + 1 + 1 + 1 + 1 + 1 + 1)
    (ret : ∀ (v : Int) (tv t' : Tok) (oc' : Obj) (h' : Heap) (tk' : Nat), Fr h₀ L h' m → News h₀ L h' ((st, stObj sl (c + 1 + 1) t') :: (sl, slObj vs.toArray) :: (L + 1 + 1 + 1 + 1 + 1 + 1, oc') :: (L + 1, o1) :: keep) → oc'.data = .cell (some (.int v tv)) → 0 ≤ v → v < 1073741824 → Q .next { s with heap := h', toks := tk' }) :
    wpAny (model PySem.Challenge.rw_fb0050_01.row.prog w) A (exec (lawSt 15) env) Q E s := by
  cases H with
  | mk B F X N T =>
    have e2 : lawSc = Scope.mk _ _ _ _ _ := rfl
    dsimp only at e2
    rw [e2]
    clear e2
    w_on
    revert X; k_fill; intro X
    obtain ⟨n1, n2⟩ := ne_cell N (a := L + 1) (b := st) (o := o1) (by simp) (o' := stObj sl c t) (by simp) h1 rfl
    obtain ⟨n3, n4⟩ := ne_cell N (a := L + 1 + 1 + 1 + 1 + 1 + 1) (b := st) (o := oc) (by simp) (o' := stObj sl c t) (by simp) hcl rfl
    obtain ⟨n5, n6⟩ := ne_cell N (a := L + 1 + 1 + 1 + 1 + 1 + 1) (b := sl) (o := oc) (by simp) (o' := slObj vs.toArray) (by simp) hcl rfl
    have n7 : L + 1 ≠ L + 1 + 1 + 1 + 1 + 1 + 1 := neN (by omega)
    (show wpAny _ _ (exec (Stmt.Assign _ _ _) _) _ _ _)
    w_strict (k_steps)
    trace_state
    exact ret _ _ _ _ _ _ (by k_asm) (by first | (with_reducible assumption) | (refine' n_sub ?cbN ?cbS; (case cbN => assumption); (case cbS => ((repeat ((with_reducible refine' sub_cons ?cbM ?_); (case cbM => kct_strs))); first | (with_reducible exact sub_nil) | ((repeat (first | (with_reducible exact fun _ hp => hp) | (refine sub_skip ?_))); done)))) | k_asm) (by with_reducible assumption) (by with_reducible assumption) (by with_reducible assumption)
theorem seg16 {fa : Addr} {cd : Value} {env : Env} {st sl : Addr} {c : Int} {t : Tok} {vs : List Value} {xs : List Int} {o1 oc : Obj} {y : Option Value} {tz : Tok} {keep : List (Addr × Obj)} {Q : Flow → Shared → Prop}
    (H : LH w fa cd h₀ L m s ((st, stObj sl c t) :: (sl, slObj vs.toArray) :: (L + 1, o1) :: keep) A env) (hX : IntsAre vs xs) (hl : xs.length ≤ 60) (hc : 0 ≤ c ∧ c < 900) (h1 : o1.data = .cell (some (.ref st))) (hm : m (Str.ofString "size") = some (.int 1073741824 tz))
    (k0 : sl ≠ st) (k1 : ∀ p ∈ keep, p.1 ≠ st)
    (ret : ∀ (v : Int) (tv t' : Tok) (h' : Heap) (tk' : Nat), Fr h₀ L h' (fun z => if z = Str.ofString "j" then some (.int v tv) else m z) → News h₀ L h' ((st, stObj sl (c + 1) t') :: (sl, slObj vs.toArray) :: (L + 1, o1) :: keep) → 0 ≤ v → v < 1073741824 → Q .next { s with heap := h', toks := tk' }) :
    wpAny (model PySem.Challenge.rw_fb0050_01.row.prog w) A (exec (lawSt 16) env) Q E s := by
  cases H with
  | mk B F X N T =>
    have e2 : lawSc = Scope.mk _ _ _ _ _ := rfl
    dsimp only at e2
    rw [e2]
    clear e2
    w_on
    revert X; k_fill; intro X
    obtain ⟨n1, n2⟩ := ne_cell N (a := L + 1) (b := st) (o := o1) (by simp) (o' := stObj sl c t) (by simp) h1 rfl
    (show wpAny _ _ (exec (Stmt.Assign _ _ _) _) _ _ _)
    w_strict (k_steps)
    trace_state
    exact ret _ _ _ _ _ (by k_asm) (by first | (with_reducible assumption) | (refine' n_sub ?cbN ?cbS; (case cbN => assumption); (case cbS => ((repeat ((with_reducible refine' sub_cons ?cbM ?_); (case cbM => kct_strs))); first | (with_reducible exact sub_nil) | ((repeat (first | (with_reducible exact fun _ hp => hp) | (refine sub_skip ?_))); done)))) | k_asm) (by with_reducible assumption) (by with_reducible assumption)
theorem seg17 {fa : Addr} {cd : Value} {env : Env} {f i j : Int} {tf ti tj tz : Tok} {o5 o6 : Obj} {Q : Flow → Shared → Prop}
    (H : LH w fa cd h₀ L m s news A env) (c5 : (L + 1 + 1 + 1 + 1 + 1, o5) ∈ news) (c6 : (L + 1 + 1 + 1 + 1 + 1 + 1, o6) ∈ news) (h5 : o5.data = .cell (some (.int f tf))) (h6 : o6.data = .cell (some (.int i ti)))
    (m1 : m (Str.ofString "size") = some (.int 1073741824 tz)) (m2 : m (Str.ofString "j") = some (.int j tj)) (hf : 0 ≤ f ∧ f < 6) (hi : 0 ≤ i ∧ i < 1073741824) (hj : 0 ≤ j ∧ j < 1073741824)
    (ret : ∀ (y d t : Addr) (tk ta tb tc : Tok) (h' : Heap) (tk' : Nat), Fr h₀ L h' (fun z => if z = Str.ofString "laid" then some (.ref y) else m z) → News h₀ L h' ((t, tupObj [.int (fX f (2 * i + 1 - 1073741824) (2 * j + 1 - 1073741824) + fX f 0 0 * (1073741824 - 1)) ta, .int (fY f (2 * i + 1 - 1073741824) (2 * j + 1 - 1073741824) + fY f 0 0 * (1073741824 - 1)) tb, .int (fZ f (2 * i + 1 - 1073741824) (2 * j + 1 - 1073741824) + fZ f 0 0 * (1073741824 - 1)) tc]) :: (y, instObj 134 d) :: (d, dictOf [ptEntry w tk t] 1) :: news) → Q .next { s with heap := h', toks := tk' }) :
    wpAny (model PySem.Challenge.rw_fb0050_01.row.prog w) A (exec (lawSt 17) env) Q E s := by
  cases H with
  | mk B F X N T =>
    have e2 : lawSc = Scope.mk _ _ _ _ _ := rfl
    dsimp only at e2
    rw [e2]
    clear e2
    w_on
    revert X; k_fill; intro X
    (show wpAny _ _ (exec (Stmt.Assign _ _ _) _) _ _ _)
    w_strict (k_steps)
    trace_state
    exact ret _ _ _ _ _ _ _ _ _ (by k_asm) (by first | (with_reducible assumption) | (refine' n_sub ?cbN ?cbS; (case cbN => assumption); (case cbS => ((repeat ((with_reducible refine' sub_cons ?cbM ?_); (case cbM => kct_strs))); first | (with_reducible exact sub_nil) | ((repeat (first | (with_reducible exact fun _ hp => hp) | (refine sub_skip ?_))); done)))) | k_asm)
theorem seg20 {fa : Addr} {cd : Value} {env : Env} {st sl : Addr} {c : Int} {t : Tok} {vs : List Value} {xs : List Int} {o1 oc : Obj} {y : Option Value} {tz : Tok} {keep : List (Addr × Obj)} {Q : Flow → Shared → Prop}
    (H : LH w fa cd h₀ L m s ((st, stObj sl c t) :: (sl, slObj vs.toArray) :: (L + 1, o1) :: keep) A env) (hX : IntsAre vs xs) (hl : xs.length ≤ 60) (hc : 0 ≤ c ∧ c < 900) (h1 : o1.data = .cell (some (.ref st)))
    (k0 : sl ≠ st) (k1 : ∀ p ∈ keep, p.1 ≠ st)
    (ret : ∀ (v : Int) (tv t' : Tok) (h' : Heap) (tk' : Nat), Fr h₀ L h' (fun z => if z = Str.ofString "far" then some (.int v tv) else m z) → News h₀ L h' ((st, stObj sl (c + 1) t') :: (sl, slObj vs.toArray) :: (L + 1, o1) :: keep) → 1 ≤ v → v ≤ 500 → Q .next { s with heap := h', toks := tk' }) :
    wpAny (model PySem.Challenge.rw_fb0050_01.row.prog w) A (exec (lawSt 20) env) Q E s := by
  cases H with
  | mk B F X N T =>
    have e2 : lawSc = Scope.mk _ _ _ _ _ := rfl
    dsimp only at e2
    rw [e2]
    clear e2
    w_on
    revert X; k_fill; intro X
    obtain ⟨n1, n2⟩ := ne_cell N (a := L + 1) (b := st) (o := o1) (by simp) (o' := stObj sl c t) (by simp) h1 rfl
    (show wpAny _ _ (exec (Stmt.Assign _ _ _) _) _ _ _)
    w_strict (k_steps)
    trace_state
    exact ret _ _ _ _ _ (by k_asm) (by first | (with_reducible assumption) | (refine' n_sub ?cbN ?cbS; (case cbN => assumption); (case cbS => ((repeat ((with_reducible refine' sub_cons ?cbM ?_); (case cbM => kct_strs))); first | (with_reducible exact sub_nil) | ((repeat (first | (with_reducible exact fun _ hp => hp) | (refine sub_skip ?_))); done)))) | k_asm) (by omega) (by omega)
theorem mx_neg (a : Int) : mx (-a) = mx a := by unfold mx; (repeat' split) <;> omega
theorem lac_neg (a b c : Int) : lac (-a) (-b) (-c) = lac a b c := by unfold lac; rw [mx_neg, mx_neg, mx_neg]
theorem qt_neg (a b : Int) : qt (-a) (-b) = qt a b := by
  unfold qt
  have e1 : -a * 18014398509481984 + -b = -(a * 18014398509481984 + b) := by omega
  have e2 : 2 * -b = -(2 * b) := by omega
  rw [e1, e2, Int.neg_fdiv_neg]
theorem fcOf_cases {a b c : Int} (h : ¬ (a = 0 ∧ b = 0 ∧ c = 0)) : (lac a b c = 0 ∧ ((0 < a ∧ fcOf a b c = 0) ∨ (a < 0 ∧ fcOf a b c = 3))) ∨ (lac a b c = 1 ∧ ((0 < b ∧ fcOf a b c = 1) ∨ (b < 0 ∧ fcOf a b c = 4))) ∨ (lac a b c = 2 ∧ ((0 < c ∧ fcOf a b c = 2) ∨ (c < 0 ∧ fcOf a b c = 5))) := by
  have hb := lac_big a b c h
  by_cases hx : pick3 (lac a b c) a b c < 0
  · have q : fcOf a b c = lac a b c + 3 := if_pos hx
    rcases lac_range a b c with e | e | e <;> rw [e] at hb hx q <;> simp only [pick3_0, pick3_1, pick3_2] at hb hx <;> omega
  · have q : fcOf a b c = lac a b c := if_neg hx
    rcases lac_range a b c with e | e | e <;> rw [e] at hb hx q <;> simp only [pick3_0, pick3_1, pick3_2] at hb hx <;> omega
theorem fcOf_of_pos {a b c : Int} (hn : 0 < pick3 (lac a b c) a b c) : fcOf a b c = lac a b c := if_neg (by omega)
theorem fcOf_of_npos {a b c : Int} (h : ¬ (a = 0 ∧ b = 0 ∧ c = 0)) (hn : ¬ 0 < pick3 (lac a b c) a b c) : fcOf a b c = lac a b c + 3 := if_pos (by have := lac_big a b c h; omega)
theorem fcOf_fD {a b c : Int} (h : ¬ (a = 0 ∧ b = 0 ∧ c = 0)) : 0 < fD (fcOf a b c) a b c := by
  rcases fcOf_cases h with ⟨_, h⟩ | ⟨_, h⟩ | ⟨_, h⟩ <;> rcases h with ⟨h, e⟩ | ⟨h, e⟩ <;> rw [e] <;> simp only [fD_0, fD_1, fD_2, fD_3, fD_4, fD_5] <;> omega
theorem opp_face {a b c : Int} (h : ¬ (a = 0 ∧ b = 0 ∧ c = 0)) : fcOf (-a) (-b) (-c) = Int.fmod (fcOf a b c + 3) 6 := by
  have h' : ¬ (-a = 0 ∧ -b = 0 ∧ -c = 0) := by omega
  have hl := lac_neg a b c
  rcases fcOf_cases h with ⟨l, h⟩ | ⟨l, h⟩ | ⟨l, h⟩ <;> rcases h with ⟨h, e⟩ | ⟨h, e⟩ <;> rcases fcOf_cases h' with ⟨k, g⟩ | ⟨k, g⟩ | ⟨k, g⟩ <;> rcases g with ⟨g, f⟩ | ⟨g, f⟩ <;> rw [e, f] <;> first | rfl | (exfalso; omega)
theorem opp_uv {f a b c : Int} (h0 : 0 ≤ f) (h6 : f < 6) : vU (Int.fmod (f + 3) 6) (-a) (-b) (-c) = vV f a b c ∧ vV (Int.fmod (f + 3) 6) (-a) (-b) (-c) = vU f a b c := by
  have h : f = 0 ∨ f = 1 ∨ f = 2 ∨ f = 3 ∨ f = 4 ∨ f = 5 := by omega
  have q : ∀ x y : Int, qt x (-y) = qt (-x) y := fun x y => by have := qt_neg (-x) y; rwa [Int.neg_neg] at this
  rcases h with rfl | rfl | rfl | rfl | rfl | rfl
  · exact ⟨qt_neg c a, qt_neg b a⟩
  · exact ⟨qt_neg c b, by show qt (- -a) (-b) = qt (-a) b; rw [Int.neg_neg]; exact q a b⟩
  · exact ⟨by show qt (- -b) (-c) = qt (-b) c; rw [Int.neg_neg]; exact q b c, by show qt (- -a) (-c) = qt (-a) c; rw [Int.neg_neg]; exact q a c⟩
  · exact ⟨qt_neg b a, qt_neg c a⟩
  · exact ⟨by show qt (- -a) (-b) = qt (-a) b; rw [Int.neg_neg]; exact q a b, qt_neg c b⟩
  · exact ⟨by show qt (- -a) (-c) = qt (-a) c; rw [Int.neg_neg]; exact q a c, by show qt (- -b) (-c) = qt (-b) c; rw [Int.neg_neg]; exact q b c⟩
theorem opp_U {a b c : Int} (h : ¬ (a = 0 ∧ b = 0 ∧ c = 0)) : vU (fcOf (-a) (-b) (-c)) (-a) (-b) (-c) = vV (fcOf a b c) a b c := by
  rw [opp_face h]; exact (opp_uv (fcOf_range a b c).1 (fcOf_range a b c).2).1
theorem opp_V {a b c : Int} (h : ¬ (a = 0 ∧ b = 0 ∧ c = 0)) : vV (fcOf (-a) (-b) (-c)) (-a) (-b) (-c) = vU (fcOf a b c) a b c := by
  rw [opp_face h]; exact (opp_uv (fcOf_range a b c).1 (fcOf_range a b c).2).2
/-- the square's middle -/
theorem qt_p (u : Int) : qt u 1073741824 = u * 8388608 := by
  have h : u * 18014398509481984 + 1073741824 = 1073741824 + (2 * 1073741824) * (u * 8388608) := by omega
  show Int.fdiv (u * 18014398509481984 + 1073741824) (2 * 1073741824) = u * 8388608
  rw [h, Int.fdiv_eq_ediv_of_nonneg _ (by decide), Int.add_mul_ediv_left _ _ (by decide)]; simp
theorem qt_m (u : Int) : qt u (-1073741824) = -u * 8388608 := by
  have := qt_neg (-u) 1073741824
  rw [Int.neg_neg] at this
  rw [this]; exact qt_p (-u)
/-- a point of a face's plane at 2^30, seen -/
theorem on_face {f u v : Int} (h0 : 0 ≤ f) (h6 : f < 6) (hu : -1073741824 < u ∧ u < 1073741824) (hv : -1073741824 < v ∧ v < 1073741824) :
    fcOf (fX f u v + fX f 0 0 * 1073741823) (fY f u v + fY f 0 0 * 1073741823) (fZ f u v + fZ f 0 0 * 1073741823) = f ∧
    vU f (fX f u v + fX f 0 0 * 1073741823) (fY f u v + fY f 0 0 * 1073741823) (fZ f u v + fZ f 0 0 * 1073741823) = u * 8388608 ∧
    vV f (fX f u v + fX f 0 0 * 1073741823) (fY f u v + fY f 0 0 * 1073741823) (fZ f u v + fZ f 0 0 * 1073741823) = v * 8388608 := by
  have h : f = 0 ∨ f = 1 ∨ f = 2 ∨ f = 3 ∨ f = 4 ∨ f = 5 := by omega
  have l0 : ∀ x y : Int, -1073741824 < x → x < 1073741824 → -1073741824 < y → y < 1073741824 → ∀ z : Int, z = 1073741824 ∨ z = -1073741824 → mx x < mx z ∧ mx y < mx z := by
    intro x y _ _ _ _ z hz; unfold mx; rcases hz with rfl | rfl <;> (repeat' split) <;> omega
  rcases h with rfl | rfl | rfl | rfl | rfl | rfl
  · simp only [fX_0, fY_0, fZ_0, Int.zero_mul, Int.add_zero]
    refine ⟨?_, qt_p u, qt_p v⟩
    have hl := l0 u v hu.1 hu.2 hv.1 hv.2 1073741824 (.inl rfl)
    have e : lac (1 + 1 * 1073741823) u v = 0 := by unfold lac; exact (if_pos hl.1).trans (if_pos hl.2)
    unfold fcOf; rw [e]; rfl
  · simp only [fX_1, fY_1, fZ_1, Int.neg_zero, Int.zero_mul, Int.add_zero]
    refine ⟨?_, ?_, qt_p v⟩
    · have hl := l0 (-u) v (by omega) (by omega) hv.1 hv.2 1073741824 (.inl rfl)
      have e : lac (-u) (1 + 1 * 1073741823) v = 1 := by unfold lac; exact (if_neg (Int.not_lt.mpr (Int.le_of_lt hl.1))).trans (if_pos hl.2)
      unfold fcOf; rw [e]; rfl
    · show qt (- -u) 1073741824 = _; rw [Int.neg_neg]; exact qt_p u
  · simp only [fX_2, fY_2, fZ_2, Int.neg_zero, Int.zero_mul, Int.add_zero]
    refine ⟨?_, ?_, ?_⟩
    · have hl := l0 (-u) (-v) (by omega) (by omega) (by omega) (by omega) 1073741824 (.inl rfl)
      have e : lac (-u) (-v) (1 + 1 * 1073741823) = 2 := by
        unfold lac; split
        · exact if_neg (Int.not_lt.mpr (Int.le_of_lt hl.1))
        · exact if_neg (Int.not_lt.mpr (Int.le_of_lt hl.2))
      unfold fcOf; rw [e]; rfl
    · show qt (- -u) 1073741824 = _; rw [Int.neg_neg]; exact qt_p u
    · show qt (- -v) 1073741824 = _; rw [Int.neg_neg]; exact qt_p v
  · simp only [fX_3, fY_3, fZ_3, Int.neg_zero, Int.zero_mul, Int.add_zero]
    refine ⟨?_, ?_, ?_⟩
    · have hl := l0 (-v) (-u) (by omega) (by omega) (by omega) (by omega) (-1073741824) (.inr rfl)
      have e : lac (-1 + -1 * 1073741823) (-v) (-u) = 0 := by unfold lac; exact (if_pos hl.1).trans (if_pos hl.2)
      unfold fcOf; rw [e]; rfl
    · show qt (-u) (-1073741824) = _; rw [qt_m, Int.neg_neg]
    · show qt (-v) (-1073741824) = _; rw [qt_m, Int.neg_neg]
  · simp only [fX_4, fY_4, fZ_4, Int.neg_zero, Int.zero_mul, Int.add_zero]
    refine ⟨?_, ?_, ?_⟩
    · have hl := l0 v (-u) (by omega) (by omega) (by omega) (by omega) (-1073741824) (.inr rfl)
      have e : lac v (-1 + -1 * 1073741823) (-u) = 1 := by unfold lac; exact (if_neg (Int.not_lt.mpr (Int.le_of_lt hl.1))).trans (if_pos hl.2)
      unfold fcOf; rw [e]; rfl
    · show qt (-u) (-1073741824) = _; rw [qt_m, Int.neg_neg]
    · show qt (-v) (-1073741824) = _; rw [qt_m, Int.neg_neg]
  · simp only [fX_5, fY_5, fZ_5, Int.neg_zero, Int.zero_mul, Int.add_zero]
    refine ⟨?_, ?_, ?_⟩
    · have hl := l0 v u (by omega) (by omega) (by omega) (by omega) (-1073741824) (.inr rfl)
      have e : lac v u (-1 + -1 * 1073741823) = 2 := by
        unfold lac; split
        · exact if_neg (Int.not_lt.mpr (Int.le_of_lt hl.1))
        · exact if_neg (Int.not_lt.mpr (Int.le_of_lt hl.2))
      unfold fcOf; rw [e]; rfl
    · show qt (-u) (-1073741824) = _; rw [qt_m, Int.neg_neg]
    · show qt (-v) (-1073741824) = _; rw [qt_m, Int.neg_neg]
theorem stij_of {i : Int} (h : 0 ≤ i ∧ i < 1073741824) : stij ((2 * i + 1 - 1073741824) * 8388608 + 1 * 2 ^ Int.toNat 53) = i := by
  have : (2 : Int) ^ Int.toNat 53 = 9007199254740992 := by decide
  unfold stij; rw [this]; omega
theorem wU'_of {i : Int} (h : 0 ≤ i ∧ i < 1073741824) : wU' i = 2 * i + 1 - 1073741824 := by unfold wU' clp; omega
theorem wrid_on {K : Frag} {f i j : Int} (h0 : 0 ≤ f) (h6 : f < 6) (hi : 0 ≤ i ∧ i < 1073741824) (hj : 0 ≤ j ∧ j < 1073741824) : wrid K f i j = ffid K f i j := by
  obtain ⟨e1, e2, e3⟩ := on_face (f := f) (u := 2 * i + 1 - 1073741824) (v := 2 * j + 1 - 1073741824) h0 h6 (by omega) (by omega)
  have q : (1073741824 - 1 : Int) = 1073741823 := rfl
  unfold wrid wPX wPY wPZ
  rw [wU'_of hi, wU'_of hj, q, e1, e2, e3, stij_of hi, stij_of hj]
theorem wrid_i {K : Frag} {f i i' j : Int} (h : clp i = clp i') : wrid K f i j = wrid K f i' j := by
  unfold wrid wPX wPY wPZ wU'; rw [h]
theorem wrid_j {K : Frag} {f i j j' : Int} (h : clp j = clp j') : wrid K f i j = wrid K f i j' := by
  unfold wrid wPX wPY wPZ wU'; rw [h]
theorem clp_lo {x : Int} (h : x ≤ -1) : clp x = clp (-1) := by unfold clp; omega
theorem clp_hi {x : Int} (h : 1073741824 ≤ x) : clp x = clp 1073741824 := by unfold clp; omega
theorem lagr (a b c d e f : Int) : (b * f - c * e) * (b * f - c * e) + (c * d - a * f) * (c * d - a * f) + (a * e - b * d) * (a * e - b * d) + (a * d + b * e + c * f) ^ 2 = (a * a + b * b + c * c) * (d * d + e * e + f * f) := by grind
theorem orth1 (a b c d e f : Int) : (b * f - c * e) * a + (c * d - a * f) * b + (a * e - b * d) * c = 0 := by grind
theorem orth2 (a b c d e f : Int) : (b * f - c * e) * d + (c * d - a * f) * e + (a * e - b * d) * f = 0 := by grind
theorem seg19 {fa : Addr} {cd : Value} {env : Env} {f i j : Int} {tf ti tj tz : Tok} {o5 o6 : Obj} {Q : Flow → Shared → Prop}
    (H : LH w fa cd h₀ L m s news A env) (c5 : (L + 1 + 1 + 1 + 1 + 1, o5) ∈ news) (c6 : (L + 1 + 1 + 1 + 1 + 1 + 1, o6) ∈ news) (h5 : o5.data = .cell (some (.int f tf))) (h6 : o6.data = .cell (some (.int i ti)))
    (m1 : m (Str.ofString "size") = some (.int 1073741824 tz)) (m2 : m (Str.ofString "j") = some (.int j tj)) (hf : 0 ≤ f ∧ f < 6) (hi : 0 ≤ i ∧ i < 1073741824) (hj : 0 ≤ j ∧ j < 1073741824)
    (ret : ∀ (h' : Heap) (tk' : Nat), Fr h₀ L h' m → News h₀ L h' news → Q .next { s with heap := h', toks := tk' }) :
    wpAny (model PySem.Challenge.rw_fb0050_01.row.prog w) A (exec (lawSt 19) env) Q E s := by
  cases H with
  | mk B F X N T =>
    have e2 : lawSc = Scope.mk _ _ _ _ _ := rfl
    dsimp only at e2
    rw [e2]
    clear e2
    w_on
    revert X; k_fill; intro X
    (show wpAny _ _ (exec (Stmt.If _ _ _ _) _) _ _ _)
    w_strict (k_steps)
    all_goals first
      | exact ret _ _ (by k_asm) (by first | (with_reducible assumption) | (refine' n_sub ?cbN ?cbS; (case cbN => assumption); (case cbS => ((repeat ((with_reducible refine' sub_cons ?cbM ?_); (case cbM => kct_strs))); first | (with_reducible exact sub_nil) | ((repeat (first | (with_reducible exact fun _ hp => hp) | (refine sub_skip ?_))); done)))) | k_asm)
      | exact absurd (wrid_on hf.1 hf.2 hi hj) (by with_reducible assumption)
local macro_rules | `(tactic| walk_at "binaryOp Pow int int") => `(tactic| (k_here; (with_reducible refine pow_int_small ?a ?b ?c ?_); (case a => decide); (case b => decide); (case c => decide)))
theorem p23 : (2 : Int) ^ Int.toNat 23 = 8388608 := by decide
theorem seg18_no {F U V f u v : Int} (h : (F == f && (U == u && V == v)) = false) (e1 : F = f) (e2 : U = u) (e3 : V = v) : False := by
  subst e1; subst e2; subst e3; simp at h
theorem seg18 {fa : Addr} {cd : Value} {env : Env} {f i j : Int} {tf ti tj tz : Tok} {o5 o6 : Obj} {Q : Flow → Shared → Prop}
    (H : LH w fa cd h₀ L m s news A env) (c5 : (L + 1 + 1 + 1 + 1 + 1, o5) ∈ news) (c6 : (L + 1 + 1 + 1 + 1 + 1 + 1, o6) ∈ news) (h5 : o5.data = .cell (some (.int f tf))) (h6 : o6.data = .cell (some (.int i ti)))
    (m1 : m (Str.ofString "size") = some (.int 1073741824 tz)) (m2 : m (Str.ofString "j") = some (.int j tj)) (hf : 0 ≤ f ∧ f < 6) (hi : 0 ≤ i ∧ i < 1073741824) (hj : 0 ≤ j ∧ j < 1073741824)
    {y : Addr} {px py pz : Int} (P : PtIn w news y px py pz) (S1 : Sm px) (S2 : Sm py) (S3 : Sm pz) (S4 : ¬ (px = 0 ∧ py = 0 ∧ pz = 0)) (m3 : m (Str.ofString "laid") = some (.ref y))
    (e1 : fcOf px py pz = f) (e2 : vU f px py pz = (2 * i + 1 - 1073741824) * 8388608) (e3 : vV f px py pz = (2 * j + 1 - 1073741824) * 8388608)
    (ret : ∀ (h' : Heap) (tk' : Nat), Fr h₀ L h' m → News h₀ L h' news → Q .next { s with heap := h', toks := tk' }) :
    wpAny (model PySem.Challenge.rw_fb0050_01.row.prog w) A (exec (lawSt 18) env) Q E s := by
  cases H with
  | mk B F X N T =>
  cases P with
  | mk d1 d2 d3 =>
    have e2 : lawSc = Scope.mk _ _ _ _ _ := rfl
    dsimp only at e2
    rw [e2]
    clear e2
    w_on
    revert X; k_fill; intro X
    (show wpAny _ _ (exec (Stmt.If _ _ _ _) _) _ _ _)
    w_strict (k_steps)
    all_goals first
      | exact ret _ _ (by k_asm) (by first | (with_reducible assumption) | (refine' n_sub ?cbN ?cbS; (case cbN => assumption); (case cbS => ((repeat ((with_reducible refine' sub_cons ?cbM ?_); (case cbM => kct_strs))); first | (with_reducible exact sub_nil) | ((repeat (first | (with_reducible exact fun _ hp => hp) | (refine sub_skip ?_))); done)))) | k_asm)
      | exact (seg18_no (by with_reducible assumption) e1 (by rw [e1, e2, p23]) (by rw [e1, e3, p23])).elim
theorem c_numsS {r : Addr} {f a b c : Int} {ta tb tc tf : Tok} {n : Nat} (H : Here w 3 A h₀ L m s news) (hr : (r, rowObj a b c ta tb tc n) ∈ news) (hf : 0 ≤ f ∧ f < 6) (ha : Sm a) (hb : Sm b) (hc : Sm c) (hD : 0 < fD f a b c)
    (ret : RetT2 h₀ L m news s Q (vU f a b c) (vV f a b c)) : wpAny (model PySem.Challenge.rw_fb0050_01.row.prog w) A (call (.ref 632) [.ref r, .int f tf]) Q E s :=
  c_nums H hr hf ha hb hc (fun q => absurd hD q) (fun _ => ret)
theorem c_numsN {r : Addr} {f a b c : Int} {ta tb tc tf : Tok} {n : Nat} (H : Here w 3 A h₀ L m s news) (hr : (r, rowObj a b c ta tb tc n) ∈ news) (hf : 0 ≤ f ∧ f < 6) (ha : Sm a) (hb : Sm b) (hc : Sm c) (hD : ¬ 0 < fD f a b c)
    (ret : ∀ (h' : Heap) (tk' : Nat), Fr h₀ L h' m → News h₀ L h' news → Q .none { s with heap := h', toks := tk' }) : wpAny (model PySem.Challenge.rw_fb0050_01.row.prog w) A (call (.ref 632) [.ref r, .int f tf]) Q E s :=
  c_nums H hr hf ha hb hc (fun _ => ret) (fun q => absurd q hD)
def forT : Stmt → Expr
  | .For t _ _ _ _ => t
  | _ => .Constant .none 0 ⟨0, 0, 0, 0⟩
def forB : Stmt → List Stmt
  | .For _ _ b _ _ => b
  | _ => []
def tSt (k : Nat) : Stmt := match (forB (lawSt 12)).drop k with
  | st :: _ => st
  | [] => .Pass ⟨0, 0, 0, 0⟩
local macro_rules | `(tactic| walk_at "call ref") => `(tactic| (k_here; (with_reducible show wpAny _ _ (call (Value.ref 632) [Value.ref _, Value.int _ _] _) _ _ _); k_dflt (refine' c_numsS ?kH ?kp0 ?kp1 ?kp2 ?kp3 ?kp4 ?kp5 ?_; (case kH => ktr_rel); (case kp0 => k_mem); (case kp1 => first | with_reducible assumption | omega | decide | l_fact); (case kp2 => first | with_reducible assumption | exact ⟨by omega, by omega⟩ | exact ⟨by l_fact, by l_fact⟩); (case kp3 => first | with_reducible assumption | exact ⟨by omega, by omega⟩ | exact ⟨by l_fact, by l_fact⟩); (case kp4 => first | with_reducible assumption | exact ⟨by omega, by omega⟩ | exact ⟨by l_fact, by l_fact⟩); (case kp5 => with_reducible assumption)); intro D' ta' tb' h' tk2' F' N' l1; (try k_lt l1); (try k_dflt (dsimp only [PySem.W.CmpBack])); (try k_sweep)))
local macro_rules | `(tactic| walk_at "call ref") => `(tactic| (k_here; (with_reducible show wpAny _ _ (call (Value.ref 632) [Value.ref _, Value.int _ _] _) _ _ _); k_dflt (refine' c_numsN ?kH ?kp0 ?kp1 ?kp2 ?kp3 ?kp4 ?kp5 ?_; (case kH => ktr_rel); (case kp0 => k_mem); (case kp1 => first | with_reducible assumption | omega | decide | l_fact); (case kp2 => first | with_reducible assumption | exact ⟨by omega, by omega⟩ | exact ⟨by l_fact, by l_fact⟩); (case kp3 => first | with_reducible assumption | exact ⟨by omega, by omega⟩ | exact ⟨by l_fact, by l_fact⟩); (case kp4 => first | with_reducible assumption | exact ⟨by omega, by omega⟩ | exact ⟨by l_fact, by l_fact⟩); (case kp5 => with_reducible assumption)); intro h' tk' F' N'; (try k_dflt (dsimp only [PySem.W.CmpBack])); (try k_sweep)))
local macro_rules | `(tactic| walk_at "binaryOp Pow int int") => `(tactic| (k_here; (with_reducible refine pow_int_small ?a ?b ?c ?_); (case a => decide); (case b => decide); (case c => decide)))
theorem tn0 {fa : Addr} {cd : Value} {env : Env} {x r : Addr} {a b c : Int} {t1 t2 t3 tp tf tu tv : Tok} {n : Nat} {o5 : Obj} {D : Addr} {Q : Flow → Shared → Prop}
    (H : LH w fa cd h₀ L m s news A env) (P : PtIn w news x a b c) (q : (r, rowObj a b c t1 t2 t3 n) ∈ news) (mp : m (Str.ofString "point") = some (.ref x)) (mr : m (Str.ofString "row") = some (.ref r)) (A1 : Bd a) (A2 : Bd b) (A3 : Bd c) (h0 : ¬ (a = 0 ∧ b = 0 ∧ c = 0))
    (ret : ∀ (tp : Tok) (h' : Heap) (tk' : Nat), Fr h₀ L h' (fun z => if z = Str.ofString "part" then some (.int (lac a b c) tp) else m z) → News h₀ L h' news → Q .next { s with heap := h', toks := tk' }) :
    wpAny (model PySem.Challenge.rw_fb0050_01.row.prog w) A (exec (tSt 0) env) Q E s := by
  cases H with
  | mk B F X N T =>
  cases P with
  | mk d1 d2 d3 =>
    obtain ⟨A11, A12⟩ := A1; obtain ⟨A21, A22⟩ := A2; obtain ⟨A31, A32⟩ := A3
    have hl := lac_range a b c
    have hF := fcOf_range a b c
    have hD := fcOf_fD h0
    have e2 : lawSc = Scope.mk _ _ _ _ _ := rfl
    dsimp only at e2
    rw [e2]
    clear e2
    w_on
    revert X; k_fill; intro X
    (show wpAny _ _ (exec (Stmt.Assign _ _ _) _) _ _ _)
    w_strict (k_steps)
    exact ret _ _ _ (by k_asm) (by first | (with_reducible assumption) | (refine' n_sub ?cbN ?cbS; (case cbN => assumption); (case cbS => ((repeat ((with_reducible refine' sub_cons ?cbM ?_); (case cbM => kct_strs))); first | (with_reducible exact sub_nil) | ((repeat (first | (with_reducible exact fun _ hp => hp) | (refine sub_skip ?_))); done)))) | k_asm)
theorem tn1 {fa : Addr} {cd : Value} {env : Env} {x r : Addr} {a b c : Int} {t1 t2 t3 tp tf tu tv : Tok} {n : Nat} {o5 : Obj} {D : Addr} {Q : Flow → Shared → Prop}
    (H : LH w fa cd h₀ L m s news A env) (P : PtIn w news x a b c) (q : (r, rowObj a b c t1 t2 t3 n) ∈ news) (mp : m (Str.ofString "point") = some (.ref x)) (mr : m (Str.ofString "row") = some (.ref r)) (A1 : Bd a) (A2 : Bd b) (A3 : Bd c) (h0 : ¬ (a = 0 ∧ b = 0 ∧ c = 0))
    (mpt : m (Str.ofString "part") = some (.int (lac a b c) tp))
    {keep : List (Addr × Obj)} {yy : Option Value} (hn : news = (L + 1 + 1 + 1 + 1 + 1, o5) :: keep) (h5 : o5.data = .cell yy) (k5 : ∀ p ∈ keep, p.1 ≠ L + 1 + 1 + 1 + 1 + 1)
    (ret : ∀ (tf : Tok) (o5' : Obj) (h' : Heap) (tk' : Nat), Fr h₀ L h' m → News h₀ L h' ((L + 1 + 1 + 1 + 1 + 1, o5') :: keep) → o5'.data = .cell (some (.int (fcOf a b c) tf)) → Q .next { s with heap := h', toks := tk' }) :
    wpAny (model PySem.Challenge.rw_fb0050_01.row.prog w) A (exec (tSt 1) env) Q E s := by
  subst hn
  cases H with
  | mk B F X N T =>
  cases P with
  | mk d1 d2 d3 =>
    obtain ⟨A11, A12⟩ := A1; obtain ⟨A21, A22⟩ := A2; obtain ⟨A31, A32⟩ := A3
    have hl := lac_range a b c
    have hF := fcOf_range a b c
    have hD := fcOf_fD h0
    have e2 : lawSc = Scope.mk _ _ _ _ _ := rfl
    dsimp only at e2
    rw [e2]
    clear e2
    w_on
    revert X; k_fill; intro X
    (show wpAny _ _ (exec (Stmt.Assign _ _ _) _) _ _ _)
    w_strict (k_steps)
    all_goals first
      | exact ret _ _ _ _ (by k_asm) (by first | (with_reducible assumption) | (refine' n_sub ?cbN ?cbS; (case cbN => assumption); (case cbS => ((repeat ((with_reducible refine' sub_cons ?cbM ?_); (case cbM => kct_strs))); first | (with_reducible exact sub_nil) | ((repeat (first | (with_reducible exact fun _ hp => hp) | (refine sub_skip ?_))); done)))) | k_asm) (by rw [fcOf_of_pos (by with_reducible assumption)]; with_reducible assumption)
      | exact ret _ _ _ _ (by k_asm) (by first | (with_reducible assumption) | (refine' n_sub ?cbN ?cbS; (case cbN => assumption); (case cbS => ((repeat ((with_reducible refine' sub_cons ?cbM ?_); (case cbM => kct_strs))); first | (with_reducible exact sub_nil) | ((repeat (first | (with_reducible exact fun _ hp => hp) | (refine sub_skip ?_))); done)))) | k_asm) (by rw [fcOf_of_npos h0 (by with_reducible assumption)]; with_reducible assumption)
theorem tn2 {fa : Addr} {cd : Value} {env : Env} {x r : Addr} {a b c : Int} {t1 t2 t3 tp tf tu tv : Tok} {n : Nat} {o5 : Obj} {D : Addr} {Q : Flow → Shared → Prop}
    (H : LH w fa cd h₀ L m s news A env) (P : PtIn w news x a b c) (q : (r, rowObj a b c t1 t2 t3 n) ∈ news) (mp : m (Str.ofString "point") = some (.ref x)) (mr : m (Str.ofString "row") = some (.ref r)) (A1 : Bd a) (A2 : Bd b) (A3 : Bd c) (h0 : ¬ (a = 0 ∧ b = 0 ∧ c = 0))
    (mpt : m (Str.ofString "part") = some (.int (lac a b c) tp))
    (ret : ∀ (h' : Heap) (tk' : Nat), Fr h₀ L h' m → News h₀ L h' news → Q .next { s with heap := h', toks := tk' }) :
    wpAny (model PySem.Challenge.rw_fb0050_01.row.prog w) A (exec (tSt 2) env) Q E s := by
  cases H with
  | mk B F X N T =>
  cases P with
  | mk d1 d2 d3 =>
    obtain ⟨A11, A12⟩ := A1; obtain ⟨A21, A22⟩ := A2; obtain ⟨A31, A32⟩ := A3
    have hl := lac_range a b c
    have hF := fcOf_range a b c
    have hD := fcOf_fD h0
    have e2 : lawSc = Scope.mk _ _ _ _ _ := rfl
    dsimp only at e2
    rw [e2]
    clear e2
    w_on
    revert X; k_fill; intro X
    (show wpAny _ _ (exec (Stmt.If _ _ _ _) _) _ _ _)
    w_strict (k_steps)
    all_goals first
      | exact ret _ _ (by k_asm) (by first | (with_reducible assumption) | (refine' n_sub ?cbN ?cbS; (case cbN => assumption); (case cbS => ((repeat ((with_reducible refine' sub_cons ?cbM ?_); (case cbM => kct_strs))); first | (with_reducible exact sub_nil) | ((repeat (first | (with_reducible exact fun _ hp => hp) | (refine sub_skip ?_))); done)))) | k_asm)
      | exact (l3_no (by with_reducible assumption) (by first | rfl | exact Int.mul_comm _ _) (by first | rfl | exact Int.mul_comm _ _) (by first | rfl | exact Int.mul_comm _ _)).elim
      | exact (a3_no (by with_reducible assumption) (by first | rfl | omega | grind) (by first | rfl | omega | grind) (by first | rfl | omega | grind)).elim
      | exact (ne_no (by with_reducible assumption) (by first | rfl | omega | grind)).elim
theorem tn3 {fa : Addr} {cd : Value} {env : Env} {x r : Addr} {a b c : Int} {t1 t2 t3 tp tf tu tv : Tok} {n : Nat} {o5 : Obj} {D : Addr} {Q : Flow → Shared → Prop}
    (H : LH w fa cd h₀ L m s news A env) (P : PtIn w news x a b c) (q : (r, rowObj a b c t1 t2 t3 n) ∈ news) (mp : m (Str.ofString "point") = some (.ref x)) (mr : m (Str.ofString "row") = some (.ref r)) (A1 : Bd a) (A2 : Bd b) (A3 : Bd c) (h0 : ¬ (a = 0 ∧ b = 0 ∧ c = 0))
    (ret : ∀ (D : Addr) (e1 e2 e3 : Tok) (h' : Heap) (tk' : Nat), Fr h₀ L h' (fun z => if z = Str.ofString "told" then some (.ref D) else m z) → News h₀ L h' ((D, tupObj [.int (fcOf a b c) e1, .int (vU (fcOf a b c) a b c) e2, .int (vV (fcOf a b c) a b c) e3]) :: news) → Q .next { s with heap := h', toks := tk' }) :
    wpAny (model PySem.Challenge.rw_fb0050_01.row.prog w) A (exec (tSt 3) env) Q E s := by
  cases H with
  | mk B F X N T =>
  cases P with
  | mk d1 d2 d3 =>
    obtain ⟨A11, A12⟩ := A1; obtain ⟨A21, A22⟩ := A2; obtain ⟨A31, A32⟩ := A3
    have hl := lac_range a b c
    have hF := fcOf_range a b c
    have hD := fcOf_fD h0
    have e2 : lawSc = Scope.mk _ _ _ _ _ := rfl
    dsimp only at e2
    rw [e2]
    clear e2
    w_on
    revert X; k_fill; intro X
    (show wpAny _ _ (exec (Stmt.Assign _ _ _) _) _ _ _)
    w_strict (k_steps)
    exact ret _ _ _ _ _ _ (by k_asm) (by first | (with_reducible assumption) | (refine' n_sub ?cbN ?cbS; (case cbN => assumption); (case cbS => ((repeat ((with_reducible refine' sub_cons ?cbM ?_); (case cbM => kct_strs))); first | (with_reducible exact sub_nil) | ((repeat (first | (with_reducible exact fun _ hp => hp) | (refine sub_skip ?_))); done)))) | k_asm)
theorem tn4 {fa : Addr} {cd : Value} {env : Env} {x r : Addr} {a b c : Int} {t1 t2 t3 tp tf tu tv : Tok} {n : Nat} {o5 : Obj} {D : Addr} {Q : Flow → Shared → Prop}
    (H : LH w fa cd h₀ L m s news A env) (P : PtIn w news x a b c) (q : (r, rowObj a b c t1 t2 t3 n) ∈ news) (mp : m (Str.ofString "point") = some (.ref x)) (mr : m (Str.ofString "row") = some (.ref r)) (A1 : Bd a) (A2 : Bd b) (A3 : Bd c) (h0 : ¬ (a = 0 ∧ b = 0 ∧ c = 0))
    (c5 : (L + 1 + 1 + 1 + 1 + 1, o5) ∈ news) (h5 : o5.data = .cell (some (.int (fcOf a b c) tf)))
    {e1 e2 e3 : Tok} (mt : m (Str.ofString "told") = some (.ref D)) (qD : (D, tupObj [.int (fcOf a b c) e1, .int (vU (fcOf a b c) a b c) e2, .int (vV (fcOf a b c) a b c) e3]) ∈ news)
    (ret : ∀ (h' : Heap) (tk' : Nat), Fr h₀ L h' m → News h₀ L h' news → Q .next { s with heap := h', toks := tk' }) :
    wpAny (model PySem.Challenge.rw_fb0050_01.row.prog w) A (exec (tSt 4) env) Q E s := by
  cases H with
  | mk B F X N T =>
  cases P with
  | mk d1 d2 d3 =>
    obtain ⟨A11, A12⟩ := A1; obtain ⟨A21, A22⟩ := A2; obtain ⟨A31, A32⟩ := A3
    have hl := lac_range a b c
    have hF := fcOf_range a b c
    have hD := fcOf_fD h0
    have e2 : lawSc = Scope.mk _ _ _ _ _ := rfl
    dsimp only at e2
    rw [e2]
    clear e2
    w_on
    revert X; k_fill; intro X
    (show wpAny _ _ (exec (Stmt.If _ _ _ _) _) _ _ _)
    w_strict (k_steps)
    exact ret _ _ (by k_asm) (by first | (with_reducible assumption) | (refine' n_sub ?cbN ?cbS; (case cbN => assumption); (case cbS => ((repeat ((with_reducible refine' sub_cons ?cbM ?_); (case cbM => kct_strs))); first | (with_reducible exact sub_nil) | ((repeat (first | (with_reducible exact fun _ hp => hp) | (refine sub_skip ?_))); done)))) | k_asm)
theorem t5_yes {p : Prop} [Decidable p] {U V u v : Int} (h : (decide p == true && (U == u && V == v)) = false) (hd : p) (e1 : U = u) (e2 : V = v) : False := by
  subst e1; subst e2; simp [hd] at h
theorem t5_not {p : Prop} [Decidable p] {U V u v : Int} (h : (decide p == false && (U == u && V == v)) = false) (hd : ¬ p) (e1 : U = u) (e2 : V = v) : False := by
  subst e1; subst e2; simp [hd] at h
theorem tn5 {fa : Addr} {cd : Value} {env : Env} {x r : Addr} {a b c : Int} {t1 t2 t3 tp tf tu tv : Tok} {n : Nat} {o5 : Obj} {D : Addr} {Q : Flow → Shared → Prop}
    (H : LH w fa cd h₀ L m s news A env) (P : PtIn w news x a b c) (q : (r, rowObj a b c t1 t2 t3 n) ∈ news) (mp : m (Str.ofString "point") = some (.ref x)) (mr : m (Str.ofString "row") = some (.ref r)) (A1 : Bd a) (A2 : Bd b) (A3 : Bd c) (h0 : ¬ (a = 0 ∧ b = 0 ∧ c = 0))
    (hE : PassesOwn (model PySem.Challenge.rw_fb0050_01.row.prog w) A env E)
    (ret : ∀ (m' : Str → Option Value) (h' : Heap) (tk' : Nat), Fr h₀ L h' m' → News h₀ L h' news → m' (Str.ofString "point") = some (.ref x) → m' (Str.ofString "row") = some (.ref r) → m' (Str.ofString "told") = m (Str.ofString "told") → Q .next { s with heap := h', toks := tk' }) :
    wpAny (model PySem.Challenge.rw_fb0050_01.row.prog w) A (exec (tSt 5) env) Q E s := by
  cases H with
  | mk B F X N T =>
  cases P with
  | mk d1 d2 d3 =>
    obtain ⟨A11, A12⟩ := A1; obtain ⟨A21, A22⟩ := A2; obtain ⟨A31, A32⟩ := A3
    have hl := lac_range a b c
    have hF := fcOf_range a b c
    have hD := fcOf_fD h0
    have e2 : lawSc = Scope.mk _ _ _ _ _ := rfl
    dsimp only at e2
    rw [e2]
    clear e2
    w_on
    revert X; k_fill; intro X
    (show wpAny _ _ (exec (Stmt.For _ _ _ _ _) _) _ _ _)
    iterate 8 (w_strict walk1)
    rename IsRange _ _ _ _ _ _ _ _ => hR
    (with_unfolding_all refine krs_iter (n := 6) (by rfl) hR (by decide) (by rfl) (by k_asm) (by k_asm) ?_)
    intro I' l1'
    refine krs_ind (fun _ m' => m' (Str.ofString "point") = some (.ref x) ∧ m' (Str.ofString "row") = some (.ref r) ∧ m' (Str.ofString "told") = m (Str.ofString "told")) l1' ?step ?done 6 0 _ rfl ⟨mp, mr, rfl⟩
    case done =>
      intro m1 h1 tk1 hJ F1 N1
      exact ret _ _ _ F1 N1 hJ.1 hJ.2.1 hJ.2.2
    case step =>
      intro k m1 t1 h1 tk1 hk hJ F1 N1
      obtain ⟨j1, j2, j3⟩ := hJ
      replace l1' := allLt_of l1'
      (show wpAny _ _ _ _ _ _)
      k_unmd
      k_fold
      by_cases hd : 0 < fD (0 + (k : Int) * 1) a b c
      · have eU : wU (0 + (k : Int) * 1) a b c = vU (0 + (k : Int) * 1) a b c := if_pos hd
        have eV : wV (0 + (k : Int) * 1) a b c = vV (0 + (k : Int) * 1) a b c := if_pos hd
        w_strict (k_steps)
        all_goals first
          | (refine ⟨rfl, _, _, _, rfl, by k_asm, (by first | (with_reducible assumption) | (refine' n_sub ?cbN ?cbS; (case cbN => assumption); (case cbS => ((repeat ((with_reducible refine' sub_cons ?cbM ?_); (case cbM => kct_strs))); first | (with_reducible exact sub_nil) | ((repeat (first | (with_reducible exact fun _ hp => hp) | (refine sub_skip ?_))); done)))) | k_asm), ?_⟩; with_unfolding_all exact ⟨j1, j2, j3⟩)
          | exact (t5_yes (by with_reducible assumption) hd eU eV).elim
      · have eU : wU (0 + (k : Int) * 1) a b c = 0 := if_neg hd
        have eV : wV (0 + (k : Int) * 1) a b c = 0 := if_neg hd
        w_strict (k_steps)
        all_goals first
          | (refine ⟨rfl, _, _, _, rfl, by k_asm, (by first | (with_reducible assumption) | (refine' n_sub ?cbN ?cbS; (case cbN => assumption); (case cbS => ((repeat ((with_reducible refine' sub_cons ?cbM ?_); (case cbM => kct_strs))); first | (with_reducible exact sub_nil) | ((repeat (first | (with_reducible exact fun _ hp => hp) | (refine sub_skip ?_))); done)))) | k_asm), ?_⟩; with_unfolding_all exact ⟨j1, j2, j3⟩)
          | exact (t5_not (by with_reducible assumption) hd eU eV).elim
theorem tn6 {fa : Addr} {cd : Value} {env : Env} {x r : Addr} {a b c : Int} {t1 t2 t3 tp tf tu tv : Tok} {n : Nat} {o5 : Obj} {D : Addr} {Q : Flow → Shared → Prop}
    (H : LH w fa cd h₀ L m s news A env) (P : PtIn w news x a b c) (q : (r, rowObj a b c t1 t2 t3 n) ∈ news) (mp : m (Str.ofString "point") = some (.ref x)) (mr : m (Str.ofString "row") = some (.ref r)) (A1 : Bd a) (A2 : Bd b) (A3 : Bd c) (h0 : ¬ (a = 0 ∧ b = 0 ∧ c = 0))
    {e1 e2 e3 : Tok} (mt : m (Str.ofString "told") = some (.ref D)) (qD : (D, tupObj [.int (fcOf a b c) e1, .int (vU (fcOf a b c) a b c) e2, .int (vV (fcOf a b c) a b c) e3]) ∈ news)
    {keep : List (Addr × Obj)} {yy : Option Value} (hn : news = (L + 1 + 1 + 1 + 1 + 1, o5) :: keep) (h5 : o5.data = .cell yy) (k5 : ∀ p ∈ keep, p.1 ≠ L + 1 + 1 + 1 + 1 + 1)
    (ret : ∀ (tf tu tv : Tok) (o5' : Obj) (h' : Heap) (tk' : Nat), Fr h₀ L h' (fun z => if z = Str.ofString "v" then some (.int (vV (fcOf a b c) a b c) tv) else if z = Str.ofString "u" then some (.int (vU (fcOf a b c) a b c) tu) else m z) → News h₀ L h' ((L + 1 + 1 + 1 + 1 + 1, o5') :: keep) → o5'.data = .cell (some (.int (fcOf a b c) tf)) → Q .next { s with heap := h', toks := tk' }) :
    wpAny (model PySem.Challenge.rw_fb0050_01.row.prog w) A (exec (tSt 6) env) Q E s := by
  subst hn
  cases H with
  | mk B F X N T =>
  cases P with
  | mk d1 d2 d3 =>
    obtain ⟨A11, A12⟩ := A1; obtain ⟨A21, A22⟩ := A2; obtain ⟨A31, A32⟩ := A3
    have hl := lac_range a b c
    have hF := fcOf_range a b c
    have hD := fcOf_fD h0
    have e2 : lawSc = Scope.mk _ _ _ _ _ := rfl
    dsimp only at e2
    rw [e2]
    clear e2
    w_on
    revert X; k_fill; intro X
    (show wpAny _ _ (exec (Stmt.Assign _ _ _) _) _ _ _)
    w_strict (k_steps)
    exact ret _ _ _ _ _ _ (by k_asm) (by first | (with_reducible assumption) | (refine' n_sub ?cbN ?cbS; (case cbN => assumption); (case cbS => ((repeat ((with_reducible refine' sub_cons ?cbM ?_); (case cbM => kct_strs))); first | (with_reducible exact sub_nil) | ((repeat (first | (with_reducible exact fun _ hp => hp) | (refine sub_skip ?_))); done)))) | k_asm) (by with_reducible assumption)
theorem tn7 {fa : Addr} {cd : Value} {env : Env} {x r : Addr} {a b c : Int} {t1 t2 t3 tp tf tu tv : Tok} {n : Nat} {o5 : Obj} {D : Addr} {Q : Flow → Shared → Prop}
    (H : LH w fa cd h₀ L m s news A env) (P : PtIn w news x a b c) (q : (r, rowObj a b c t1 t2 t3 n) ∈ news) (mp : m (Str.ofString "point") = some (.ref x)) (mr : m (Str.ofString "row") = some (.ref r)) (A1 : Bd a) (A2 : Bd b) (A3 : Bd c) (h0 : ¬ (a = 0 ∧ b = 0 ∧ c = 0))
    (c5 : (L + 1 + 1 + 1 + 1 + 1, o5) ∈ news) (h5 : o5.data = .cell (some (.int (fcOf a b c) tf)))
    (mu : m (Str.ofString "u") = some (.int (vU (fcOf a b c) a b c) tu)) (mv : m (Str.ofString "v") = some (.int (vV (fcOf a b c) a b c) tv))
    (ret : ∀ (h' : Heap) (tk' : Nat), Fr h₀ L h' m → News h₀ L h' news → Q .next { s with heap := h', toks := tk' }) :
    wpAny (model PySem.Challenge.rw_fb0050_01.row.prog w) A (exec (tSt 7) env) Q E s := by
  cases H with
  | mk B F X N T =>
  cases P with
  | mk d1 d2 d3 =>
    obtain ⟨A11, A12⟩ := A1; obtain ⟨A21, A22⟩ := A2; obtain ⟨A31, A32⟩ := A3
    have hl := lac_range a b c
    have hF := fcOf_range a b c
    have hD := fcOf_fD h0
    have e2 : lawSc = Scope.mk _ _ _ _ _ := rfl
    dsimp only at e2
    rw [e2]
    clear e2
    w_on
    revert X; k_fill; intro X
    (show wpAny _ _ (exec (Stmt.If _ _ _ _) _) _ _ _)
    w_strict (k_steps)
    all_goals first
      | exact ret _ _ (by k_asm) (by first | (with_reducible assumption) | (refine' n_sub ?cbN ?cbS; (case cbN => assumption); (case cbS => ((repeat ((with_reducible refine' sub_cons ?cbM ?_); (case cbM => kct_strs))); first | (with_reducible exact sub_nil) | ((repeat (first | (with_reducible exact fun _ hp => hp) | (refine sub_skip ?_))); done)))) | k_asm)
      | exact (seg18_no (by with_reducible assumption) ((opp_face h0).trans (Eq.symm (by with_reducible assumption))) (opp_U h0) (opp_V h0)).elim
theorem tnA {fa : Addr} {cd : Value} {env : Env} {x r D : Addr} {Q : Unit → Shared → Prop} (H : LH w fa cd h₀ L m s news A env) (qT : (D, tupObj [.ref x, .ref r]) ∈ news)
    (ret : ∀ (h' : Heap) (tk' : Nat), Fr h₀ L h' (fun z => if z = Str.ofString "row" then some (.ref r) else if z = Str.ofString "point" then some (.ref x) else m z) → News h₀ L h' news → Q () { s with heap := h', toks := tk' }) :
    wpAny (model PySem.Challenge.rw_fb0050_01.row.prog w) A (assign (forT (lawSt 12)) env (.ref D)) Q E s := by
  cases H with
  | mk B F X N T =>
    have e2 : lawSc = Scope.mk _ _ _ _ _ := rfl
    dsimp only at e2
    rw [e2]
    clear e2
    w_on
    revert X; k_fill; intro X
    (show wpAny _ _ (assign (Expr.Tuple _ _ _) _ _) _ _ _)
    w_strict (k_steps)
    exact ret _ _ (by k_asm) (by first | (with_reducible assumption) | (refine' n_sub ?cbN ?cbS; (case cbN => assumption); (case cbS => ((repeat ((with_reducible refine' sub_cons ?cbM ?_); (case cbM => kct_strs))); first | (with_reducible exact sub_nil) | ((repeat (first | (with_reducible exact fun _ hp => hp) | (refine sub_skip ?_))); done)))) | k_asm)
def tRest (k : Nat) : List Stmt := (forB (lawSt 12)).drop k
theorem tchain {M : Model} {env : Env} {Q : Flow → Shared → Prop} {k : Nat} (e : tRest k = tSt k :: tRest (k + 1)) (h : wpAny M A (exec (tSt k) env) (fun f s' => match f with | .next => wpAny M A (execs (tRest (k + 1)) env) Q E s' | f => Q f s') E s) : wpAny M A (execs (tRest k) env) Q E s := by
  rw [e]; exact wpAny_execs_cons h
theorem turn12 {fa : Addr} {cd : Value} {env : Env} {x r T : Addr} {a b c : Int} {t1 t2 t3 : Tok} {n : Nat} {o5 : Obj} {keep : List (Addr × Obj)} {yy : Option Value} {Q : Flow → Shared → Prop}
    (H : LH w fa cd h₀ L m s ((L + 1 + 1 + 1 + 1 + 1, o5) :: keep) A env) (hE : PassesOwn (model PySem.Challenge.rw_fb0050_01.row.prog w) A env E) (qT : (T, tupObj [.ref x, .ref r]) ∈ keep) (P : PtIn w keep x a b c) (q : (r, rowObj a b c t1 t2 t3 n) ∈ keep) (A1 : Bd a) (A2 : Bd b) (A3 : Bd c) (h0 : ¬ (a = 0 ∧ b = 0 ∧ c = 0))
    (h5 : o5.data = .cell yy) (k5 : ∀ p ∈ keep, p.1 ≠ L + 1 + 1 + 1 + 1 + 1)
    (ret : ∀ (m' : Str → Option Value) (tf : Tok) (o5' : Obj) (h' : Heap) (tk' : Nat), Fr h₀ L h' m' → News h₀ L h' ((L + 1 + 1 + 1 + 1 + 1, o5') :: keep) → o5'.data = .cell (some (.int (fcOf a b c) tf)) → Q .next { s with heap := h', toks := tk' }) :
    wpAny (model PySem.Challenge.rw_fb0050_01.row.prog w) A (assign (forT (lawSt 12)) env (.ref T)) (fun _ s₂ => wpAny (model PySem.Challenge.rw_fb0050_01.row.prog w) A (execs (forB (lawSt 12)) env) Q E s₂) E s := by
  cases H with
  | mk B F X N T =>
    have up : ∀ o : Obj, ∀ p ∈ keep, p ∈ (L + 1 + 1 + 1 + 1 + 1, o) :: keep := fun o p hp => List.mem_cons_of_mem _ hp
    have up2 : ∀ z o : _, ∀ p ∈ keep, p ∈ z :: (L + 1 + 1 + 1 + 1 + 1, o) :: keep := fun z o p hp => List.mem_cons_of_mem _ (List.mem_cons_of_mem _ hp)
    have up3 : ∀ z o : _, ∀ p ∈ keep, p ∈ (L + 1 + 1 + 1 + 1 + 1, o) :: z :: keep := fun z o p hp => List.mem_cons_of_mem _ (List.mem_cons_of_mem _ hp)
    refine tnA (LH.mk B F X N T) (up _ _ qT) (fun h1 k1 F1 N1 => ?_)
    show wpAny _ _ (execs (tRest 0) _) _ _ { s with heap := h1, toks := k1 }
    refine tchain rfl (tn0 (tp := 0) (tf := 0) (tu := 0) (tv := 0) (o5 := o5) (D := L) (LH.mk B F1 X N1 T) (P.mono (up _)) (up _ _ q) (by with_unfolding_all rfl) (by with_unfolding_all rfl) A1 A2 A3 h0 (fun tp h2 k2 F2 N2 => ?_))
    show wpAny _ _ (execs (tRest 1) _) _ _ { s with heap := h2, toks := k2 }
    refine tchain rfl (tn1 (tf := 0) (tu := 0) (tv := 0) (D := L) (LH.mk B F2 X N2 T) (P.mono (up _)) (up _ _ q) (by with_unfolding_all rfl) (by with_unfolding_all rfl) A1 A2 A3 h0 (by with_unfolding_all rfl) rfl h5 k5 (fun tf o6 h3 k3 F3 N3 h6 => ?_))
    show wpAny _ _ (execs (tRest 2) _) _ _ { s with heap := h3, toks := k3 }
    refine tchain rfl (tn2 (tf := 0) (tu := 0) (tv := 0) (o5 := o5) (D := L) (LH.mk B F3 X N3 T) (P.mono (up _)) (up _ _ q) (by with_unfolding_all rfl) (by with_unfolding_all rfl) A1 A2 A3 h0 (by with_unfolding_all rfl) (fun h4 k4 F4 N4 => ?_))
    show wpAny _ _ (execs (tRest 3) _) _ _ { s with heap := h4, toks := k4 }
    refine tchain rfl (tn3 (tp := 0) (tf := 0) (tu := 0) (tv := 0) (o5 := o5) (D := L) (LH.mk B F4 X N4 T) (P.mono (up _)) (up _ _ q) (by with_unfolding_all rfl) (by with_unfolding_all rfl) A1 A2 A3 h0 (fun D e1 e2 e3 hh5 kk5 F5 N5 => ?_))
    show wpAny _ _ (execs (tRest 4) _) _ _ { s with heap := hh5, toks := kk5 }
    refine tchain rfl (tn4 (tp := 0) (tu := 0) (tv := 0) (LH.mk B F5 X N5 T) (P.mono (up2 _ _)) (up2 _ _ _ q) (by with_unfolding_all rfl) (by with_unfolding_all rfl) A1 A2 A3 h0 (List.mem_cons_of_mem _ (List.mem_cons_self ..)) h6 (by with_unfolding_all rfl) (List.mem_cons_self ..) (fun h7 k7 F7 N7 => ?_))
    show wpAny _ _ (execs (tRest 5) _) _ _ { s with heap := h7, toks := k7 }
    refine tchain rfl (tn5 (tp := 0) (tf := 0) (tu := 0) (tv := 0) (o5 := o5) (D := L) (LH.mk B F7 X N7 T) (P.mono (up2 _ _)) (up2 _ _ _ q) (by with_unfolding_all rfl) (by with_unfolding_all rfl) A1 A2 A3 h0 hE (fun m8 h8 k8 F8 N8 g1 g2 g3 => ?_))
    show wpAny _ _ (execs (tRest 6) _) _ _ { s with heap := h8, toks := k8 }
    have N9 : News h₀ L h8 ((L + 1 + 1 + 1 + 1 + 1, o6) :: (D, tupObj [.int (fcOf a b c) e1, .int (vU (fcOf a b c) a b c) e2, .int (vV (fcOf a b c) a b c) e3]) :: keep) := (by first | (with_reducible assumption) | (refine' n_sub ?cbN ?cbS; (case cbN => assumption); (case cbS => ((repeat ((with_reducible refine' sub_cons ?cbM ?_); (case cbM => kct_strs))); first | (with_reducible exact sub_nil) | ((repeat (first | (with_reducible exact fun _ hp => hp) | (refine sub_skip ?_))); done)))) | k_asm)
    have hD := (ne_cell N9 (List.mem_cons_self ..) (List.mem_cons_of_mem _ (List.mem_cons_self ..)) h6 rfl).2
    refine tchain rfl (tn6 (tp := 0) (tf := 0) (tu := 0) (tv := 0) (LH.mk B F8 X N9 T) (P.mono (up3 _ _)) (up3 _ _ _ q) g1 g2 A1 A2 A3 h0 (g3.trans (by with_unfolding_all rfl)) (List.mem_cons_of_mem _ (List.mem_cons_self ..)) rfl h6 (List.forall_mem_cons.mpr ⟨hD, k5⟩) (fun tf' tu tv o7 h9 k9 F9 N10 h10 => ?_))
    show wpAny _ _ (execs (tRest 7) _) _ _ { s with heap := h9, toks := k9 }
    refine tchain rfl (tn7 (tp := 0) (D := L) (LH.mk B F9 X N10 T) (P.mono (up3 _ _)) (up3 _ _ _ q) (by with_unfolding_all exact g1) (by with_unfolding_all exact g2) A1 A2 A3 h0 (List.mem_cons_self ..) h10 (by with_unfolding_all rfl) (by with_unfolding_all rfl) (fun h11 k11 F11 N11 => ?_))
    show wpAny _ _ (execs (tRest 8) _) _ _ { s with heap := h11, toks := k11 }
    exact wpAny_execs_nil (ret _ _ _ _ _ F11 (n_sub N11 (fun p hp => by
      rcases List.mem_cons.mp hp with rfl | hp
      · exact List.mem_cons_self ..
      · exact List.mem_cons_of_mem _ (List.mem_cons_of_mem _ hp))) h10)
theorem loop12 {fa : Addr} {cd : Value} {env : Env} {l T1 T2 T3 x1 x2 x3 r1 r2 r3 : Addr} {a1 b1 c1 a2 b2 c2 a3 b3 c3 : Int} {t1 u1 v1 t2 u2 v2 t3 u3 v3 : Tok} {n1 n2 n3 : Nat} {o5 : Obj} {yy : Option Value} {Q : Flow → Shared → Prop} {ro : List (Addr × Obj)}
    (H : LH w fa cd h₀ L m s ((L + 1 + 1 + 1 + 1 + 1, o5) :: ro) A env) (hE : PassesOwn (model PySem.Challenge.rw_fb0050_01.row.prog w) A env E) (ql : (l, W.listOf #[.ref T1, .ref T2, .ref T3] 0) ∈ ro)
    (T1q : (T1, tupObj [.ref x1, .ref r1]) ∈ ro) (P1 : PtIn w ro x1 a1 b1 c1) (R1 : (r1, rowObj a1 b1 c1 t1 u1 v1 n1) ∈ ro) (A1 : Bd a1) (B1 : Bd b1) (C1 : Bd c1) (Z1 : ¬ (a1 = 0 ∧ b1 = 0 ∧ c1 = 0))
    (T2q : (T2, tupObj [.ref x2, .ref r2]) ∈ ro) (P2 : PtIn w ro x2 a2 b2 c2) (R2 : (r2, rowObj a2 b2 c2 t2 u2 v2 n2) ∈ ro) (A2 : Bd a2) (B2 : Bd b2) (C2 : Bd c2) (Z2 : ¬ (a2 = 0 ∧ b2 = 0 ∧ c2 = 0))
    (T3q : (T3, tupObj [.ref x3, .ref r3]) ∈ ro) (P3 : PtIn w ro x3 a3 b3 c3) (R3 : (r3, rowObj a3 b3 c3 t3 u3 v3 n3) ∈ ro) (A3 : Bd a3) (B3 : Bd b3) (C3 : Bd c3) (Z3 : ¬ (a3 = 0 ∧ b3 = 0 ∧ c3 = 0))
    (h5 : o5.data = .cell yy) (k5 : ∀ p ∈ ro, p.1 ≠ L + 1 + 1 + 1 + 1 + 1)
    (ret : ∀ (m' : Str → Option Value) (z : Value) (o5' : Obj) (h' : Heap) (tk' : Nat), Fr h₀ L h' m' → News h₀ L h' ((L + 1 + 1 + 1 + 1 + 1, o5') :: ro) → o5'.data = .cell (some z) → Q .next { s with heap := h', toks := tk' }) :
    wpAny (model PySem.Challenge.rw_fb0050_01.row.prog w) A (pyIter (.ref l)) (fun it s₂ => TurnsAt PySem.Challenge.rw_fb0050_01.row.prog w A h₀ env (forT (lawSt 12)) (forB (lawSt 12)) Q E it s₂) E s := by
  cases H with
  | mk B F X N T =>
    refine iter_listTurns (vs := [.ref T1, .ref T2, .ref T3]) rfl F N (List.mem_cons_of_mem _ ql) rfl rfl ?_
    intro I lI
    have hI : I ≠ L + 1 + 1 + 1 + 1 + 1 := Ne.symm (Nat.ne_of_lt (lI _ (List.mem_cons_self ..)))
    have sw : ∀ (oI o : Obj), ∀ p ∈ (L + 1 + 1 + 1 + 1 + 1, o) :: (I, oI) :: ro, p ∈ [(I, oI)] ++ ((L + 1 + 1 + 1 + 1 + 1, o) :: ro) := fun oI o p hp => by
      simp only [List.cons_append, List.nil_append, List.mem_cons] at hp ⊢
      rcases hp with h | h | h
      · exact .inr (.inl h)
      · exact .inl h
      · exact .inr (.inr h)
    have sw2 : ∀ (oI o : Obj), ∀ p ∈ [(I, oI)] ++ ((L + 1 + 1 + 1 + 1 + 1, o) :: ro), p ∈ (L + 1 + 1 + 1 + 1 + 1, o) :: (I, oI) :: ro := fun oI o p hp => by
      simp only [List.cons_append, List.nil_append, List.mem_cons] at hp ⊢
      rcases hp with h | h | h
      · exact .inr (.inl h)
      · exact .inl h
      · exact .inr (.inr h)
    have up : ∀ o : Obj, ∀ p ∈ ro, p ∈ (I, o) :: ro := fun o p hp => List.mem_cons_of_mem _ hp
    have apart : ∀ oI o : Obj, ∀ p ∈ (L + 1 + 1 + 1 + 1 + 1, o) :: ro, ∀ q ∈ [(I, oI)], p.1 ≠ q.1 := fun oI o p hp q hq => by
      rw [List.mem_singleton.mp hq]
      rcases List.mem_cons.mp hp with rfl | hp
      · exact Ne.symm hI
      · exact Nat.ne_of_lt (lI _ (List.mem_cons_of_mem _ hp))
    refine ItemsRest.val ?_
    intro g1 k1 F1
    refine AllObj.cons (fun oI hcI => AllObj.nil (fun N1 => ?_))
    refine turn12 (LH.mk B F1 X (n_sub N1 (sw _ _)) T) hE (up _ _ T1q) (P1.mono (up _)) (up _ _ R1) A1 B1 C1 Z1 h5 (List.forall_mem_cons.mpr ⟨hI, k5⟩) (fun m2 tf o6 g2 k2 F2 N2 h6 => ?_)
    refine ⟨g2, k2, m2, (L + 1 + 1 + 1 + 1 + 1, o6) :: ro, rfl, F2, n_sub N2 (sw2 _ _), apart _ _, ⟨⟨List.mem_cons_of_mem _ ql, trivial⟩, ?_⟩⟩
    refine ItemsRest.val ?_
    intro g3 k3 F3
    refine AllObj.cons (fun oI hcI => AllObj.nil (fun N3 => ?_))
    refine turn12 (LH.mk B F3 X (n_sub N3 (sw _ _)) T) hE (up _ _ T2q) (P2.mono (up _)) (up _ _ R2) A2 B2 C2 Z2 h6 (List.forall_mem_cons.mpr ⟨hI, k5⟩) (fun m4 tf o7 g4 k4 F4 N4 h7 => ?_)
    refine ⟨g4, k4, m4, (L + 1 + 1 + 1 + 1 + 1, o7) :: ro, rfl, F4, n_sub N4 (sw2 _ _), apart _ _, ⟨⟨List.mem_cons_of_mem _ ql, trivial⟩, ?_⟩⟩
    refine ItemsRest.val ?_
    intro g5 k5' F5
    refine AllObj.cons (fun oI hcI => AllObj.nil (fun N5 => ?_))
    refine turn12 (LH.mk B F5 X (n_sub N5 (sw _ _)) T) hE (up _ _ T3q) (P3.mono (up _)) (up _ _ R3) A3 B3 C3 Z3 h7 (List.forall_mem_cons.mpr ⟨hI, k5⟩) (fun m6 tf o8 g6 k6 F6 N6 h8 => ?_)
    refine ⟨g6, k6, m6, (L + 1 + 1 + 1 + 1 + 1, o8) :: ro, rfl, F6, n_sub N6 (sw2 _ _), apart _ _, ⟨⟨List.mem_cons_of_mem _ ql, trivial⟩, ?_⟩⟩
    refine ItemsRest.zero ?_
    intro g7 k7 F7 N7
    exact ret _ _ _ _ _ F7 N7 h8
theorem mem_drop {pre post : List (Addr × Obj)} {p e : Addr × Obj} (h : p ∈ pre ++ e :: post) (hne : p.2.data ≠ e.2.data) : p ∈ pre ++ post := by
  rcases List.mem_append.mp h with h | h
  · exact List.mem_append.mpr (.inl h)
  · rcases List.mem_cons.mp h with rfl | h
    · exact absurd rfl hne
    · exact List.mem_append.mpr (.inr h)
theorem loopU {fa : Addr} {cd : Value} {env : Env} {l T1 T2 T3 x1 x2 x3 r1 r2 r3 : Addr} {a1 b1 c1 a2 b2 c2 a3 b3 c3 : Int} {t1 u1 v1 t2 u2 v2 t3 u3 v3 : Tok} {n1 n2 n3 : Nat} {o5 : Obj} {yy : Option Value} {Q : Flow → Shared → Prop} {g : Obj → List (Addr × Obj)}
    (H : LH w fa cd h₀ L m s news A env) (hU : UpdF (L + 1 + 1 + 1 + 1 + 1) o5 news g) (hE : PassesOwn (model PySem.Challenge.rw_fb0050_01.row.prog w) A env E) (ql : (l, W.listOf #[.ref T1, .ref T2, .ref T3] 0) ∈ news)
    (T1q : (T1, tupObj [.ref x1, .ref r1]) ∈ news) (P1 : PtIn w news x1 a1 b1 c1) (R1 : (r1, rowObj a1 b1 c1 t1 u1 v1 n1) ∈ news) (A1 : Bd a1) (B1 : Bd b1) (C1 : Bd c1) (Z1 : ¬ (a1 = 0 ∧ b1 = 0 ∧ c1 = 0))
    (T2q : (T2, tupObj [.ref x2, .ref r2]) ∈ news) (P2 : PtIn w news x2 a2 b2 c2) (R2 : (r2, rowObj a2 b2 c2 t2 u2 v2 n2) ∈ news) (A2 : Bd a2) (B2 : Bd b2) (C2 : Bd c2) (Z2 : ¬ (a2 = 0 ∧ b2 = 0 ∧ c2 = 0))
    (T3q : (T3, tupObj [.ref x3, .ref r3]) ∈ news) (P3 : PtIn w news x3 a3 b3 c3) (R3 : (r3, rowObj a3 b3 c3 t3 u3 v3 n3) ∈ news) (A3 : Bd a3) (B3 : Bd b3) (C3 : Bd c3) (Z3 : ¬ (a3 = 0 ∧ b3 = 0 ∧ c3 = 0))
    (h5 : o5.data = .cell yy)
    (ret : ∀ (m' : Str → Option Value) (z : Value) (o5' : Obj) (h' : Heap) (tk' : Nat), Fr h₀ L h' m' → News h₀ L h' (g o5') → o5'.data = .cell (some z) → Q .next { s with heap := h', toks := tk' }) :
    wpAny (model PySem.Challenge.rw_fb0050_01.row.prog w) A (pyIter (.ref l)) (fun it s₂ => TurnsAt PySem.Challenge.rw_fb0050_01.row.prog w A h₀ env (forT (lawSt 12)) (forB (lawSt 12)) Q E it s₂) E s := by
  obtain ⟨pre, post, e1, e2, w1, w2⟩ := hU.split
  subst e1
  cases H with
  | mk B F X N T =>
    have dr : ∀ {p : Addr × Obj}, p ∈ pre ++ (L + 1 + 1 + 1 + 1 + 1, o5) :: post → (∀ z, p.2.data ≠ .cell z) → p ∈ pre ++ post := fun h hd => mem_drop h (by rw [h5]; exact hd _)
    have dp : ∀ {x : Addr} {a b c : Int}, PtIn w (pre ++ (L + 1 + 1 + 1 + 1 + 1, o5) :: post) x a b c → PtIn w (pre ++ post) x a b c := fun h => by
      cases h with
      | mk d1 d2 d3 => exact .mk (dr d1 (fun z q => by cases q)) (dr d2 (fun z q => by cases q)) (dr d3 (fun z q => by cases q))
    have to1 : ∀ o : Obj, ∀ p ∈ (L + 1 + 1 + 1 + 1 + 1, o) :: (pre ++ post), p ∈ pre ++ (L + 1 + 1 + 1 + 1 + 1, o) :: post := fun o p hp => by
      simp only [List.mem_append, List.mem_cons] at hp ⊢
      rcases hp with h | h | h
      · exact .inr (.inl h)
      · exact .inl h
      · exact .inr (.inr h)
    have to2 : ∀ o : Obj, ∀ p ∈ pre ++ (L + 1 + 1 + 1 + 1 + 1, o) :: post, p ∈ (L + 1 + 1 + 1 + 1 + 1, o) :: (pre ++ post) := fun o p hp => by
      simp only [List.mem_append, List.mem_cons] at hp ⊢
      rcases hp with h | h | h
      · exact .inr (.inl h)
      · exact .inl h
      · exact .inr (.inr h)
    refine loop12 (LH.mk B F X (n_sub N (to1 _)) T) hE (dr ql (fun z q => by cases q))
      (dr T1q (fun z q => by cases q)) (dp P1) (dr R1 (fun z q => by cases q)) A1 B1 C1 Z1
      (dr T2q (fun z q => by cases q)) (dp P2) (dr R2 (fun z q => by cases q)) A2 B2 C2 Z2
      (dr T3q (fun z q => by cases q)) (dp P3) (dr R3 (fun z q => by cases q)) A3 B3 C3 Z3 h5 (fun p hp => ?_) (fun m' z o5' h' tk' F' N' hd => ret m' z o5' h' tk' F' (by rw [e2]; exact n_sub N' (to2 _)) hd)
    rcases List.mem_append.mp hp with h | h
    · exact w1 p h
    · exact w2 p h
local macro_rules | `(tactic| k_ne) => `(tactic| (refine neN ?_; first | (with_reducible assumption) | (with_reducible exact Ne.symm (by assumption)) | (with_reducible exact Nat.ne_of_lt (by assumption)) | (with_reducible exact Nat.ne_of_gt (by assumption)) | exact (ne_cell (by assumption) (by k_mem) (by k_mem) (by assumption) (by rfl)).2 | omega))
theorem nz_neg {a b c : Int} (h : ¬ (a = 0 ∧ b = 0 ∧ c = 0)) : ¬ (-a = 0 ∧ -b = 0 ∧ -c = 0) := by omega
theorem seg12 {fa : Addr} {cd : Value} {env : Env} {x x' : Addr} {r1 r2 : Addr} {a1 a2 a3 b1 b2 b3 nn : Int} {t1 t2 t3 u1 u2 u3 tn : Tok} {n1 n2 : Nat} {o2 o3 o4 : Obj} {Q : Flow → Shared → Prop}
    (H : LH w fa cd h₀ L m s news A env) (P1 : PtIn w news x a1 a2 a3) (P2 : PtIn w news x' b1 b2 b3) (m1 : m (Str.ofString "one") = some (.ref x)) (m2 : m (Str.ofString "two") = some (.ref x'))
    (c2 : (L + 1 + 1, o2) ∈ news) (c3 : (L + 1 + 1 + 1, o3) ∈ news) (c4 : (L + 1 + 1 + 1 + 1, o4) ∈ news) (h2 : o2.data = .cell (some (.int nn tn))) (h3 : o3.data = .cell (some (.ref r1))) (h4 : o4.data = .cell (some (.ref r2)))
    (q1 : (r1, rowObj a1 a2 a3 t1 t2 t3 n1) ∈ news) (q2 : (r2, rowObj b1 b2 b3 u1 u2 u3 n2) ∈ news) (A1 : Bd a1) (A2 : Bd a2) (A3 : Bd a3) (B1 : Bd b1) (B2 : Bd b2) (B3 : Bd b3) (BN : Bd nn)
    {keep : List (Addr × Obj)} {o5 : Obj} {yy : Option Value} (hn : news = (L + 1 + 1 + 1 + 1 + 1, o5) :: keep) (h5 : o5.data = .cell yy) (k5 : ∀ p ∈ keep, p.1 ≠ L + 1 + 1 + 1 + 1 + 1)
    (hE : PassesOwn (model PySem.Challenge.rw_fb0050_01.row.prog w) A env E) (A0 : ¬ (a1 = 0 ∧ a2 = 0 ∧ a3 = 0)) (B0 : ¬ (b1 = 0 ∧ b2 = 0 ∧ b3 = 0))
    (ret : ∀ (m' : Str → Option Value) (z : Value) (o5' : Obj) (h' : Heap) (tk' : Nat), Fr h₀ L h' m' → News h₀ L h' ((L + 1 + 1 + 1 + 1 + 1, o5') :: keep) → o5'.data = .cell (some z) → Q .next { s with heap := h', toks := tk' }) :
    wpAny (model PySem.Challenge.rw_fb0050_01.row.prog w) A (exec (lawSt 12) env) Q E s := by
  subst hn
  cases H with
  | mk B F X N T =>
  cases P1 with
  | mk e1 e2 e3 =>
  cases P2 with
  | mk e4 e5 e6 =>
    obtain ⟨A11, A12⟩ := A1; obtain ⟨A21, A22⟩ := A2; obtain ⟨A31, A32⟩ := A3; obtain ⟨B11, B12⟩ := B1; obtain ⟨B21, B22⟩ := B2; obtain ⟨B31, B32⟩ := B3; obtain ⟨BN1, BN2⟩ := BN
    have e2 : lawSc = Scope.mk _ _ _ _ _ := rfl
    dsimp only at e2
    rw [e2]
    clear e2
    w_on
    revert X; k_fill; intro X
    (show wpAny _ _ (exec (Stmt.For _ _ _ _ _) _) _ _ _)
    (with_unfolding_all refine For_turns F ?_ (hE := hE))
    iterate 50 (w_strict walk1)
    rename News _ _ _ _ => N9
    rename Fr _ _ _ _ => F9
    simp only [Int.zero_sub] at N9
    refine loopU (LH.mk (fa := fa) (cd := cd) B F9 X N9 T) (by k_updF) hE (by k_mem)
      (by k_mem) (by refine' PtIn.mk ?p1 ?p2 ?p3; (case p1 => k_mem); (case p2 => k_mem); (case p3 => k_mem)) (by k_mem) ⟨A11, A12⟩ ⟨A21, A22⟩ ⟨A31, A32⟩ A0
      (by k_mem) (by refine' PtIn.mk ?p1 ?p2 ?p3; (case p1 => k_mem); (case p2 => k_mem); (case p3 => k_mem)) (by k_mem) ⟨B11, B12⟩ ⟨B21, B22⟩ ⟨B31, B32⟩ B0
      (by k_mem) (by refine' PtIn.mk ?p1 ?p2 ?p3; (case p1 => k_mem); (case p2 => k_mem); (case p3 => k_mem)) (by k_mem) ⟨by omega, by omega⟩ ⟨by omega, by omega⟩ ⟨by omega, by omega⟩ (nz_neg A0) h5 (fun m' z o5' h' tk' F' N' hd => ?_)
    (try dsimp only at N')
    exact ret _ _ _ _ _ F' (by first | (with_reducible assumption) | (refine' n_sub ?cbN ?cbS; (case cbN => assumption); (case cbS => ((repeat ((with_reducible refine' sub_cons ?cbM ?_); (case cbM => kct_strs))); first | (with_reducible exact sub_nil) | ((repeat (first | (with_reducible exact fun _ hp => hp) | (refine sub_skip ?_))); done)))) | k_asm) hd
theorem turn21 {fa : Addr} {cd : Value} {env : Env} {T : Addr} {f j u v : Int} {tf tj tu tv : Tok} {o5 : Obj} {Q : Flow → Shared → Prop}
    (H : LH w fa cd h₀ L m s news A env) (qT : (T, tupObj [.int u tu, .int v tv]) ∈ news) (c5 : (L + 1 + 1 + 1 + 1 + 1, o5) ∈ news) (h5 : o5.data = .cell (some (.int f tf))) (mj : m (Str.ofString "j") = some (.int j tj)) (hf : 0 ≤ f ∧ f < 6) (hc : clp u = clp v)
    (ret : ∀ (h' : Heap) (tk' : Nat), Fr h₀ L h' (fun z => if z = Str.ofString "rim" then some (.int v tv) else if z = Str.ofString "out" then some (.int u tu) else m z) → News h₀ L h' news → Q .next { s with heap := h', toks := tk' }) :
    wpAny (model PySem.Challenge.rw_fb0050_01.row.prog w) A (assign (forT (lawSt 21)) env (.ref T)) (fun _ s₂ => wpAny (model PySem.Challenge.rw_fb0050_01.row.prog w) A (execs (forB (lawSt 21)) env) Q E s₂) E s := by
  cases H with
  | mk B F X N T =>
    have e2 : lawSc = Scope.mk _ _ _ _ _ := rfl
    dsimp only at e2
    rw [e2]
    clear e2
    w_on
    revert X; k_fill; intro X
    (show wpAny _ _ (assign (Expr.Tuple _ _ _) _ _) (fun _ s₂ => wpAny _ _ (execs [_] _) _ _ s₂) _ _)
    w_strict (k_steps)
    all_goals first
      | exact ret _ _ (by k_asm) (by first | (with_reducible assumption) | (refine' n_sub ?cbN ?cbS; (case cbN => assumption); (case cbS => ((repeat ((with_reducible refine' sub_cons ?cbM ?_); (case cbM => kct_strs))); first | (with_reducible exact sub_nil) | ((repeat (first | (with_reducible exact fun _ hp => hp) | (refine sub_skip ?_))); done)))) | k_asm)
      | exact absurd (wrid_i hc) (by with_reducible assumption)
local macro_rules | `(tactic| walk_at "eval ListComp") => `(tactic| (k_here; (with_reducible show wpAny _ _ _ _ _ _); lcp_look; k_dflt (refine LCp.ListComp_P (F₀ := by k_asm) (by with_unfolding_all rfl) (by decide) (by rfl) (by decide) (by rfl) (by rfl) (by decide) ?_)))
local macro_rules | `(tactic| walk_at "CompRestP") => `(tactic| (with_unfolding_all first
  | (refine LCp.CompRestP.succ ?_; intro v' hv'; lcg_open hv'; refine ⟨_, _, _, _, _, rfl, by k_mem, rfl, rfl, ?_⟩; intro I' oI' C' oC' D' m' h' tk' E' hC' hx' hy' F' N' off' ne')
  | refine LCp.CompRestP.zero ?_))
local macro_rules | `(tactic| walk_at "CompEnd") => `(tactic| (refine' LCg.CompEnd.intro ?F ?N _ ?sub ?off ?S ?_; (case off => with_reducible assumption); (case F => k_asm); (case N => assumption); (case sub => ((repeat (refine sub_cons (by k_mem) ?_)); (repeat (first | (with_reducible exact fun _ hp => hp) | (refine sub_skip ?_))); done)); (case S => lcg_src)))
theorem seg22 {fa : Addr} {cd : Value} {env : Env} {f i g : Int} {tf ti tg tz : Tok} {o5 o6 : Obj} {Q : Flow → Shared → Prop}
    (H : LH w fa cd h₀ L m s news A env) (c5 : (L + 1 + 1 + 1 + 1 + 1, o5) ∈ news) (c6 : (L + 1 + 1 + 1 + 1 + 1 + 1, o6) ∈ news) (h5 : o5.data = .cell (some (.int f tf))) (h6 : o6.data = .cell (some (.int i ti)))
    (m1 : m (Str.ofString "size") = some (.int 1073741824 tz)) (m2 : m (Str.ofString "far") = some (.int g tg)) (hf : 0 ≤ f ∧ f < 6) (hg : 1 ≤ g ∧ g ≤ 500)
    (ret : ∀ (h' : Heap) (tk' : Nat), Fr h₀ L h' m → Q (.ret (.bool true)) { s with heap := h', toks := tk' }) :
    wpAny (model PySem.Challenge.rw_fb0050_01.row.prog w) A (exec (lawSt 22) env) Q E s := by
  cases H with
  | mk B F X N T =>
    have e2 : lawSc = Scope.mk _ _ _ _ _ := rfl
    dsimp only at e2
    rw [e2]
    clear e2
    w_on
    revert X; k_fill; intro X
    (show wpAny _ _ (exec (Stmt.Return _ _) _) _ _ _)
    w_strict (k_steps)
    have e1 : wrid (_root_.Mine.hd.heap_39 w.params) f i (0 - g) = wrid (_root_.Mine.hd.heap_39 w.params) f i (-1) := wrid_j (clp_lo (by omega))
    have e2 : wrid (_root_.Mine.hd.heap_39 w.params) f i (1073741824 - 1 + g) = wrid (_root_.Mine.hd.heap_39 w.params) f i 1073741824 := wrid_j (clp_hi (by omega))
    rw [decide_eq_true e1, decide_eq_true e2]
    exact ret _ _ (by k_asm)
theorem loop21 {fa : Addr} {cd : Value} {env : Env} {l T1 T2 : Addr} {f j u1 v1 u2 v2 : Int} {tf tj s1 w1 s2 w2 : Tok} {o5 : Obj} {Q : Flow → Shared → Prop}
    (H : LH w fa cd h₀ L m s news A env) (hE : PassesOwn (model PySem.Challenge.rw_fb0050_01.row.prog w) A env E) (ql : (l, W.listOf #[.ref T1, .ref T2] 0) ∈ news) (q1 : (T1, tupObj [.int u1 s1, .int v1 w1]) ∈ news) (q2 : (T2, tupObj [.int u2 s2, .int v2 w2]) ∈ news)
    (c5 : (L + 1 + 1 + 1 + 1 + 1, o5) ∈ news) (h5 : o5.data = .cell (some (.int f tf))) (mj : m (Str.ofString "j") = some (.int j tj)) (hf : 0 ≤ f ∧ f < 6) (hc1 : clp u1 = clp v1) (hc2 : clp u2 = clp v2)
    (ret : ∀ (m' : Str → Option Value) (h' : Heap) (tk' : Nat), Fr h₀ L h' m' → News h₀ L h' news → m' (Str.ofString "size") = m (Str.ofString "size") → m' (Str.ofString "far") = m (Str.ofString "far") → Q .next { s with heap := h', toks := tk' }) :
    wpAny (model PySem.Challenge.rw_fb0050_01.row.prog w) A (pyIter (.ref l)) (fun it s₂ => TurnsAt PySem.Challenge.rw_fb0050_01.row.prog w A h₀ env (forT (lawSt 21)) (forB (lawSt 21)) Q E it s₂) E s := by
  cases H with
  | mk B F X N T =>
    refine iter_listTurns (vs := [.ref T1, .ref T2]) rfl F N ql rfl rfl ?_
    intro I lI
    have up : ∀ o : Obj, ∀ p ∈ news, p ∈ (I, o) :: news := fun o p hp => List.mem_cons_of_mem _ hp
    have apart : ∀ oI : Obj, ∀ p ∈ news, ∀ q ∈ [(I, oI)], p.1 ≠ q.1 := fun oI p hp q hq => by
      rw [List.mem_singleton.mp hq]
      exact Nat.ne_of_lt (lI _ hp)
    refine ItemsRest.val ?_
    intro g1 k1 F1
    refine AllObj.cons (fun oI hcI => AllObj.nil (fun N1 => ?_))
    refine turn21 (news := (I, oI) :: news) (LH.mk B F1 X N1 T) (up _ _ q1) (up _ _ c5) h5 mj hf hc1 (fun g2 k2 F2 N2 => ?_)
    refine ⟨g2, k2, _, news, rfl, F2, N2, apart _, ⟨⟨ql, trivial⟩, ?_⟩⟩
    refine ItemsRest.val ?_
    intro g3 k3 F3
    refine AllObj.cons (fun oI hcI => AllObj.nil (fun N3 => ?_))
    refine turn21 (news := (I, oI) :: news) (LH.mk B F3 X N3 T) (up _ _ q2) (up _ _ c5) h5 (by with_unfolding_all exact mj) hf hc2 (fun g4 k4 F4 N4 => ?_)
    refine ⟨g4, k4, _, news, rfl, F4, N4, apart _, ⟨⟨ql, trivial⟩, ?_⟩⟩
    refine ItemsRest.zero ?_
    intro g7 k7 F7 N7
    exact ret _ _ _ F7 N7 (by with_unfolding_all rfl) (by with_unfolding_all rfl)
theorem seg21 {fa : Addr} {cd : Value} {env : Env} {f j g : Int} {tf tj tg tz : Tok} {o5 : Obj} {Q : Flow → Shared → Prop}
    (H : LH w fa cd h₀ L m s news A env) (hE : PassesOwn (model PySem.Challenge.rw_fb0050_01.row.prog w) A env E) (c5 : (L + 1 + 1 + 1 + 1 + 1, o5) ∈ news) (h5 : o5.data = .cell (some (.int f tf))) (mj : m (Str.ofString "j") = some (.int j tj)) (m1 : m (Str.ofString "size") = some (.int 1073741824 tz)) (m2 : m (Str.ofString "far") = some (.int g tg)) (hf : 0 ≤ f ∧ f < 6) (hg : 1 ≤ g ∧ g ≤ 500)
    (ret : ∀ (m' : Str → Option Value) (h' : Heap) (tk' : Nat), Fr h₀ L h' m' → News h₀ L h' news → m' (Str.ofString "size") = m (Str.ofString "size") → m' (Str.ofString "far") = m (Str.ofString "far") → Q .next { s with heap := h', toks := tk' }) :
    wpAny (model PySem.Challenge.rw_fb0050_01.row.prog w) A (exec (lawSt 21) env) Q E s := by
  cases H with
  | mk B F X N T =>
    have e2 : lawSc = Scope.mk _ _ _ _ _ := rfl
    dsimp only at e2
    rw [e2]
    clear e2
    w_on
    revert X; k_fill; intro X
    (show wpAny _ _ (exec (Stmt.For _ _ _ _ _) _) _ _ _)
    (with_unfolding_all refine For_turns F ?_ (hE := hE))
    iterate 30 (w_strict walk1)
    rename News _ _ _ _ => N9
    rename Fr _ _ _ _ => F9
    refine loop21 (LH.mk (fa := fa) (cd := cd) B F9 X N9 T) hE (by k_mem) (by k_mem) (by k_mem) (by k_mem) h5 mj hf (clp_lo (by omega)) (clp_hi (by omega)) (fun m' h' tk' F' N' e1 e2 => ?_)
    exact ret _ _ _ F' (by first | (with_reducible assumption) | (refine' n_sub ?cbN ?cbS; (case cbN => assumption); (case cbS => ((repeat ((with_reducible refine' sub_cons ?cbM ?_); (case cbM => kct_strs))); first | (with_reducible exact sub_nil) | ((repeat (first | (with_reducible exact fun _ hp => hp) | (refine sub_skip ?_))); done)))) | k_asm) e1 e2
theorem seg0 {fa : Addr} {cd : Value} {env : Env} {sa : Addr} {vs : List Value} {xs : List Int} {o1 : Obj} {y1 : Option Value} {keep : List (Addr × Obj)} {Q : Flow → Shared → Prop}
    (H : LH w fa cd h₀ L m s ((L + 1, o1) :: keep) A env) (hm : m (Str.ofString "script") = some (.ref sa)) (hL : h₀.IsList sa vs.toArray) (hX : IntsAre vs xs) (hx : ¬ ((63 : Nat) : Int) < (xs.length : Int)) (h1 : o1.data = .cell y1) (k1 : ∀ p ∈ keep, p.1 ≠ L + 1)
    (ret : ∀ (st sl : Addr) (ws : List Value) (t : Tok) (o1' : Obj) (h' : Heap) (tk' : Nat), Fr h₀ L h' m → News h₀ L h' ((st, stObj sl 0 t) :: (sl, W.listOf ws.toArray 0) :: (L + 1, o1') :: keep) → o1'.data = .cell (some (.ref st)) → IntsAre ws (xs.take 60) → sl ≠ st → Q .next { s with heap := h', toks := tk' }) :
    wpAny (model PySem.Challenge.rw_fb0050_01.row.prog w) A (exec (lawSt 0) env) Q E s := by
  cases H with
  | mk B F X N T =>
    have e2 : lawSc = Scope.mk _ _ _ _ _ := rfl
    dsimp only at e2
    rw [e2]
    clear e2
    w_on
    revert X; k_fill; intro X
    (show wpAny _ _ (exec (Stmt.Assign _ _ _) _) _ _ _)
    w_strict (k_steps)
    exact ret _ _ _ _ _ _ _ (by k_asm) (by first | (with_reducible assumption) | (refine' n_sub ?cbN ?cbS; (case cbN => assumption); (case cbS => ((repeat ((with_reducible refine' sub_cons ?cbM ?_); (case cbM => kct_strs))); first | (with_reducible exact sub_nil) | ((repeat (first | (with_reducible exact fun _ hp => hp) | (refine sub_skip ?_))); done)))) | k_asm) (by with_reducible assumption) (by with_reducible assumption) (Nat.ne_of_lt (And.left (by with_reducible assumption)))
local macro_rules | `(tactic| k_ne) => `(tactic| (refine neN ?_; first | (with_reducible assumption) | (with_reducible exact Ne.symm (by assumption)) | (with_reducible exact Nat.ne_of_lt (by assumption)) | (with_reducible exact Nat.ne_of_gt (by assumption))))
local macro_rules | `(tactic| walk_at "CompRest") => `(tactic| (with_unfolding_all first
  | (refine LCg.CompRest.succ ?_; intro v' I' oI' C' oC' D' m' h' tk' E' hv' hC' hx' F' N' off' ne'; (first | lcg_open hv' | (obtain ⟨t9', hv9'⟩ := hv'; subst hv9')); (try simp only [LCg.Off3, and_true] at off'); (repeat (obtain ⟨⟨_, _, _⟩, off'⟩ := off')); (try (obtain ⟨_, _, _⟩ := off')); (try (obtain ⟨_, _, _⟩ := ne')))
  | refine LCg.CompRest.zero ?_))
local macro_rules | `(tactic| walk_at "FinE") => `(tactic| ((unfold LCg.FinE); intro D' h' tk' F' N' o1'; (try simp only [LCg.Off1, and_true] at o1'); (repeat (obtain ⟨_, o1'⟩ := o1')); (try simp only [List.nil_append, List.cons_append] at N'); (try dsimp only)))
local macro_rules | `(tactic| walk_at "FinA") => `(tactic| ((unfold LCg.FinA); intro D' h' tk' F' N' o1'; (try simp only [LCg.Off1, and_true] at o1'); (repeat (obtain ⟨_, o1'⟩ := o1')); (try simp only [List.nil_append, List.cons_append] at N'); (try dsimp only)))
theorem bd_v {v : Int} (h0 : 0 ≤ v) (h1 : v < 4001) : Bd (v - 2000) := ⟨by omega, by omega⟩
theorem seg1 {fa : Addr} {cd : Value} {env : Env} {st sl : Addr} {t : Tok} {vs : List Value} {xs : List Int} {o1 o2 o3 o4 o5 o6 : Obj} {y2 y3 y4 y5 y6 : Option Value} {Q : Flow → Shared → Prop}
    (H : LH w fa cd h₀ L m s [(st, stObj sl 0 t), (sl, W.listOf vs.toArray 0), (L + 1 + 1 + 1 + 1 + 1 + 1, o6), (L + 1 + 1 + 1 + 1 + 1, o5), (L + 1 + 1 + 1 + 1, o4), (L + 1 + 1 + 1, o3), (L + 1 + 1, o2), (L + 1, o1)] A env) (hX : IntsAre vs xs) (hl : xs.length ≤ 60) (h1 : o1.data = .cell (some (.ref st))) (h2 : o2.data = .cell y2) (h3 : o3.data = .cell y3) (h4 : o4.data = .cell y4) (h5 : o5.data = .cell y5) (h6 : o6.data = .cell y6) (k0 : sl ≠ st)
    (ret : ∀ (D r1 r2 : Addr) (a1 a2 a3 b1 b2 b3 : Int) (t1 t2 t3 u1 u2 u3 t' : Tok) (h' : Heap) (tk' : Nat), Fr h₀ L h' (fun z => if z = Str.ofString "rows" then some (.ref D) else m z) →
      News h₀ L h' ((D, LCg.lst [.ref r1, .ref r2]) :: (r1, rowObj a1 a2 a3 t1 t2 t3 3) :: (r2, rowObj b1 b2 b3 u1 u2 u3 3) :: (st, stObj sl 6 t') :: (sl, W.listOf vs.toArray 0) :: [(L + 1 + 1 + 1 + 1 + 1 + 1, o6), (L + 1 + 1 + 1 + 1 + 1, o5), (L + 1 + 1 + 1 + 1, o4), (L + 1 + 1 + 1, o3), (L + 1 + 1, o2), (L + 1, o1)]) →
      Bd a1 → Bd a2 → Bd a3 → Bd b1 → Bd b2 → Bd b3 → Q .next { s with heap := h', toks := tk' }) :
    wpAny (model PySem.Challenge.rw_fb0050_01.row.prog w) A (exec (lawSt 1) env) Q E s := by
  cases H with
  | mk B F X N T =>
    have e2 : lawSc = Scope.mk _ _ _ _ _ := rfl
    dsimp only at e2
    rw [e2]
    clear e2
    w_on
    revert X; k_fill; intro X
    have n0 : st ≠ sl := Ne.symm k0
    obtain ⟨_, _⟩ := ne_cell N (a := L + 1) (b := st) (o := o1) (by simp) (o' := stObj sl 0 t) (by simp) h1 rfl
    obtain ⟨_, _⟩ := ne_cell N (a := L + 1) (b := sl) (o := o1) (by simp) (o' := W.listOf vs.toArray 0) (by simp) h1 rfl
    obtain ⟨_, _⟩ := ne_cell N (a := L + 1 + 1) (b := st) (o := o2) (by simp) (o' := stObj sl 0 t) (by simp) h2 rfl
    obtain ⟨_, _⟩ := ne_cell N (a := L + 1 + 1) (b := sl) (o := o2) (by simp) (o' := W.listOf vs.toArray 0) (by simp) h2 rfl
    obtain ⟨_, _⟩ := ne_cell N (a := L + 1 + 1 + 1) (b := st) (o := o3) (by simp) (o' := stObj sl 0 t) (by simp) h3 rfl
    obtain ⟨_, _⟩ := ne_cell N (a := L + 1 + 1 + 1) (b := sl) (o := o3) (by simp) (o' := W.listOf vs.toArray 0) (by simp) h3 rfl
    obtain ⟨_, _⟩ := ne_cell N (a := L + 1 + 1 + 1 + 1) (b := st) (o := o4) (by simp) (o' := stObj sl 0 t) (by simp) h4 rfl
    obtain ⟨_, _⟩ := ne_cell N (a := L + 1 + 1 + 1 + 1) (b := sl) (o := o4) (by simp) (o' := W.listOf vs.toArray 0) (by simp) h4 rfl
    obtain ⟨_, _⟩ := ne_cell N (a := L + 1 + 1 + 1 + 1 + 1) (b := st) (o := o5) (by simp) (o' := stObj sl 0 t) (by simp) h5 rfl
    obtain ⟨_, _⟩ := ne_cell N (a := L + 1 + 1 + 1 + 1 + 1) (b := sl) (o := o5) (by simp) (o' := W.listOf vs.toArray 0) (by simp) h5 rfl
    obtain ⟨_, _⟩ := ne_cell N (a := L + 1 + 1 + 1 + 1 + 1 + 1) (b := st) (o := o6) (by simp) (o' := stObj sl 0 t) (by simp) h6 rfl
    obtain ⟨_, _⟩ := ne_cell N (a := L + 1 + 1 + 1 + 1 + 1 + 1) (b := sl) (o := o6) (by simp) (o' := W.listOf vs.toArray 0) (by simp) h6 rfl
    (show wpAny _ _ (exec (Stmt.Assign _ _ _) _) _ _ _)
    w_strict (k_steps)
    refine' ret _ _ _ _ _ _ _ _ _ _ _ _ _ _ _ _ _ _ ?F ?N ?b1 ?b2 ?b3 ?b4 ?b5 ?b6
    case F => with_reducible assumption
    case N =>
      refine' n_sub ?cbN ?cbS
      case cbN => assumption
      case cbS =>
        refine sub_cons (by k_mem) ?_
        refine sub_cons (by k_mem) ?_
        refine sub_cons (by k_mem) ?_
        refine sub_cons (by k_mem) ?_
        refine sub_cons (by k_mem) ?_
        refine sub_cons (by k_mem) ?_
        refine sub_cons (by k_mem) ?_
        refine sub_cons (by k_mem) ?_
        refine sub_cons (by k_mem) ?_
        refine sub_cons (by k_mem) ?_
        refine sub_cons (by k_mem) ?_
        exact sub_nil
    case b1 => with_reducible exact bd_v (by with_reducible assumption) (by with_reducible assumption)
    case b2 => with_reducible exact bd_v (by with_reducible assumption) (by with_reducible assumption)
    case b3 => with_reducible exact bd_v (by with_reducible assumption) (by with_reducible assumption)
    case b4 => with_reducible exact bd_v (by with_reducible assumption) (by with_reducible assumption)
    case b5 => with_reducible exact bd_v (by with_reducible assumption) (by with_reducible assumption)
    case b6 => with_reducible exact bd_v (by with_reducible assumption) (by with_reducible assumption)
theorem lchain {M : Model} {env : Env} {Q : Flow → Shared → Prop} {k : Nat} (e : lawRest k = lawSt k :: lawRest (k + 1)) (h : wpAny M A (exec (lawSt k) env) (fun f s' => match f with | .next => wpAny M A (execs (lawRest (k + 1)) env) Q E s' | f => Q f s') E s) : wpAny M A (execs (lawRest k) env) Q E s := by
  rw [e]; exact wpAny_execs_cons h
theorem all_ne {c : Addr} {o : Obj} {v : Option Value} {h : Heap} (N : News h₀ L h news) (hc : (c, o) ∈ news) (ho : o.data = .cell v) : ∀ {keep : List (Addr × Obj)}, (∀ p ∈ keep, p ∈ news) → (∀ p ∈ keep, (∀ z, p.2.data ≠ .cell z) ∨ p.1 ≠ c) → ∀ p ∈ keep, p.1 ≠ c := fun hs hk p hp => by
  rcases hk p hp with h | h
  · exact ne_of_news N (hs p hp) hc (by rw [ho]; exact h _)
  · exact h
theorem all_st {c : Addr} {o : Obj} {h : Heap} (N : News h₀ L h news) (hc : (c, o) ∈ news) : ∀ {keep : List (Addr × Obj)}, (∀ p ∈ keep, p ∈ news) → (∀ p ∈ keep, p.2.data ≠ o.data) → ∀ p ∈ keep, p.1 ≠ c := fun hs hk p hp => ne_of_news N (hs p hp) hc (hk p hp)
theorem bd_of {a b c a' b' c' : Int} (h : a' = a ∧ b' = b ∧ c' = c ∨ a' = 0 ∧ b' = 0 ∧ c' = 1) (A : Bd a) (B : Bd b) (C : Bd c) : Bd a' ∧ Bd b' ∧ Bd c' := by
  rcases h with ⟨rfl, rfl, rfl⟩ | ⟨rfl, rfl, rfl⟩
  · exact ⟨A, B, C⟩
  · exact ⟨⟨by decide, by decide⟩, ⟨by decide, by decide⟩, ⟨by decide, by decide⟩⟩
theorem b_mul {a b : Int} (A : Bd a) (B : Bd b) : -4000000 ≤ a * b ∧ a * b ≤ 4000000 := by
  obtain ⟨a1, a2⟩ := A
  obtain ⟨b1, b2⟩ := B
  have h : (a * b).natAbs ≤ 2000 * 2000 := by
    rw [Int.natAbs_mul]
    exact Nat.mul_le_mul (by omega) (by omega)
  omega
theorem sm_cross {a b c d : Int} (A : Bd a) (B : Bd b) (C : Bd c) (D : Bd d) : Sm (a * b - c * d) := by
  have h1 := b_mul A B
  have h2 := b_mul C D
  constructor <;> omega
theorem sm_dot {a b c d e f : Int} (A : Bd a) (B : Bd b) (C : Bd c) (D : Bd d) (E : Bd e) (F : Bd f) : (a * d + b * e + c * f).natAbs < 2 ^ 64 := by
  have h1 := b_mul A D
  have h2 := b_mul B E
  have h3 := b_mul C F
  omega
theorem laid_sees {f i j : Int} (hf : 0 ≤ f ∧ f < 6) (hi : 0 ≤ i ∧ i < 1073741824) (hj : 0 ≤ j ∧ j < 1073741824) :
    fcOf (fX f (2 * i + 1 - 1073741824) (2 * j + 1 - 1073741824) + fX f 0 0 * (1073741824 - 1)) (fY f (2 * i + 1 - 1073741824) (2 * j + 1 - 1073741824) + fY f 0 0 * (1073741824 - 1)) (fZ f (2 * i + 1 - 1073741824) (2 * j + 1 - 1073741824) + fZ f 0 0 * (1073741824 - 1)) = f ∧
    vU f (fX f (2 * i + 1 - 1073741824) (2 * j + 1 - 1073741824) + fX f 0 0 * (1073741824 - 1)) (fY f (2 * i + 1 - 1073741824) (2 * j + 1 - 1073741824) + fY f 0 0 * (1073741824 - 1)) (fZ f (2 * i + 1 - 1073741824) (2 * j + 1 - 1073741824) + fZ f 0 0 * (1073741824 - 1)) = (2 * i + 1 - 1073741824) * 8388608 ∧
    vV f (fX f (2 * i + 1 - 1073741824) (2 * j + 1 - 1073741824) + fX f 0 0 * (1073741824 - 1)) (fY f (2 * i + 1 - 1073741824) (2 * j + 1 - 1073741824) + fY f 0 0 * (1073741824 - 1)) (fZ f (2 * i + 1 - 1073741824) (2 * j + 1 - 1073741824) + fZ f 0 0 * (1073741824 - 1)) = (2 * j + 1 - 1073741824) * 8388608 :=
  on_face hf.1 hf.2 ⟨by omega, by omega⟩ ⟨by omega, by omega⟩
theorem law_all {fa : Addr} {cd : Value} {env : Env} {sa : Addr} {vs : List Value} {xs : List Int} {o1 o2 o3 o4 o5 o6 : Obj} {y1 y2 y3 y4 y5 y6 : Option Value} {Q : Flow → Shared → Prop}
    (H : LH w fa cd h₀ L m s [(L + 1 + 1 + 1 + 1 + 1 + 1, o6), (L + 1 + 1 + 1 + 1 + 1, o5), (L + 1 + 1 + 1 + 1, o4), (L + 1 + 1 + 1, o3), (L + 1 + 1, o2), (L + 1, o1)] A env) (hE : PassesOwn (model PySem.Challenge.rw_fb0050_01.row.prog w) A env E) (hm : m (Str.ofString "script") = some (.ref sa)) (hL : h₀.IsList sa vs.toArray) (hX : IntsAre vs xs) (hx : ¬ ((63 : Nat) : Int) < (xs.length : Int))
    (h1 : o1.data = .cell y1) (h2 : o2.data = .cell y2) (h3 : o3.data = .cell y3) (h4 : o4.data = .cell y4) (h5 : o5.data = .cell y5) (h6 : o6.data = .cell y6)
    (ret : ∀ (m' : Str → Option Value) (h' : Heap) (tk' : Nat), Fr h₀ L h' m' → Q (.ret (.bool true)) { s with heap := h', toks := tk' }) :
    wpAny (model PySem.Challenge.rw_fb0050_01.row.prog w) A (execs (lawRest 0) env) Q E s := by
  cases H with
  | mk B F X N T =>
    have sq : ∀ {its : Array Value} {n : Nat} (z : Option Value), (Data.seq its n) ≠ .cell z := fun z q => by cases q
    have N0 : News h₀ L s.heap [(L + 1, o1), (L + 1 + 1 + 1 + 1 + 1 + 1, o6), (L + 1 + 1 + 1 + 1 + 1, o5), (L + 1 + 1 + 1 + 1, o4), (L + 1 + 1 + 1, o3), (L + 1 + 1, o2)] := (by first | (with_reducible assumption) | (refine' n_sub ?cbN ?cbS; (case cbN => assumption); (case cbS => ((repeat ((with_reducible refine' sub_cons ?cbM ?_); (case cbM => kct_strs))); first | (with_reducible exact sub_nil) | ((repeat (first | (with_reducible exact fun _ hp => hp) | (refine sub_skip ?_))); done)))) | k_asm)
    refine lchain rfl (seg0 (LH.mk B F X N0 T) hm hL hX hx h1 (List.forall_mem_cons.mpr ⟨neN (by omega), (List.forall_mem_cons.mpr ⟨neN (by omega), (List.forall_mem_cons.mpr ⟨neN (by omega), (List.forall_mem_cons.mpr ⟨neN (by omega), (List.forall_mem_cons.mpr ⟨neN (by omega), (fun _ hp => nomatch hp)⟩)⟩)⟩)⟩)⟩) (fun st sl ws t0 p1 g1 k1 F1 N1 d1 hI hne => ?_))
    show wpAny _ _ (execs (lawRest 1) _) _ _ { s with heap := g1, toks := k1 }
    have M1 : News h₀ L g1 [(st, stObj sl 0 t0), (sl, W.listOf ws.toArray 0), (L + 1 + 1 + 1 + 1 + 1 + 1, o6), (L + 1 + 1 + 1 + 1 + 1, o5), (L + 1 + 1 + 1 + 1, o4), (L + 1 + 1 + 1, o3), (L + 1 + 1, o2), (L + 1, p1)] := (by first | (with_reducible assumption) | (refine' n_sub ?cbN ?cbS; (case cbN => assumption); (case cbS => ((repeat ((with_reducible refine' sub_cons ?cbM ?_); (case cbM => kct_strs))); first | (with_reducible exact sub_nil) | ((repeat (first | (with_reducible exact fun _ hp => hp) | (refine sub_skip ?_))); done)))) | k_asm)
    have hl : (xs.take 60).length ≤ 60 := List.length_take_le _ _
    refine lchain rfl (seg1 (LH.mk B F1 X M1 T) hI hl d1 h2 h3 h4 h5 h6 hne (fun D r1 r2 a1 a2 a3 b1 b2 b3 t1 t2 t3 u1 u2 u3 t4 g2 k2 F2 N2 A1 A2 A3 B1 B2 B3 => ?_))
    show wpAny _ _ (execs (lawRest 2) _) _ _ { s with heap := g2, toks := k2 }
    refine lchain rfl (seg2 (LH.mk B F2 X N2 T) (by with_unfolding_all rfl) (fun D r1 r2 a1' a2' a3' b1' b2' b3' t1 t2 t3 u1 u2 u3 n1 n2 g3 k3 F3 N3 e1 e2 z1 z2 => ?_))
    show wpAny _ _ (execs (lawRest 3) _) _ _ { s with heap := g3, toks := k3 }
    obtain ⟨A1', A2', A3'⟩ := bd_of e1 A1 A2 A3
    obtain ⟨B1', B2', B3'⟩ := bd_of e2 B1 B2 B3
    clear A1 A2 A3 B1 B2 B3 e1 e2 F N F1 N1 F2 N2 M1 N0
    have M3 : News h₀ L g3 [(st, stObj sl 6 t4), (sl, W.listOf ws.toArray 0), (L + 1 + 1, o2), (L + 1, p1), (D, LCg.lst [.ref r1, .ref r2]), (r1, rowObj a1' a2' a3' t1 t2 t3 n1), (r2, rowObj b1' b2' b3' u1 u2 u3 n2), (L + 1 + 1 + 1 + 1 + 1 + 1, o6), (L + 1 + 1 + 1 + 1 + 1, o5), (L + 1 + 1 + 1 + 1, o4), (L + 1 + 1 + 1, o3)] := (by first | (with_reducible assumption) | (refine' n_sub ?cbN ?cbS; (case cbN => assumption); (case cbS => ((repeat ((with_reducible refine' sub_cons ?cbM ?_); (case cbM => kct_strs))); first | (with_reducible exact sub_nil) | ((repeat (first | (with_reducible exact fun _ hp => hp) | (refine sub_skip ?_))); done)))) | k_asm)
    have q1 : ∀ p ∈ [(D, LCg.lst [.ref r1, .ref r2]), (r1, rowObj a1' a2' a3' t1 t2 t3 n1), (r2, rowObj b1' b2' b3' u1 u2 u3 n2), (L + 1 + 1 + 1 + 1 + 1 + 1, o6), (L + 1 + 1 + 1 + 1 + 1, o5), (L + 1 + 1 + 1 + 1, o4), (L + 1 + 1 + 1, o3)], p.1 ≠ st := all_st M3 (List.mem_cons_self ..) (by first | (with_reducible exact sub_nil) | ((repeat ((with_reducible refine' sub_cons ?cbM ?_); (case cbM => kct_strs))); exact sub_nil)) (List.forall_mem_cons.mpr ⟨(by intro q; cases q), (List.forall_mem_cons.mpr ⟨(by intro q; cases q), (List.forall_mem_cons.mpr ⟨(by intro q; cases q), (List.forall_mem_cons.mpr ⟨(by rw [h6]; intro q; cases q), (List.forall_mem_cons.mpr ⟨(by rw [h5]; intro q; cases q), (List.forall_mem_cons.mpr ⟨(by rw [h4]; intro q; cases q), (List.forall_mem_cons.mpr ⟨(by rw [h3]; intro q; cases q), (fun _ hp => nomatch hp)⟩)⟩)⟩)⟩)⟩)⟩)⟩)
    have q2 : ∀ p ∈ [(D, LCg.lst [.ref r1, .ref r2]), (r1, rowObj a1' a2' a3' t1 t2 t3 n1), (r2, rowObj b1' b2' b3' u1 u2 u3 n2), (L + 1 + 1 + 1 + 1 + 1 + 1, o6), (L + 1 + 1 + 1 + 1 + 1, o5), (L + 1 + 1 + 1 + 1, o4), (L + 1 + 1 + 1, o3)], p.1 ≠ L + 1 + 1 := all_ne M3 (by kct_strs) h2 (by first | (with_reducible exact sub_nil) | ((repeat ((with_reducible refine' sub_cons ?cbM ?_); (case cbM => kct_strs))); exact sub_nil)) (List.forall_mem_cons.mpr ⟨(.inl (fun z q => by cases q)), (List.forall_mem_cons.mpr ⟨(.inl (fun z q => by cases q)), (List.forall_mem_cons.mpr ⟨(.inl (fun z q => by cases q)), (List.forall_mem_cons.mpr ⟨(.inr (neN (by omega))), (List.forall_mem_cons.mpr ⟨(.inr (neN (by omega))), (List.forall_mem_cons.mpr ⟨(.inr (neN (by omega))), (List.forall_mem_cons.mpr ⟨(.inr (neN (by omega))), (fun _ hp => nomatch hp)⟩)⟩)⟩)⟩)⟩)⟩)⟩)
    refine lchain rfl (seg3 (y := y2) (LH.mk B F3 X M3 T) hI hl (by decide) d1 h2 hne q1 q2 (fun v4 tv4 t5 p2 g4 k4 F4 N4 d2 w1 w2 => ?_))
    show wpAny _ _ (execs (lawRest 4) _) _ _ { s with heap := g4, toks := k4 }
    have M4 : News h₀ L g4 [(D, LCg.lst [.ref r1, .ref r2]), (r1, rowObj a1' a2' a3' t1 t2 t3 n1), (r2, rowObj b1' b2' b3' u1 u2 u3 n2), (st, stObj sl (6 + 1) t5), (sl, W.listOf ws.toArray 0), (L + 1 + 1, p2), (L + 1, p1), (L + 1 + 1 + 1 + 1 + 1 + 1, o6), (L + 1 + 1 + 1 + 1 + 1, o5), (L + 1 + 1 + 1 + 1, o4), (L + 1 + 1 + 1, o3)] := (by first | (with_reducible assumption) | (refine' n_sub ?cbN ?cbS; (case cbN => assumption); (case cbS => ((repeat ((with_reducible refine' sub_cons ?cbM ?_); (case cbM => kct_strs))); first | (with_reducible exact sub_nil) | ((repeat (first | (with_reducible exact fun _ hp => hp) | (refine sub_skip ?_))); done)))) | k_asm)
    refine lchain rfl (seg4 (LH.mk B F4 X M4 T) (by with_unfolding_all rfl) (fun x d t x' d' t' j0 j1 j2 j3 j4 j5 j6 j7 g5 k5 F5 N5 => ?_))
    show wpAny _ _ (execs (lawRest 5) _) _ _ { s with heap := g5, toks := k5 }
    have M5 : News h₀ L g5 [(D, LCg.lst [.ref r1, .ref r2]), (L + 1 + 1 + 1 + 1, o4), (L + 1 + 1 + 1, o3), (t', tupObj [.int b1' j5, .int b2' j6, .int b3' j7]), (x', instObj 134 d'), (d', dictOf [ptEntry w j4 t'] 1), (t, tupObj [.int a1' j1, .int a2' j2, .int a3' j3]), (x, instObj 134 d), (d, dictOf [ptEntry w j0 t] 1), (r1, rowObj a1' a2' a3' t1 t2 t3 n1), (r2, rowObj b1' b2' b3' u1 u2 u3 n2), (st, stObj sl (6 + 1) t5), (sl, W.listOf ws.toArray 0), (L + 1 + 1, p2), (L + 1, p1), (L + 1 + 1 + 1 + 1 + 1 + 1, o6), (L + 1 + 1 + 1 + 1 + 1, o5)] := (by first | (with_reducible assumption) | (refine' n_sub ?cbN ?cbS; (case cbN => assumption); (case cbS => ((repeat ((with_reducible refine' sub_cons ?cbM ?_); (case cbM => kct_strs))); first | (with_reducible exact sub_nil) | ((repeat (first | (with_reducible exact fun _ hp => hp) | (refine sub_skip ?_))); done)))) | k_asm)
    have q3 : ∀ p ∈ [(t', tupObj [.int b1' j5, .int b2' j6, .int b3' j7]), (x', instObj 134 d'), (d', dictOf [ptEntry w j4 t'] 1), (t, tupObj [.int a1' j1, .int a2' j2, .int a3' j3]), (x, instObj 134 d), (d, dictOf [ptEntry w j0 t] 1), (r1, rowObj a1' a2' a3' t1 t2 t3 n1), (r2, rowObj b1' b2' b3' u1 u2 u3 n2), (st, stObj sl (6 + 1) t5), (sl, W.listOf ws.toArray 0), (L + 1 + 1, p2), (L + 1, p1), (L + 1 + 1 + 1 + 1 + 1 + 1, o6), (L + 1 + 1 + 1 + 1 + 1, o5)], p.1 ≠ L + 1 + 1 + 1 := all_ne M5 (by kct_strs) h3 (by first | (with_reducible exact sub_nil) | ((repeat ((with_reducible refine' sub_cons ?cbM ?_); (case cbM => kct_strs))); exact sub_nil)) (List.forall_mem_cons.mpr ⟨(.inl (fun z q => by cases q)), (List.forall_mem_cons.mpr ⟨(.inl (fun z q => by cases q)), (List.forall_mem_cons.mpr ⟨(.inl (fun z q => by cases q)), (List.forall_mem_cons.mpr ⟨(.inl (fun z q => by cases q)), (List.forall_mem_cons.mpr ⟨(.inl (fun z q => by cases q)), (List.forall_mem_cons.mpr ⟨(.inl (fun z q => by cases q)), (List.forall_mem_cons.mpr ⟨(.inl (fun z q => by cases q)), (List.forall_mem_cons.mpr ⟨(.inl (fun z q => by cases q)), (List.forall_mem_cons.mpr ⟨(.inl (fun z q => by cases q)), (List.forall_mem_cons.mpr ⟨(.inl (fun z q => by cases q)), (List.forall_mem_cons.mpr ⟨(.inr (neN (by omega))), (List.forall_mem_cons.mpr ⟨(.inr (neN (by omega))), (List.forall_mem_cons.mpr ⟨(.inr (neN (by omega))), (List.forall_mem_cons.mpr ⟨(.inr (neN (by omega))), (fun _ hp => nomatch hp)⟩)⟩)⟩)⟩)⟩)⟩)⟩)⟩)⟩)⟩)⟩)⟩)⟩)⟩)
    have q4 : ∀ p ∈ [(t', tupObj [.int b1' j5, .int b2' j6, .int b3' j7]), (x', instObj 134 d'), (d', dictOf [ptEntry w j4 t'] 1), (t, tupObj [.int a1' j1, .int a2' j2, .int a3' j3]), (x, instObj 134 d), (d, dictOf [ptEntry w j0 t] 1), (r1, rowObj a1' a2' a3' t1 t2 t3 n1), (r2, rowObj b1' b2' b3' u1 u2 u3 n2), (st, stObj sl (6 + 1) t5), (sl, W.listOf ws.toArray 0), (L + 1 + 1, p2), (L + 1, p1), (L + 1 + 1 + 1 + 1 + 1 + 1, o6), (L + 1 + 1 + 1 + 1 + 1, o5)], p.1 ≠ L + 1 + 1 + 1 + 1 := all_ne M5 (by kct_strs) h4 (by first | (with_reducible exact sub_nil) | ((repeat ((with_reducible refine' sub_cons ?cbM ?_); (case cbM => kct_strs))); exact sub_nil)) (List.forall_mem_cons.mpr ⟨(.inl (fun z q => by cases q)), (List.forall_mem_cons.mpr ⟨(.inl (fun z q => by cases q)), (List.forall_mem_cons.mpr ⟨(.inl (fun z q => by cases q)), (List.forall_mem_cons.mpr ⟨(.inl (fun z q => by cases q)), (List.forall_mem_cons.mpr ⟨(.inl (fun z q => by cases q)), (List.forall_mem_cons.mpr ⟨(.inl (fun z q => by cases q)), (List.forall_mem_cons.mpr ⟨(.inl (fun z q => by cases q)), (List.forall_mem_cons.mpr ⟨(.inl (fun z q => by cases q)), (List.forall_mem_cons.mpr ⟨(.inl (fun z q => by cases q)), (List.forall_mem_cons.mpr ⟨(.inl (fun z q => by cases q)), (List.forall_mem_cons.mpr ⟨(.inr (neN (by omega))), (List.forall_mem_cons.mpr ⟨(.inr (neN (by omega))), (List.forall_mem_cons.mpr ⟨(.inr (neN (by omega))), (List.forall_mem_cons.mpr ⟨(.inr (neN (by omega))), (fun _ hp => nomatch hp)⟩)⟩)⟩)⟩)⟩)⟩)⟩)⟩)⟩)⟩)⟩)⟩)⟩)⟩)
    refine lchain rfl (seg5 (LH.mk B F5 X M5 T) (by with_unfolding_all rfl) h3 h4 q3 q4 (fun p3 p4 g6 k6 F6 N6 d3 d4 => ?_))
    show wpAny _ _ (execs (lawRest 6) _) _ _ { s with heap := g6, toks := k6 }
    clear q1 q2 q3 q4 M3 M4 M5 F3 N3 F4 N4 F5 N5
    refine lchain rfl (seg6 (x := x) (x' := x') (LH.mk B F6 X N6 T) (by refine' PtIn.mk ?p1 ?p2 ?p3; (case p1 => kct_strs); (case p2 => kct_strs); (case p3 => kct_strs)) (by refine' PtIn.mk ?p1 ?p2 ?p3; (case p1 => kct_strs); (case p2 => kct_strs); (case p3 => kct_strs)) (by with_unfolding_all rfl) (by with_unfolding_all rfl) (by kct_strs) (by kct_strs) (by kct_strs) d2 d3 d4 (by kct_strs) (by kct_strs) A1' A2' A3' B1' B2' B3' ⟨by omega, by omega⟩ (fun r3 v1 v2 v3 n3 g7 k7 F7 N7 => ?_))
    show wpAny _ _ (execs (lawRest 7) _) _ _ { s with heap := g7, toks := k7 }
    refine lchain rfl (seg7 (x := x) (x' := x') (LH.mk B F7 X N7 T) (by refine' PtIn.mk ?p1 ?p2 ?p3; (case p1 => kct_strs); (case p2 => kct_strs); (case p3 => kct_strs)) (by refine' PtIn.mk ?p1 ?p2 ?p3; (case p1 => kct_strs); (case p2 => kct_strs); (case p3 => kct_strs)) (by with_unfolding_all rfl) (by with_unfolding_all rfl) (by kct_strs) (by kct_strs) (by kct_strs) d2 d3 d4 (by kct_strs) (by kct_strs) A1' A2' A3' B1' B2' B3' ⟨by omega, by omega⟩ (fun g8 k8 F8 N8 => ?_))
    show wpAny _ _ (execs (lawRest 8) _) _ _ { s with heap := g8, toks := k8 }
    refine lchain rfl (seg8 (x := x) (x' := x') (LH.mk B F8 X N8 T) (by refine' PtIn.mk ?p1 ?p2 ?p3; (case p1 => kct_strs); (case p2 => kct_strs); (case p3 => kct_strs)) (by refine' PtIn.mk ?p1 ?p2 ?p3; (case p1 => kct_strs); (case p2 => kct_strs); (case p3 => kct_strs)) (by with_unfolding_all rfl) (by with_unfolding_all rfl) (by kct_strs) (by kct_strs) (by kct_strs) d2 d3 d4 (by kct_strs) (by kct_strs) A1' A2' A3' B1' B2' B3' ⟨by omega, by omega⟩ (fun g9 k9 F9 N9 => ?_))
    show wpAny _ _ (execs (lawRest 9) _) _ _ { s with heap := g9, toks := k9 }
    refine lchain rfl (seg9 (x := x) (x' := x') (LH.mk B F9 X N9 T) (by refine' PtIn.mk ?p1 ?p2 ?p3; (case p1 => kct_strs); (case p2 => kct_strs); (case p3 => kct_strs)) (by refine' PtIn.mk ?p1 ?p2 ?p3; (case p1 => kct_strs); (case p2 => kct_strs); (case p3 => kct_strs)) (by with_unfolding_all rfl) (by with_unfolding_all rfl) (by kct_strs) (by kct_strs) (by kct_strs) d2 d3 d4 (by kct_strs) (by kct_strs) A1' A2' A3' B1' B2' B3' ⟨by omega, by omega⟩ (fun y dy ty i0 i1 i2 i3 g10 k10 F10 N10 => ?_))
    show wpAny _ _ (execs (lawRest 10) _) _ _ { s with heap := g10, toks := k10 }
    refine lchain rfl (seg10 (x := x) (x' := x') (y := y) (r3 := r3) (LH.mk B F10 X N10 T) (by refine' PtIn.mk ?p1 ?p2 ?p3; (case p1 => kct_strs); (case p2 => kct_strs); (case p3 => kct_strs)) (by refine' PtIn.mk ?p1 ?p2 ?p3; (case p1 => kct_strs); (case p2 => kct_strs); (case p3 => kct_strs)) (by with_unfolding_all rfl) (by with_unfolding_all rfl) (by kct_strs) (by kct_strs) (by kct_strs) d2 d3 d4 (by kct_strs) (by kct_strs) A1' A2' A3' B1' B2' B3' ⟨by omega, by omega⟩ (by refine' PtIn.mk ?p1 ?p2 ?p3; (case p1 => kct_strs); (case p2 => kct_strs); (case p3 => kct_strs)) (by with_unfolding_all rfl) (by with_unfolding_all rfl) (by kct_strs) (sm_cross A2' B3' A3' B2') (sm_cross A3' B1' A1' B3') (sm_cross A1' B2' A2' B1') (fun g11 k11 F11 N11 => ?_))
    show wpAny _ _ (execs (lawRest 11) _) _ _ { s with heap := g11, toks := k11 }
    refine lchain rfl (seg11 (x := x) (x' := x') (y := y) (r3 := r3) (LH.mk B F11 X N11 T) (by refine' PtIn.mk ?p1 ?p2 ?p3; (case p1 => kct_strs); (case p2 => kct_strs); (case p3 => kct_strs)) (by refine' PtIn.mk ?p1 ?p2 ?p3; (case p1 => kct_strs); (case p2 => kct_strs); (case p3 => kct_strs)) (by with_unfolding_all rfl) (by with_unfolding_all rfl) (by kct_strs) (by kct_strs) (by kct_strs) d2 d3 d4 (by kct_strs) (by kct_strs) A1' A2' A3' B1' B2' B3' ⟨by omega, by omega⟩ (by refine' PtIn.mk ?p1 ?p2 ?p3; (case p1 => kct_strs); (case p2 => kct_strs); (case p3 => kct_strs)) (by with_unfolding_all rfl) (by with_unfolding_all rfl) (by kct_strs) (sm_cross A2' B3' A3' B2') (sm_cross A3' B1' A1' B3') (sm_cross A1' B2' A2' B1') (sm_dot A1' A2' A3' B1' B2' B3') (fun g12 k12 F12 N12 => ?_))
    show wpAny _ _ (execs (lawRest 12) _) _ _ { s with heap := g12, toks := k12 }
    have M12 : News h₀ L g12 [(L + 1 + 1 + 1 + 1 + 1, o5), (t', tupObj [.int b1' j5, .int b2' j6, .int b3' j7]), (x', instObj 134 d'), (d', dictOf [ptEntry w j4 t'] 1), (t, tupObj [.int a1' j1, .int a2' j2, .int a3' j3]), (x, instObj 134 d), (d, dictOf [ptEntry w j0 t] 1), (r1, rowObj a1' a2' a3' t1 t2 t3 n1), (r2, rowObj b1' b2' b3' u1 u2 u3 n2), (st, stObj sl (6 + 1) t5), (sl, W.listOf ws.toArray 0), (L + 1 + 1 + 1 + 1, p4), (L + 1 + 1 + 1, p3), (L + 1 + 1, p2), (L + 1, p1), (L + 1 + 1 + 1 + 1 + 1 + 1, o6)] := (by first | (with_reducible assumption) | (refine' n_sub ?cbN ?cbS; (case cbN => assumption); (case cbS => ((repeat ((with_reducible refine' sub_cons ?cbM ?_); (case cbM => kct_strs))); first | (with_reducible exact sub_nil) | ((repeat (first | (with_reducible exact fun _ hp => hp) | (refine sub_skip ?_))); done)))) | k_asm)
    have q5 : ∀ p ∈ [(t', tupObj [.int b1' j5, .int b2' j6, .int b3' j7]), (x', instObj 134 d'), (d', dictOf [ptEntry w j4 t'] 1), (t, tupObj [.int a1' j1, .int a2' j2, .int a3' j3]), (x, instObj 134 d), (d, dictOf [ptEntry w j0 t] 1), (r1, rowObj a1' a2' a3' t1 t2 t3 n1), (r2, rowObj b1' b2' b3' u1 u2 u3 n2), (st, stObj sl (6 + 1) t5), (sl, W.listOf ws.toArray 0), (L + 1 + 1 + 1 + 1, p4), (L + 1 + 1 + 1, p3), (L + 1 + 1, p2), (L + 1, p1), (L + 1 + 1 + 1 + 1 + 1 + 1, o6)], p.1 ≠ L + 1 + 1 + 1 + 1 + 1 := all_ne M12 (by kct_strs) h5 (by first | (with_reducible exact sub_nil) | ((repeat ((with_reducible refine' sub_cons ?cbM ?_); (case cbM => kct_strs))); exact sub_nil)) (List.forall_mem_cons.mpr ⟨(.inl (fun z q => by cases q)), (List.forall_mem_cons.mpr ⟨(.inl (fun z q => by cases q)), (List.forall_mem_cons.mpr ⟨(.inl (fun z q => by cases q)), (List.forall_mem_cons.mpr ⟨(.inl (fun z q => by cases q)), (List.forall_mem_cons.mpr ⟨(.inl (fun z q => by cases q)), (List.forall_mem_cons.mpr ⟨(.inl (fun z q => by cases q)), (List.forall_mem_cons.mpr ⟨(.inl (fun z q => by cases q)), (List.forall_mem_cons.mpr ⟨(.inl (fun z q => by cases q)), (List.forall_mem_cons.mpr ⟨(.inl (fun z q => by cases q)), (List.forall_mem_cons.mpr ⟨(.inl (fun z q => by cases q)), (List.forall_mem_cons.mpr ⟨(.inr (neN (by omega))), (List.forall_mem_cons.mpr ⟨(.inr (neN (by omega))), (List.forall_mem_cons.mpr ⟨(.inr (neN (by omega))), (List.forall_mem_cons.mpr ⟨(.inr (neN (by omega))), (List.forall_mem_cons.mpr ⟨(.inr (neN (by omega))), (fun _ hp => nomatch hp)⟩)⟩)⟩)⟩)⟩)⟩)⟩)⟩)⟩)⟩)⟩)⟩)⟩)⟩)⟩)
    refine lchain rfl (seg12 (x := x) (x' := x') (LH.mk B F12 X M12 T) (by refine' PtIn.mk ?p1 ?p2 ?p3; (case p1 => kct_strs); (case p2 => kct_strs); (case p3 => kct_strs)) (by refine' PtIn.mk ?p1 ?p2 ?p3; (case p1 => kct_strs); (case p2 => kct_strs); (case p3 => kct_strs)) (by with_unfolding_all rfl) (by with_unfolding_all rfl) (by kct_strs) (by kct_strs) (by kct_strs) d2 d3 d4 (by kct_strs) (by kct_strs) A1' A2' A3' B1' B2' B3' ⟨by omega, by omega⟩ rfl h5 q5 hE z1 z2 (fun m13 z13 p5 g13 k13 F13 N13 d5 => ?_))
    show wpAny _ _ (execs (lawRest 13) _) _ _ { s with heap := g13, toks := k13 }
    have M13 : News h₀ L g13 [(st, stObj sl (6 + 1) t5), (sl, W.listOf ws.toArray 0), (L + 1 + 1 + 1 + 1 + 1, p5), (L + 1, p1), (L + 1 + 1 + 1 + 1 + 1 + 1, o6), (L + 1 + 1 + 1 + 1, p4), (L + 1 + 1 + 1, p3), (L + 1 + 1, p2)] := (by first | (with_reducible assumption) | (refine' n_sub ?cbN ?cbS; (case cbN => assumption); (case cbS => ((repeat ((with_reducible refine' sub_cons ?cbM ?_); (case cbM => kct_strs))); first | (with_reducible exact sub_nil) | ((repeat (first | (with_reducible exact fun _ hp => hp) | (refine sub_skip ?_))); done)))) | k_asm)
    clear q5 M12 F6 N6 F7 N7 F8 N8 F9 N9 F10 N10 F11 N11 F12 N12 N13
    have q1 : ∀ p ∈ [(L + 1 + 1 + 1 + 1 + 1 + 1, o6), (L + 1 + 1 + 1 + 1, p4), (L + 1 + 1 + 1, p3), (L + 1 + 1, p2)], p.1 ≠ st := all_st M13 (List.mem_cons_self ..) (by first | (with_reducible exact sub_nil) | ((repeat ((with_reducible refine' sub_cons ?cbM ?_); (case cbM => kct_strs))); exact sub_nil)) (List.forall_mem_cons.mpr ⟨(by rw [h6]; intro q; cases q), (List.forall_mem_cons.mpr ⟨(by rw [d4]; intro q; cases q), (List.forall_mem_cons.mpr ⟨(by rw [d3]; intro q; cases q), (List.forall_mem_cons.mpr ⟨(by rw [d2]; intro q; cases q), (fun _ hp => nomatch hp)⟩)⟩)⟩)⟩)
    have q2 : ∀ p ∈ [(L + 1 + 1 + 1 + 1 + 1 + 1, o6), (L + 1 + 1 + 1 + 1, p4), (L + 1 + 1 + 1, p3), (L + 1 + 1, p2)], p.1 ≠ L + 1 + 1 + 1 + 1 + 1 := (List.forall_mem_cons.mpr ⟨neN (by omega), (List.forall_mem_cons.mpr ⟨neN (by omega), (List.forall_mem_cons.mpr ⟨neN (by omega), (List.forall_mem_cons.mpr ⟨neN (by omega), (fun _ hp => nomatch hp)⟩)⟩)⟩)⟩)
    refine lchain rfl (seg13 (tz := 0) (LH.mk B F13 X M13 T) hI hl (by decide) d1 d5 hne q1 q2 (fun f tf t6 p5 g14 k14 F14 N14 d5 f0 f6 => ?_))
    show wpAny _ _ (execs (lawRest 14) _) _ _ { s with heap := g14, toks := k14 }
    refine lchain rfl (seg14 (LH.mk B F14 X N14 T) (fun tz g15 k15 F15 N15 => ?_))
    show wpAny _ _ (execs (lawRest 15) _) _ _ { s with heap := g15, toks := k15 }
    have M15 : News h₀ L g15 [(st, stObj sl (6 + 1 + 1) t6), (sl, W.listOf ws.toArray 0), (L + 1 + 1 + 1 + 1 + 1 + 1, o6), (L + 1, p1), (L + 1 + 1 + 1 + 1 + 1, p5), (L + 1 + 1 + 1 + 1, p4), (L + 1 + 1 + 1, p3), (L + 1 + 1, p2)] := (by first | (with_reducible assumption) | (refine' n_sub ?cbN ?cbS; (case cbN => assumption); (case cbS => ((repeat ((with_reducible refine' sub_cons ?cbM ?_); (case cbM => kct_strs))); first | (with_reducible exact sub_nil) | ((repeat (first | (with_reducible exact fun _ hp => hp) | (refine sub_skip ?_))); done)))) | k_asm)
    have q3 : ∀ p ∈ [(L + 1 + 1 + 1 + 1 + 1, p5), (L + 1 + 1 + 1 + 1, p4), (L + 1 + 1 + 1, p3), (L + 1 + 1, p2)], p.1 ≠ st := all_st M15 (List.mem_cons_self ..) (by first | (with_reducible exact sub_nil) | ((repeat ((with_reducible refine' sub_cons ?cbM ?_); (case cbM => kct_strs))); exact sub_nil)) (List.forall_mem_cons.mpr ⟨(by rw [d5]; intro q; cases q), (List.forall_mem_cons.mpr ⟨(by rw [d4]; intro q; cases q), (List.forall_mem_cons.mpr ⟨(by rw [d3]; intro q; cases q), (List.forall_mem_cons.mpr ⟨(by rw [d2]; intro q; cases q), (fun _ hp => nomatch hp)⟩)⟩)⟩)⟩)
    have q4 : ∀ p ∈ [(L + 1 + 1 + 1 + 1 + 1, p5), (L + 1 + 1 + 1 + 1, p4), (L + 1 + 1 + 1, p3), (L + 1 + 1, p2)], p.1 ≠ L + 1 + 1 + 1 + 1 + 1 + 1 := (List.forall_mem_cons.mpr ⟨neN (by omega), (List.forall_mem_cons.mpr ⟨neN (by omega), (List.forall_mem_cons.mpr ⟨neN (by omega), (List.forall_mem_cons.mpr ⟨neN (by omega), (fun _ hp => nomatch hp)⟩)⟩)⟩)⟩)
    refine lchain rfl (seg15 (LH.mk B F15 X M15 T) hI hl (by decide) d1 h6 (by with_unfolding_all rfl) hne q3 q4 (fun i ti t7 p6 g16 k16 F16 N16 d6 i0 i1 => ?_))
    show wpAny _ _ (execs (lawRest 16) _) _ _ { s with heap := g16, toks := k16 }
    have M16 : News h₀ L g16 [(st, stObj sl (6 + 1 + 1 + 1 + 1) t7), (sl, W.listOf ws.toArray 0), (L + 1, p1), (L + 1 + 1 + 1 + 1 + 1 + 1, p6), (L + 1 + 1 + 1 + 1 + 1, p5), (L + 1 + 1 + 1 + 1, p4), (L + 1 + 1 + 1, p3), (L + 1 + 1, p2)] := (by first | (with_reducible assumption) | (refine' n_sub ?cbN ?cbS; (case cbN => assumption); (case cbS => ((repeat ((with_reducible refine' sub_cons ?cbM ?_); (case cbM => kct_strs))); first | (with_reducible exact sub_nil) | ((repeat (first | (with_reducible exact fun _ hp => hp) | (refine sub_skip ?_))); done)))) | k_asm)
    have q5 : ∀ p ∈ [(L + 1 + 1 + 1 + 1 + 1 + 1, p6), (L + 1 + 1 + 1 + 1 + 1, p5), (L + 1 + 1 + 1 + 1, p4), (L + 1 + 1 + 1, p3), (L + 1 + 1, p2)], p.1 ≠ st := all_st M16 (List.mem_cons_self ..) (by first | (with_reducible exact sub_nil) | ((repeat ((with_reducible refine' sub_cons ?cbM ?_); (case cbM => kct_strs))); exact sub_nil)) (List.forall_mem_cons.mpr ⟨(by rw [d6]; intro q; cases q), (List.forall_mem_cons.mpr ⟨(by rw [d5]; intro q; cases q), (List.forall_mem_cons.mpr ⟨(by rw [d4]; intro q; cases q), (List.forall_mem_cons.mpr ⟨(by rw [d3]; intro q; cases q), (List.forall_mem_cons.mpr ⟨(by rw [d2]; intro q; cases q), (fun _ hp => nomatch hp)⟩)⟩)⟩)⟩)⟩)
    refine lchain rfl (seg16 (oc := o1) (y := none) (LH.mk B F16 X M16 T) hI hl (by decide) d1 (by with_unfolding_all rfl) hne q5 (fun j tj t8 g17 k17 F17 N17 j0' j1' => ?_))
    show wpAny _ _ (execs (lawRest 17) _) _ _ { s with heap := g17, toks := k17 }
    refine lchain rfl (seg17 (LH.mk B F17 X N17 T) (by kct_strs) (by kct_strs) d5 d6 (by with_unfolding_all rfl) (by with_unfolding_all rfl) ⟨f0, f6⟩ ⟨i0, i1⟩ ⟨j0', j1'⟩ (fun y0 dy0 ty0 l0 l1 l2 l3 g18 k18 F18 N18 => ?_))
    show wpAny _ _ (execs (lawRest 18) _) _ _ { s with heap := g18, toks := k18 }
    obtain ⟨e1, e2, e3⟩ := laid_sees ⟨f0, f6⟩ ⟨i0, i1⟩ ⟨j0', j1'⟩
    refine lchain rfl (seg18 (y := y0) (LH.mk B F18 X N18 T) (by kct_strs) (by kct_strs) d5 d6 (by with_unfolding_all rfl) (by with_unfolding_all rfl) ⟨f0, f6⟩ ⟨i0, i1⟩ ⟨j0', j1'⟩ (by refine' PtIn.mk ?p1 ?p2 ?p3; (case p1 => kct_strs); (case p2 => kct_strs); (case p3 => kct_strs)) (wr_sX f0 f6 (by decide) (by omega) (by omega) (by omega) (by omega)) (wr_sY f0 f6 (by decide) (by omega) (by omega) (by omega) (by omega)) (wr_sZ f0 f6 (by decide) (by omega) (by omega) (by omega) (by omega)) (wr_nz f0 f6 (by decide)) (by with_unfolding_all rfl) e1 e2 e3 (fun g19 k19 F19 N19 => ?_))
    show wpAny _ _ (execs (lawRest 19) _) _ _ { s with heap := g19, toks := k19 }
    refine lchain rfl (seg19 (LH.mk B F19 X N19 T) (by kct_strs) (by kct_strs) d5 d6 (by with_unfolding_all rfl) (by with_unfolding_all rfl) ⟨f0, f6⟩ ⟨i0, i1⟩ ⟨j0', j1'⟩ (fun g20 k20 F20 N20 => ?_))
    show wpAny _ _ (execs (lawRest 20) _) _ _ { s with heap := g20, toks := k20 }
    have M20 : News h₀ L g20 [(st, stObj sl (6 + 1 + 1 + 1 + 1 + 1) t8), (sl, W.listOf ws.toArray 0), (L + 1, p1), (L + 1 + 1 + 1 + 1 + 1 + 1, p6), (L + 1 + 1 + 1 + 1 + 1, p5), (L + 1 + 1 + 1 + 1, p4), (L + 1 + 1 + 1, p3), (L + 1 + 1, p2)] := (by first | (with_reducible assumption) | (refine' n_sub ?cbN ?cbS; (case cbN => assumption); (case cbS => ((repeat ((with_reducible refine' sub_cons ?cbM ?_); (case cbM => kct_strs))); first | (with_reducible exact sub_nil) | ((repeat (first | (with_reducible exact fun _ hp => hp) | (refine sub_skip ?_))); done)))) | k_asm)
    have q6 : ∀ p ∈ [(L + 1 + 1 + 1 + 1 + 1 + 1, p6), (L + 1 + 1 + 1 + 1 + 1, p5), (L + 1 + 1 + 1 + 1, p4), (L + 1 + 1 + 1, p3), (L + 1 + 1, p2)], p.1 ≠ st := all_st M20 (List.mem_cons_self ..) (by first | (with_reducible exact sub_nil) | ((repeat ((with_reducible refine' sub_cons ?cbM ?_); (case cbM => kct_strs))); exact sub_nil)) (List.forall_mem_cons.mpr ⟨(by rw [d6]; intro q; cases q), (List.forall_mem_cons.mpr ⟨(by rw [d5]; intro q; cases q), (List.forall_mem_cons.mpr ⟨(by rw [d4]; intro q; cases q), (List.forall_mem_cons.mpr ⟨(by rw [d3]; intro q; cases q), (List.forall_mem_cons.mpr ⟨(by rw [d2]; intro q; cases q), (fun _ hp => nomatch hp)⟩)⟩)⟩)⟩)⟩)
    refine lchain rfl (seg20 (oc := o1) (y := none) (tz := 0) (LH.mk B F20 X M20 T) hI hl (by decide) d1 hne q6 (fun g tg t9 g21 k21 F21 N21 c0 c1 => ?_))
    show wpAny _ _ (execs (lawRest 21) _) _ _ { s with heap := g21, toks := k21 }
    refine lchain rfl (seg21 (LH.mk B F21 X N21 T) hE (by kct_strs) d5 (by with_unfolding_all rfl) (by with_unfolding_all rfl) (by with_unfolding_all rfl) ⟨f0, f6⟩ ⟨c0, c1⟩ (fun m22 g22 k22 F22 N22 s1 s2 => ?_))
    show wpAny _ _ (execs (lawRest 22) _) _ _ { s with heap := g22, toks := k22 }
    exact lchain rfl (seg22 (LH.mk B F22 X N22 T) (by kct_strs) (by kct_strs) d5 d6 (s1.trans (by with_unfolding_all rfl)) (s2.trans (by with_unfolding_all rfl)) ⟨f0, f6⟩ ⟨c0, c1⟩ (fun g23 k23 F23 => ret _ _ _ F23))
end
end Mine
theorem PySem.Challenge.cw_fb0050_01_holds : PySem.Challenge.rw_fb0050_01.Holds :=
  Mine.hd (by
  w_strict (k_go0; (all_goals try k_fold))
  refine' Mine.law_all (Mine.LH.mk ?B ?F ?X ?N ?T) ?hE ?hm ?hL ?hX ?hx ?h1 ?h2 ?h3 ?h4 ?h5 ?h6 ?ret
  case B => with_reducible assumption
  case X => with_reducible assumption
  case T => with_reducible assumption
  case F => with_reducible assumption
  case N => with_reducible assumption
  case hL => with_reducible assumption
  case hX => with_reducible assumption
  case hx => with_reducible assumption
  case h1 => with_reducible assumption
  case h2 => with_reducible assumption
  case h3 => with_reducible assumption
  case h4 => with_reducible assumption
  case h5 => with_reducible assumption
  case h6 => with_reducible assumption
  case hm => with_unfolding_all rfl
  case hE => with_unfolding_all passes_own
  case ret =>
    intro m' h' tk' F'
    k_steps)
