import PyProof.Rows.All
import Wide.All
import OpenK.AllK
import Wide.FinOn
import Lean
import PySem.Challenge.RW_to0028_01
open PySem PySem.W PySem.Calls PyProof.Rows PySem.Spec
set_option Elab.async false
set_option linter.unusedVariables false
set_option maxRecDepth 100000
namespace Mine
def idleNames : List Str := ["_law_cells", "_law_words", "_law_lexer", "_law_page", "_law_in_order", "_law_turns", "_law_lean", "ISEOF"]
def idle : List Stmt := .Return (some (.Constant (.bool true) 0 ⟨1, 0, 1, 0⟩)) ⟨1, 0, 1, 0⟩ :: .Expr (.ListComp (.Name "k" ⟨1, 0, 1, 0⟩) [⟨.Name "k" ⟨1, 0, 1, 0⟩, .Name "script" ⟨1, 0, 1, 0⟩, [], 0⟩] { kind := .function, names := [(".0", .local), ("k", .local)], isGenerator := false, isCoroutine := false, more := [] } ⟨1, 0, 1, 0⟩) ⟨1, 0, 1, 0⟩ :: idleNames.map fun n => .Expr (.Name n ⟨1, 0, 1, 0⟩) ⟨1, 0, 1, 0⟩
def idleScope : Scope := { kind := .function, names := ("script", .local) :: idleNames.map fun n => (n, .globalImplicit), isGenerator := false, isCoroutine := false, more := [("fast", .str "script"), ("fast", .str "k")] }
def relaw : Stmt → Stmt
  | .FunctionDef n a _ d r t _ ts bi p => .FunctionDef n a idle d r t idleScope ts bi p
  | s => s
def relawAll : List Stmt → List Stmt
  | [] => []
  | [x] => [relaw x]
  | x :: y :: r => x :: relawAll (y :: r)
def pw2 : Program := { PySem.Challenge.pw_to0028_01 with main := { PySem.Challenge.pw_to0028_01.main with body := relawAll PySem.Challenge.pw_to0028_01.main.body } }
def rowA : OpenRow where
  prog := pw2
  name := Str.ofString "law"
  records := []
  args := [.list .int]
  returns := .bool
  pre := .lit (.bool true)
  post := .eq .res (.lit (.bool true))
  raises := []
  mutates := []
  within := []
  unshared := true
  same := none
  under := ⟨true, true, true⟩
  after := ⟨true, true, true⟩
  apart := false
  loose := []
  pinned := true
  writes := false
theorem A.tw2846676160279990293 : True := trivial
theorem A.tw1271620941395032083 : True := trivial
theorem A.tw16232886829996991213 : True := trivial
theorem A.tw17172642111217200383 : True := trivial
theorem A.tw5846995185699066000 : True := trivial
theorem A.tw1728546883027405083 : True := trivial
theorem A.tw1074485552284268750 : True := trivial
theorem A.tw13358197449699821863 : True := trivial
theorem A.tw5607075626853525049 : True := trivial
theorem A.tw12232579637511440035 : True := trivial
theorem A.tw11548965140843021987 : True := trivial
theorem A.tw6426530911337749557 : True := trivial
theorem A.tw17989046979602641947 : True := trivial
theorem A.tw6448185719210057764 : True := trivial
theorem A.tw4940322364659085442 : True := trivial
theorem A.tw16184407018313707753 : True := trivial
theorem A.tw2498218675769655482 : True := trivial
theorem A.tw61839536151024099 : True := trivial
theorem A.tw1361306858035863103 : True := trivial
theorem A.tw9661235906119300052 : True := trivial
theorem A.tw9560409869730330506 : True := trivial
theorem A.tw9387637107894843904 : True := trivial
theorem A.tw6200677353980987283 : True := trivial
theorem A.tw15766315853903485041 : True := trivial
theorem A.tw9728843627108605995 : True := trivial
theorem A.tw5456437162019150279 : True := trivial
theorem A.tw14648774865780649529 : True := trivial
theorem A.tw8174073653292924972 : True := trivial
theorem A.tw7875639981601895420 : True := trivial
theorem A.tw10054515746485545695 : True := trivial
theorem A.tw2157620221401762600 : True := trivial
theorem A.tw6833889667460942794 : True := trivial
theorem A.tw7688420935808335144 : True := trivial
theorem A.tw15859110339368393972 : True := trivial
theorem A.tw5430885941732736015 : True := trivial
theorem A.tw13145145212665056364 : True := trivial
theorem A.tw4314649323627783284 : True := trivial
theorem A.tw6451249835200843491 : True := trivial
theorem A.tw11000814773589610604 : True := trivial
theorem A.tw4116503136734314869 : True := trivial
theorem A.tw3276922788982941814 : True := trivial
theorem A.tw8470089090482493528 : True := trivial
theorem A.tw16627337840181207693 : True := trivial
theorem A.tw9728050766246559140 : True := trivial
theorem A.tw362673281515053572 : True := trivial
theorem A.tw12515175319257026601 : True := trivial
theorem A.tw11954576275216591812 : True := trivial
theorem A.tw2812143952110511617 : True := trivial
theorem A.tw11243315551754283482 : True := trivial
theorem A.tw15824228466421876341 : True := trivial
theorem A.tw15816380148411946450 : True := trivial
theorem A.tw892802988501306937 : True := trivial
theorem A.tw10143906435514477877 : True := trivial
theorem A.tw1540728905782975835 : True := trivial
theorem A.tw10121268718762244251 : True := trivial
theorem A.tw16028929044088068608 : True := trivial
theorem A.tw6915488941031669350 : True := trivial
theorem A.tw12660383607909971686 : True := trivial
theorem A.tw11451868774279058396 : True := trivial
theorem A.tw15271744827103933961 : True := trivial
theorem A.tw955675337573765502 : True := trivial
theorem A.tw3001089778539913221 : True := trivial
theorem A.tw41467161542082443 : True := trivial
theorem A.tw14741808364667031746 : True := trivial
theorem A.tw14587266454993869904 : True := trivial
theorem A.tw10245303434262036961 : True := trivial
theorem A.tw3034898434740506213 : True := trivial
theorem A.tw12966225125333578685 : True := trivial
theorem A.tw10423431125507314237 : True := trivial
theorem A.tw14154834401945157658 : True := trivial
theorem A.tw1524894922436691342 : True := trivial
theorem A.tw3496910472282926470 : True := trivial
theorem A.tw13199635016944625830 : True := trivial
theorem A.tw15198033181134836251 : True := trivial
theorem A.tw7470356233574840709 : True := trivial
theorem A.tw8438803931043949994 : True := trivial
theorem A.tw16853338072351604013 : True := trivial
theorem A.tw18051310636968012894 : True := trivial
theorem A.tw8110313385410489805 : True := trivial
theorem A.tw16791639729399313340 : True := trivial
theorem A.tw15385401399047453376 : True := trivial
theorem A.tw11189993024330764420 : True := trivial
theorem A.tw14297975816295608904 : True := trivial
theorem A.tw11091090640047338270 : True := trivial
theorem A.tw9847416591663892895 : True := trivial
theorem A.tw15703972413860346071 : True := trivial
theorem A.tw332227564094166473 : True := trivial
theorem A.tw11620799824626790962 : True := trivial
theorem A.tw17569634937663481904 : True := trivial
theorem A.tw2704465089706716795 : True := trivial
theorem A.tw8716643865611562333 : True := trivial
theorem A.tw17689741333037649154 : True := trivial
theorem A.tw5356475710577156502 : True := trivial
theorem A.tw8646063402999336248 : True := trivial
theorem A.tw5689090180934743757 : True := trivial
theorem A.tw7894559999750541928 : True := trivial
theorem A.tw8011758544249754476 : True := trivial
theorem A.tw15468262354137865760 : True := trivial
theorem A.tw1212332548137469035 : True := trivial
theorem A.tw16336894991605288781 : True := trivial
theorem A.tw16699466732263725155 : True := trivial
theorem A.tw10635995277014176919 : True := trivial
theorem A.tw4601982294008917340 : True := trivial
theorem A.tw7410570936850781706 : True := trivial
theorem A.tw11785866793061704493 : True := trivial
theorem A.tw11840606308053180062 : True := trivial
theorem A.tw17667550498335845318 : True := trivial
theorem A.tw5661825063382291371 : True := trivial
theorem A.tw2691987867316795052 : True := trivial
theorem A.tw9413826230654061214 : True := trivial
theorem A.tw17911074745416569749 : True := trivial
theorem A.tw13119966771756833410 : True := trivial
theorem A.tw463229727475673333 : True := trivial
theorem A.tw9101408569906711250 : True := trivial
theorem A.tw2867448953391578550 : True := trivial
theorem A.tw2096321079000042813 : True := trivial
theorem A.tw8622490268207807038 : True := trivial
theorem A.tw16317913100492750360 : True := trivial
theorem A.tw6075370937233167855 : True := trivial
theorem A.tw10503707035933223420 : True := trivial
theorem A.tw2449879410587351638 : True := trivial
theorem A.tw7555788288500834546 : True := trivial
theorem A.tw7310812546601123882 : True := trivial
theorem A.tw17623182121723998141 : True := trivial
theorem A.tw6081536174910290610 : True := trivial
theorem A.tw6352638602532022311 : True := trivial
theorem A.tw4476387939949685900 : True := trivial
theorem A.tw16515436210137474786 : True := trivial
theorem A.tw904050510047792493 : True := trivial
theorem A.tw10682391518117280861 : True := trivial
theorem A.tw15842805041320169664 : True := trivial
theorem A.tw13634319274872625274 : True := trivial
theorem A.tw14377057085987246269 : True := trivial
theorem A.tw8442281297758624122 : True := trivial
theorem A.tw8437942734809108490 : True := trivial
theorem A.tw16737173053404651633 : True := trivial
theorem A.tw18339277285193782257 : True := trivial
theorem A.tw14074640794080373042 : True := trivial
theorem A.tw234686851760641208 : True := trivial
theorem A.tw4708313201835116548 : True := trivial
theorem A.tw15448522643604768557 : True := trivial
theorem A.tw1515702419191719287 : True := trivial
theorem A.tw7463546493769976280 : True := trivial
theorem A.tw6425424261723971657 : True := trivial
theorem A.tw4912160966946978341 : True := trivial
theorem A.tw1142968676399843502 : True := trivial
theorem A.tw11826616398018015068 : True := trivial
theorem A.tw6049922238052415736 : True := trivial
theorem A.tw6523556825968555358 : True := trivial
theorem A.tw18183205604984737192 : True := trivial
theorem A.tw2465942169673981148 : True := trivial
theorem A.tw1683608423951821142 : True := trivial
theorem A.tw12989911310890110614 : True := trivial
theorem A.tw7209187667494810462 : True := trivial
theorem A.tw8827216752121748883 : True := trivial
theorem A.tw10560450822253899665 : True := trivial
theorem A.tw15765399734766458052 : True := trivial
theorem A.tw4813540811399121240 : True := trivial
theorem A.tw1905150852539503985 : True := trivial
theorem A.tw16968332620267311704 : True := trivial
set_option maxRecDepth 100000 in
set_option maxHeartbeats 8000000 in
set_option Elab.async true in
theorem A : rowA.Holds := by
  open_k
set_option maxRecDepth 100000 in
/-- the written part that the contracts lean on: all but the idle law itself -/
noncomputable def Kc (P : Params) : Frag := (fun (K : Frag) {z : Addr × Obj} (_ : A.heap_1_1 P = K ++ [z]) => K) (_ :: _ :: _ :: _ :: _ :: _ :: _ :: _ :: _ :: _ :: _ :: _ :: _ :: _ :: _ :: _ :: _ :: _ :: _ :: _ :: _ :: _ :: _ :: _ :: _ :: _ :: _ :: _ :: _ :: _ :: _ :: _ :: _ :: _ :: _ :: _ :: _ :: _ :: _ :: _ :: _ :: _ :: _ :: _ :: _ :: _ :: _ :: _ :: _ :: _ :: _ :: _ :: _ :: _ :: _ :: _ :: _ :: _ :: _ :: _ :: _ :: _ :: _ :: _ :: _ :: _ :: _ :: _ :: _ :: _ :: _ :: _ :: _ :: _ :: _ :: _ :: _ :: _ :: _ :: _ :: _ :: _ :: _ :: _ :: _ :: _ :: _ :: _ :: _ :: _ :: _ :: _ :: _ :: _ :: _ :: _ :: _ :: _ :: _ :: _ :: []) rfl
theorem kc_eq (P : Params) : Kc P = (A.heap_1_1 P).dropLast := rfl
/-! small answers ahead of omega -/
theorem om1 {n a b L : Nat} (h : n + b < L) (e : a ≤ b) : n + a < L := Nat.lt_of_le_of_lt (Nat.add_le_add_left e n) h
theorem om2 {n i j b L : Nat} (h : n + b < L) (e : i + j ≤ b) : n + i + j < L := by rw [Nat.add_assoc]; exact om1 h e
theorem om0 {n b : Nat} (h : n + b < recursionLimit) : n < recursionLimit := om1 (a := 0) h (Nat.zero_le _)
theorem omN {n a L : Nat} (h : n < a) (e : a ≤ L) : n < L := Nat.lt_of_lt_of_le h e
theorem omM {n a L : Nat} (h : n < a) (e : a ≤ L + 1) : n ≤ L := Nat.le_of_lt_succ (Nat.lt_of_lt_of_le h e)
theorem omL {n a L : Nat} (h : n ≤ a) (e : a ≤ L) : n ≤ L := Nat.le_trans h e
theorem omS {n a L : Nat} (h : n ≤ a) (e : a < L) : n < L := Nat.lt_of_le_of_lt h e
theorem omI {n a : Nat} {L : Int} (h : n < a) (e : (a : Int) ≤ L) : (n : Int) < L := Int.lt_of_lt_of_le (Int.ofNat_lt.mpr h) e
theorem omJ {n a : Nat} {L : Int} (h : n ≤ a) (e : (a : Int) < L) : (n : Int) < L := Int.lt_of_le_of_lt (Int.ofNat_le.mpr h) e
theorem omP {n a : Nat} {L : Int} (h : n < a) (e : (a : Int) ≤ L) : 0 + (n : Int) < L := by rw [Int.zero_add]; exact omI h e
theorem omK {n : Nat} {L : Int} (e : L ≤ 0) : L ≤ (n : Int) := Int.le_trans e (Int.natCast_nonneg n)
theorem omQ {n : Nat} : 0 ≤ 0 + (n : Int) := by rw [Int.zero_add]; exact Int.natCast_nonneg n
theorem omC {n a : Nat} (h : n < a) : (n : Int) < (a : Int) := Int.ofNat_lt.mpr h
theorem omE {x : Int} {n b : Nat} (e : n = b) (h : x < (b : Int)) : x < (n : Int) := e ▸ h
theorem omB {i n b : Nat} (e : n = b) (h : i < b) : (i : Int) < (n : Int) := e ▸ omC h
theorem omD {i n b : Nat} (e : n = b) (h : i < b) : 0 + (i : Int) < (n : Int) := by rw [Int.zero_add]; exact omB e h
theorem omF {x c : Int} {n b : Nat} {P : Prop} (e : n = b) (h : P ∧ x < c) (k : c ≤ (b : Int)) : x < (n : Int) := e ▸ Int.lt_of_lt_of_le h.2 k
theorem omZ {n : Int} {P : Prop} (h : 0 ≤ n ∧ P) : 0 ≤ n := h.1
theorem omY {n a L : Int} {P : Prop} (h : P ∧ n < a) (e : a ≤ L) : n < L := Int.lt_of_lt_of_le h.2 e
/-- a value that breaks P, if any does -/
theorem drink {α : Type} (ne : Nonempty α) (P : α → Prop) : Nonempty {v : α // P v → ∀ u, P u} := by
  obtain ⟨a⟩ := ne
  by_cases h : ∃ v, ¬ P v
  · obtain ⟨v, hv⟩ := h
    exact ⟨⟨v, fun p => absurd p hv⟩⟩
  · exact ⟨⟨a, fun _ u => Classical.byContradiction fun hu => h ⟨u, hu⟩⟩⟩
theorem ltOf {n : List (Addr × Obj)} {D a : Addr} {o : Obj} (h : ∀ p ∈ n, p.1 < D) (hm : (a, o) ∈ n) : @LT.lt Nat _ a D := h _ hm
theorem neL {n : List (Addr × Obj)} {D a : Addr} {o : Obj} (h : ∀ p ∈ n, p.1 < D) (hm : (a, o) ∈ n) : a ≠ D := Nat.ne_of_lt (h _ hm)
theorem neG {n : List (Addr × Obj)} {D a : Addr} {o : Obj} (h : ∀ p ∈ n, p.1 < D) (hm : (a, o) ∈ n) : D ≠ a := Nat.ne_of_gt (h _ hm)
theorem eight {a : Int} (h1 : 1 ≤ a) (h8 : a ≤ 8) : a = 1 ∨ a = 2 ∨ a = 3 ∨ a = 4 ∨ a = 5 ∨ a = 6 ∨ a = 7 ∨ a = 8 := by omega
theorem up900 {x y : Int} {i : Nat} (h : 0 ≤ y ∧ y ≤ 8 + 900 * (i : Int)) (k : 0 ≤ x ∧ x < 900) : 0 ≤ y + x ∧ y + x ≤ 8 + 900 * ((i + 1 : Nat) : Int) := by omega
theorem up900' {y : Int} {i : Nat} (h : 0 ≤ y ∧ y ≤ 8 + 900 * (i : Int)) : 0 ≤ y ∧ y ≤ 8 + 900 * ((i + 1 : Nat) : Int) := by omega
theorem up900z {y : Int} {k n : Nat} (h : y ≤ 8 + 900 * (k : Int)) (e : k = min 20 n) : y ≤ 20000 := by omega
theorem up4 {a b i : Nat} (h : a ≤ b + 4) (k : b ≤ 4 * i) : a ≤ 4 * (i + 1) := Nat.le_trans h (Nat.add_le_add_right k 4)
local macro_rules | `(tactic| tlg_ne) => `(tactic| all_goals first | assumption | decide)
local macro_rules | `(tactic| omega) => `(tactic| with_reducible first | decide | (apply om2; tlg_ne) | (apply om1; tlg_ne) | (apply om0; tlg_ne))
local macro_rules | `(tactic| kqd_in) => `(tactic| with_reducible ((repeat (first | assumption | exact Nat.lt_add_one _ | (apply Nat.lt_trans; assumption))); done))
local macro_rules | `(tactic| kqd_sub) => `(tactic| ((try dsimp only); first | with_reducible assumption | (refine' ltOf ?h ?m; (case h => with_reducible assumption); (case m => k_mem)) | (refine' neL ?h ?m; (case h => with_reducible assumption); (case m => k_mem)) | (refine' neG ?h ?m; (case h => with_reducible assumption); (case m => k_mem)) | kqd_in | (apply Nat.ne_of_lt; kqd_in) | (apply Nat.ne_of_gt; kqd_in) | omega))
/-- what is kept -/
abbrev Kp (h h' : Heap) : Prop := ∀ b o, h.get? b = some o → h'.get? b = some o
theorem Kp.refl (h : Heap) : Kp h h := fun _ _ e => e
theorem Kp.trans {a b c : Heap} (x : Kp a b) (y : Kp b c) : Kp a c := fun p o e => y p o (x p o e)

/-- a source that a loop draws from: a target bound turn by turn -/
structure Dr (prog : Program) (w : World) (A : Around) (env : Env) (target : Expr) (it : Value) (fp wr : List Addr) (n : Nat)
    (B : Nat → (Str → Option Value) → (Str → Option Value) → Prop) (St : Nat → Heap → Prop) : Prop where
  sub : ∀ b ∈ wr, b ∈ fp
  frame : ∀ i h h', St i h → (∀ b ∈ fp, ∀ o, h.get? b = some o → h'.get? b = some o) → St i h'
  item : ∀ i (s : Shared) m (Q : Unit → Shared → Prop) (E : Value → Shared → Prop), i < n → St i s.heap → s.heap.Ns env.locals m → env.locals ∉ fp →
    (∀ h' tk m', B i m m' → h'.Ns env.locals m' → St (i + 1) h' → (∀ b o, b ∉ wr → b ≠ env.locals → s.heap.get? b = some o → h'.get? b = some o) → Q () { s with heap := h', toks := tk }) →
    wpAny (model prog w) A (pyNext it) (fun r s₁ => ∃ v, r = some v ∧ wpAny (model prog w) A (letOwnedTupleGo target it v) (fun _ s₂ => wpAny (model prog w) A (assign target env v) Q E s₂) E s₁) E s
  done : ∀ (s : Shared) (Q : Shared → Prop) (E : Value → Shared → Prop), St n s.heap →
    (∀ h' tk, (∀ b o, b ∉ wr → s.heap.get? b = some o → h'.get? b = some o) → Q { s with heap := h', toks := tk }) → wpAny (model prog w) A (pyNext it) (fun r s₁ => r = none ∧ Q s₁) E s
  self : ∀ i (s : Shared) (Q : Value → Shared → Prop) (E : Value → Shared → Prop), St i s.heap → Q it s → wpAny (model prog w) A (pyIter it) Q E s

section
variable {prog : Program} {w : World} {A : Around} {env : Env}

theorem Dr.ofWalks {x : Str} {px : Pos} {I : Addr} {fp wr : List Addr} {n : Nat} {P : Nat → Value → Prop} {St : Nat → Heap → Prop} (W : Walks prog w A I fp wr n P St)
    (hx : env.kindOf x = some .local) (hp : (env.scope.kind == .class || (env.scope.kind == .module && env.locals != env.globals)) = false) :
    Dr prog w A env (.Name x px) (.ref I) fp wr n (fun i m m' => ∃ v, P i v ∧ m' = fun y => if y = x then some v else m y) St where
  sub := W.sub
  frame := W.frame
  item := fun i s m Q E hi hst hn hL hQ => by
    refine W.item i s _ _ hi hst fun v h₁ tk₁ hP hst₁ hk₁ => ⟨v, rfl, ?_⟩
    have hn₁ := hn.at' fun o e => hk₁ _ o (fun h => hL (W.sub _ h)) e
    refine wpAny_pure (wpAny_assign_Name (wpAny_storeName_local hx hn₁ (fun h₂ hn₂ hs₂ => ?_) hp))
    refine hQ h₂ _ _ ⟨v, hP, rfl⟩ hn₂ (W.frame _ _ _ hst₁ fun b hb o e => hs₂.extBut b o (fun q => hL (q ▸ hb)) e) fun b o hb hbL e => hs₂.extBut b o hbL (hk₁ b o hb e)
  done := fun s Q E hst hQ => W.done s _ _ hst fun h' tk hk => ⟨rfl, hQ h' tk hk⟩
  self := fun i s Q E hst hQ => W.self i s Q E hst hQ

theorem Dr.ofWalksT {x y : Str} {px py pt : Pos} {k : Nat} {I : Addr} {fp wr : List Addr} {n : Nat} {Pt : Nat → Array Value → Prop} {St : Nat → Heap → Prop} {Mid : Nat → Addr → Heap → Prop}
    (hh : A.handled = none) (W : WalksT prog w A I fp wr n Pt St Mid) {P2 : Nat → Value → Value → Prop} (h2 : ∀ i vals, Pt i vals → ∃ v0 v1, vals = #[v0, v1] ∧ P2 i v0 v1)
    (hx : env.kindOf x = some .local) (hy : env.kindOf y = some .local) (hp : (env.scope.kind == .class || (env.scope.kind == .module && env.locals != env.globals)) = false) :
    Dr prog w A env (.Tuple [.Name x px, .Name y py] k pt) (.ref I) fp wr n (fun i m m' => ∃ v0 v1, P2 i v0 v1 ∧ m' = fun z => if z = y then some v1 else if z = x then some v0 else m z) St where
  sub := W.sub
  frame := W.frame
  item := fun i s m Q E hi hst hn hL hQ => by
    refine W.item i s _ _ hi hst fun T vals h₁ tk₁ hPt _ hT hMid hk₁ => ⟨_, rfl, ?_⟩
    obtain ⟨v0, v1, rfl, hP2⟩ := h2 i vals hPt
    have hLw : env.locals ∉ wr := fun h => hL (W.sub _ h)
    have hn₁ := hn.at' fun o e => hk₁ _ o hLw e
    refine W.go _ k pt i T _ _ _ hMid fun h₂ hst₂ hk₂ => ?_
    have ht₂ : h₂.IsTuple T #[v0, v1] := hT.at fun o e => hk₂ T o (W.apart i T h₁ hMid) e
    have hn₂ := hn₁.at' fun o e => hk₂ _ o hLw e
    refine wpAny_assign_Tuple hh ht₂ rfl rfl fun h₃ hx₃ => ?_
    replace hx₃ : Heap.ExtBut h₂.objs.size h₂ h₃ := hx₃
    have up₃ : ∀ b o, h₂.get? b = some o → h₃.get? b = some o := fun b o x => hx₃ b o (Nat.ne_of_lt (Heap.lt_size x)) x
    have hn₃ := hn₂.at' fun o e => up₃ _ o e
    show wpAny _ A (assignInOrder [assign (.Name x px) env, assign (.Name y py) env] [v0, v1]) _ _ _
    refine assignInOrder_cons (wpAny_assign_Name (wpAny_storeName_local hx hn₃ (fun h₄ hn₄ hs₄ => ?_) hp))
    refine assignInOrder_cons (wpAny_assign_Name (wpAny_storeName_local hy hn₄ (fun h₅ hn₅ hs₅ => ?_) hp))
    refine assignInOrder_nil ?_
    replace hs₄ : Heap.SameBut env.locals h₃ h₄ := hs₄
    replace hs₅ : Heap.SameBut env.locals h₄ h₅ := hs₅
    have up : ∀ b o, b ≠ env.locals → h₂.get? b = some o → h₅.get? b = some o := fun b o hb e => hs₅.extBut b o hb (hs₄.extBut b o hb (up₃ b o e))
    refine hQ h₅ _ _ ⟨v0, v1, hP2, rfl⟩ hn₅ (W.frame _ _ _ hst₂ fun b hb o e => up b o (fun q => hL (q ▸ hb)) e) fun b o hb hbL e => up b o hbL (hk₂ b o hb (hk₁ b o hb e))
  done := fun s Q E hst hQ => W.done s _ _ hst fun h' tk hk => ⟨rfl, hQ h' tk hk⟩
  self := fun i s Q E hst hQ => W.self i s Q E hst hQ
end

/-- a turn's end -/
def TEnd (h₀ : Heap) (L : Addr) (own : List (Addr × Obj)) (s₁ : Shared) (J : (Str → Option Value) → List (Addr × Obj) → Prop) (Q : Flow → Shared → Prop) (f : Flow) (s₂ : Shared) : Prop :=
  match f with
  | .ret v => Q (.ret v) s₂
  | .brk => Q .next s₂
  | _ => ∃ h' tk m₂ news₂, s₂ = { s₁ with heap := h', toks := tk } ∧ Fr h₀ L h' m₂ ∧ News h₀ L h' (news₂ ++ own) ∧ (∀ p ∈ news₂, ∀ q ∈ own, p.1 ≠ q.1) ∧ J m₂ news₂

theorem TEnd.next {h₀ h' : Heap} {L : Addr} {own all : List (Addr × Obj)} {s₁ : Shared} {tk : Nat} {m' : Str → Option Value} {J : (Str → Option Value) → List (Addr × Obj) → Prop} {Q : Flow → Shared → Prop} (F : Fr h₀ L h' m') (N : News h₀ L h' all) (news₂ : List (Addr × Obj)) (sub : ∀ p ∈ news₂ ++ own, p ∈ all)
    (sep : ∀ p ∈ news₂, ∀ q ∈ own, p.1 ≠ q.1) (j : J m' news₂) : TEnd h₀ L own s₁ J Q .next { s₁ with heap := h', toks := tk } := ⟨h', tk, m', news₂, rfl, F, fun p hp => N p (sub p hp), sep, j⟩
theorem allLt_mem {d : Addr} : ∀ {l : List (Addr × Obj)}, AllLt d l → ∀ p ∈ l, @LT.lt Nat _ p.1 d
  | [], _, _, h => nomatch h
  | _ :: _, x, p, h => by
    rcases List.mem_cons.mp h with rfl | h
    · exact x.1
    · exact allLt_mem x.2 p h

section
variable {prog : Program} {w : World} {A : Around} {env : Env} {h₀ : Heap} {s : Shared}

theorem for_code {R : Result → Shared → Prop} {target : Expr} {body : List Stmt} {it : Value} {fp wr : List Addr} {n : Nat} {B : Nat → (Str → Option Value) → (Str → Option Value) → Prop} {St : Nat → Heap → Prop}
    {m : Str → Option Value} {news src : List (Addr × Obj)} (D : Dr prog w A env target it fp wr n B St)
    (hL : env.locals ∉ fp) (hwr : ∀ b ∈ wr, h₀.get? b = none) (hlive : ∀ i h, St i h → ∀ b ∈ wr, ∃ o, h.get? b = some o) (hnw : ∀ p ∈ news, p.1 ∉ wr) (hst : St 0 s.heap)
    (hfp : ∀ b ∈ fp, b ∈ wr ∨ (∃ o, h₀.get? b = some o) ∨ (∃ o, (b, o) ∈ src))
    (F : Fr h₀ env.locals s.heap m) (N : News h₀ env.locals s.heap news) (J : Nat → (Str → Option Value) → List (Addr × Obj) → Prop) (hsrc : ∀ i m' news', J i m' news' → ∀ p ∈ src, p ∈ news') (h0 : J 0 m news)
    (turn : ∀ i m₁ m₂ news₁ h tk own, i < n → J i m₁ news₁ → B i m₁ m₂ → Fr h₀ env.locals h m₂ → News h₀ env.locals h (news₁ ++ own) → (∀ p ∈ news₁, ∀ q ∈ own, p.1 ≠ q.1) →
      wpAny (model prog w) A (execs body env) (TEnd h₀ env.locals own { s with heap := h, toks := tk } (J (i + 1)) fun f s' => R (.ok f) s') (fun _ _ => False) { s with heap := h, toks := tk })
    (done : ∀ m₁ news₁ h tk, J n m₁ news₁ → Fr h₀ env.locals h m₁ → News h₀ env.locals h news₁ → R (.ok .next) { s with heap := h, toks := tk }) :
    codeAny (model prog w) A (.forLoop target it body [] env) R s := by
  have hLw : env.locals ∉ wr := fun h => hL (D.sub _ h)
  have old : ∀ b o, h₀.get? b = some o → b ∉ wr := fun b o e hb => by rw [hwr b hb] at e; cases e
  refine codeAny_forLoop_any
    (fun k s' => ∃ h' tk m' news' i, s' = { s with heap := h', toks := tk } ∧ St i h' ∧ Fr h₀ env.locals h' m' ∧ News h₀ env.locals h' news' ∧ (∀ p ∈ news', p.1 ∉ wr) ∧ J i m' news' ∧ i ≤ n ∧ k = n + 1 - i) ?_ (n + 1)
    ⟨s.heap, s.toks, m, news, 0, rfl, hst, F, N, hnw, h0, Nat.zero_le _, rfl⟩
  rintro k s' ⟨H, tk, m', news', i, rfl, hst', F', N', hnw', hJ, hi, rfl⟩
  by_cases hlt : i < n
  · refine wpAny_mono (D.item i { s with heap := H, toks := tk } m' (fun _ s₂ => wpAny (model prog w) A (execs body env) (fun f s₃ => match f with
        | .next | .cont => ∃ m, m < n + 1 - i ∧ ∃ h' tk m' news' i, s₃ = { s with heap := h', toks := tk } ∧ St i h' ∧ Fr h₀ env.locals h' m' ∧ News h₀ env.locals h' news' ∧ (∀ p ∈ news', p.1 ∉ wr) ∧ J i m' news' ∧ i ≤ n ∧ m = n + 1 - i
        | .brk => R (.ok .next) s₃
        | .ret v => R (.ok (.ret v)) s₃) (fun _ _ => False) s₂) (fun _ _ => False) hlt hst' F'.ns hL fun h₁ tk₁ m₁ hB hn₁ hst₁ hk₁ => ?_) (fun r s₁ h₁ => ?_) (fun _ _ h => h.elim)
    · have F₁ : Fr h₀ env.locals h₁ m₁ := ⟨hn₁, fun b o e => hk₁ b o (old b o e) (Nat.ne_of_lt (Nat.lt_of_lt_of_le (Heap.lt_size e) F'.above)) (F'.keep b o e), F'.above⟩
      have N₁ : News h₀ env.locals h₁ news' := fun p hp => ⟨hk₁ _ _ (hnw' p hp) (N' p hp).2.1 (N' p hp).1, (N' p hp).2⟩
      have Nown : News h₀ env.locals h₁ (ownOf h₀ wr h₁) := news_ownOf hLw
      have sep : ∀ p ∈ news', ∀ q ∈ ownOf h₀ wr h₁, p.1 ≠ q.1 := fun p hp q hq e => hnw' p hp (e ▸ ownOf_sub q hq)
      have fin : ∀ s₃, (∃ h' tk m₂ news₂, s₃ = { s with heap := h', toks := tk } ∧ Fr h₀ env.locals h' m₂ ∧ News h₀ env.locals h' (news₂ ++ ownOf h₀ wr h₁) ∧ (∀ p ∈ news₂, ∀ q ∈ ownOf h₀ wr h₁, p.1 ≠ q.1) ∧ J (i + 1) m₂ news₂) →
          ∃ m, m < n + 1 - i ∧ ∃ h' tk m' news' i, s₃ = { s with heap := h', toks := tk } ∧ St i h' ∧ Fr h₀ env.locals h' m' ∧ News h₀ env.locals h' news' ∧ (∀ p ∈ news', p.1 ∉ wr) ∧ J i m' news' ∧ i ≤ n ∧ m = n + 1 - i := by
        rintro s₃ ⟨h₃', tk₃, m₂, news₂, rfl, F₃, N₃, ha₃, hJ₃⟩
        refine ⟨n + 1 - (i + 1), by omega, h₃', tk₃, m₂, news₂, i + 1, rfl, D.frame _ _ _ hst₁ fun b hb o e => ?_, F₃, fun p hp => N₃ p (List.mem_append_left _ hp), fun p hp hb => ?_, hJ₃, hlt, rfl⟩
        · rcases hfp b hb with h1 | ⟨o', h1⟩ | ⟨o', h1⟩
          · exact (N₃ _ (List.mem_append_right _ (mem_ownOf h1 (hwr _ h1) e))).1
          · have h2 := F₁.keep b o' h1
            rw [e] at h2
            cases h2
            exact F₃.keep b o h1
          · have h2 := (N₁ _ (hsrc _ _ _ hJ _ h1)).1
            rw [e] at h2
            cases h2
            exact (N₃ _ (List.mem_append_left _ (hsrc _ _ _ hJ₃ _ h1))).1
        · obtain ⟨o, ho⟩ := hlive _ _ hst₁ _ hb
          exact ha₃ p hp (p.1, o) (mem_ownOf hb (hwr _ hb) ho) rfl
      refine wpAny_mono (turn i m' m₁ news' h₁ tk₁ _ hlt hJ hB F₁ (fun p hp => (List.mem_append.mp hp).elim (N₁ p) (Nown p)) sep) (fun f s₃ h₃ => ?_) (fun _ _ h => h.elim)
      cases f with
      | ret v => exact h₃
      | brk => exact h₃
      | next => exact fin _ h₃
      | cont => exact fin _ h₃
    · obtain ⟨v, rfl, h₁⟩ := h₁
      exact wpAny_mono h₁ (fun _ s₂ h₂ => wpAny_mono h₂ (fun _ s₃ h₃ => wpAny_mono h₃ (fun _ _ h => h) (fun _ _ h => h.elim)) (fun _ _ h => h.elim)) (fun _ _ h => h.elim)
  · obtain rfl : i = n := Nat.le_antisymm hi (Nat.not_lt.mp hlt)
    refine wpAny_mono (D.done { s with heap := H, toks := tk } (fun s' => R (.ok .next) s') (fun _ _ => False) hst' fun h₁ tk₁ hk₁ => ?_) (fun r s₁ h₁ => ?_) (fun _ _ h => h.elim)
    · exact done m' news' h₁ tk₁ hJ ⟨F'.ns.at' fun o e => hk₁ _ o hLw e, fun b o e => hk₁ b o (old b o e) (F'.keep b o e), F'.above⟩ fun p hp => ⟨hk₁ _ _ (hnw' p hp) (N' p hp).1, (N' p hp).2⟩
    · obtain ⟨rfl, h₁⟩ := h₁
      exact wpAny_execs_nil h₁

/-- what a for's head must bring -/
def ForAt (prog : Program) (w : World) (A : Around) (h₀ : Heap) (env : Env) (target : Expr) (body : List Stmt) (Q : Flow → Shared → Prop) (it : Value) (s : Shared) : Prop :=
  ∃ (fp wr : List Addr) (n : Nat) (B : Nat → (Str → Option Value) → (Str → Option Value) → Prop) (St : Nat → Heap → Prop) (m : Str → Option Value) (news src : List (Addr × Obj)), Dr prog w A env target it fp wr n B St ∧ env.locals ∉ fp ∧ (∀ b ∈ wr, h₀.get? b = none) ∧ (∀ i h, St i h → ∀ b ∈ wr, ∃ o, h.get? b = some o) ∧ (∀ p ∈ news, p.1 ∉ wr) ∧ St 0 s.heap ∧
    (∀ b ∈ fp, b ∈ wr ∨ (∃ o, h₀.get? b = some o) ∨ (∃ o, (b, o) ∈ src)) ∧ Fr h₀ env.locals s.heap m ∧ News h₀ env.locals s.heap news ∧
    ∃ J : Nat → (Str → Option Value) → List (Addr × Obj) → Prop, (∀ i m' news', J i m' news' → ∀ p ∈ src, p ∈ news') ∧ J 0 m news ∧
    (∀ i m₁ m₂ news₁ h tk own, i < n → J i m₁ news₁ → B i m₁ m₂ → Fr h₀ env.locals h m₂ → News h₀ env.locals h (news₁ ++ own) → (∀ p ∈ news₁, ∀ q ∈ own, p.1 ≠ q.1) →
      wpAny (model prog w) A (execs body env) (TEnd h₀ env.locals own { s with heap := h, toks := tk } (J (i + 1)) Q) (fun _ _ => False) { s with heap := h, toks := tk }) ∧
    (∀ m₁ news₁ h tk, J n m₁ news₁ → Fr h₀ env.locals h m₁ → News h₀ env.locals h news₁ → Q .next { s with heap := h, toks := tk })

theorem for_rule {target iter : Expr} {body : List Stmt} {pos : Pos} {Q : Flow → Shared → Prop} {E : Value → Shared → Prop} (h₀ : Heap)
    (h : wpAny (model prog w) A (eval iter env) (fun xv s₁ => wpAny (model prog w) A (pyIter xv) (ForAt prog w A h₀ env target body Q) E s₁) E s)
    (hs : ∀ x, foldedSetIterable iter env x = pure x := by intro _; rfl) :
    wpAny (model prog w) A (exec (.For target iter body [] pos) env) Q E s := by
  refine wpAny_For (wpAny_mono h (fun xv s₁ h₁ => wpAny_mono h₁ (fun it s₂ h₂ => ?_) fun _ _ e => e) fun _ _ e => e) hs
  obtain ⟨fp, wr, n, B, St, m, news, src, D, hL, hwr, hlive, hnw, hst, hfp, F, N, J, hsrc, h0, turn, done⟩ := h₂
  exact for_code (R := fun r s' => match r with | .ok f => Q f s' | .error e => cameBackBy (model prog w) A env E e s') D hL hwr hlive hnw hst hfp F N J hsrc h0 turn done

theorem for_ruleF {m₀ : Str → Option Value} {target iter : Expr} {body : List Stmt} {pos : Pos} {Q : Flow → Shared → Prop} {E : Value → Shared → Prop} (_F : Fr h₀ env.locals s.heap m₀)
    (h : wpAny (model prog w) A (eval iter env) (fun xv s₁ => wpAny (model prog w) A (pyIter xv) (ForAt prog w A h₀ env target body Q) E s₁) E s)
    (hs : ∀ x, foldedSetIterable iter env x = pure x) :
    wpAny (model prog w) A (exec (.For target iter body [] pos) env) Q E s := for_rule h₀ h hs
end

section
variable {prog : Program} {w : World} {A : Around} {env : Env} {s : Shared}

theorem comp_loop {elt target iter : Expr} {ifs : List Expr} {scope : Scope} {pos : Pos} {it acc : Value} {cenv : Env} {R : Result → Shared → Prop} (I : Nat → Shared → Prop)
    (turn : ∀ n s, I n s → wpAny (model prog w) A (pyNext it) (fun r s₁ => match r with
      | none => R (.ok .next) s₁
      | some v => wpAny (model prog w) A (letOwnedTupleGo target it v) (fun _ s₀ => wpAny (model prog w) A (assign target cenv v) (fun _ s₂ =>
          wpAny (model prog w) A (forIn ifs true fun c r => if r = true then do let ok ← isTrue c cenv (eval c cenv); pure (ForInStep.yield ok) else pure (ForInStep.yield r)) (fun ok s₃ =>
            if ok = true then wpAny (model prog w) A (eval elt cenv) (fun x s₄ =>
              wpAny (model prog w) A (call (.builtin "list.append") [acc, x]) (fun _ s₅ => ∃ m, m < n ∧ I m s₅) (fun _ _ => False) s₄) (fun _ _ => False) s₃
            else ∃ m, m < n ∧ I m s₃) (fun _ _ => False) s₂) (fun _ _ => False) s₀) (fun _ _ => False) s₁) (fun _ _ => False) s)
    (n : Nat) (h : I n s) : codeAny (model prog w) A (.compLoop (.ListComp elt [⟨target, iter, ifs, 0⟩] scope pos) 0 it acc cenv) R s := by
  refine codeAny_loop rfl I (fun n s hI => ?_) n h
  show wpAny _ A ((compTurn (.ListComp elt [⟨target, iter, ifs, 0⟩] scope pos) 0 it acc cenv).onRaise (fun x => do noteFrame x cenv; theTreesLotGoes x)) _ _ s
  refine wpAny_noted (wpAny_mono (E := fun _ _ => False) ?_ (fun _ _ h => h) fun _ _ h => h.elim)
  rw [compTurn_list]
  refine wpAny_bind (wpAny_standAt (wpAny_bind (wpAny_mono (turn n s hI) (fun r s₁ h₁ => ?_) fun _ _ h' => h')))
  cases r with
  | none => exact wpAny_pure h₁
  | some v =>
    refine wpAny_bind (wpAny_mono h₁ (fun _ s₀ h₀' => ?_) fun _ _ h' => h')
    refine wpAny_bind (wpAny_mono h₀' (fun _ s₂ h₂ => ?_) fun _ _ h' => h')
    refine wpAny_bind (wpAny_mono h₂ (fun ok s₃ h₃ => ?_) fun _ _ h' => h')
    cases ok with
    | false => exact wpAny_pure ⟨rfl, h₃⟩
    | true => exact wpAny_bind (wpAny_bind (wpAny_mono h₃ (fun x s₄ h₄ => wpAny_bind (wpAny_mono h₄ (fun _ s₅ h₅ => wpAny_pure (wpAny_pure ⟨rfl, h₅⟩)) fun _ _ h' => h')) fun _ _ h' => h'))

/-- what a comprehension's source must bring -/
def CompAt (prog : Program) (w : World) (A : Around) (s : Shared) (env : Env) (elt target : Expr) (ifs : List Expr) (scope : Scope) (cl : List (Str × Addr)) (Q : Value → Shared → Prop) (it : Value) (s₂ : Shared) : Prop :=
  ∃ (fp wr : List Addr) (n : Nat) (B : Nat → (Str → Option Value) → (Str → Option Value) → Prop) (St : Nat → Heap → Prop),
    (∀ C, Dr prog w A (compEnvC scope cl C env) target it fp wr n B St) ∧ St 0 s₂.heap ∧ (∀ b ∈ fp, b < s₂.heap.objs.size) ∧ (∀ b ∈ wr, s.heap.get? b = none) ∧
    (∃ h tk, s₂ = { s with heap := h, toks := tk } ∧ Kp s.heap h ∧ s.heap.objs.size ≤ h.objs.size) ∧ n ≤ sizeLine ∧
    ∃ J : Nat → List Value → Prop, J 0 [] ∧
      (∀ C i m₁ m₂ ys h tk, i < n → J i ys → B i m₁ m₂ → Fr s.heap C h m₂ →
        wpAny (model prog w) A (forIn ifs true fun c r => if r = true then do let ok ← isTrue c (compEnvC scope cl C env) (eval c (compEnvC scope cl C env)); pure (ForInStep.yield ok) else pure (ForInStep.yield r)) (fun ok s₄ =>
          if ok = true then wpAny (model prog w) A (eval elt (compEnvC scope cl C env)) (fun y s₅ => Keeps { s with heap := h, toks := tk } s₅ ∧ J (i + 1) (ys ++ [y])) (fun _ _ => False) s₄
          else Keeps { s with heap := h, toks := tk } s₄ ∧ J (i + 1) ys) (fun _ _ => False) { s with heap := h, toks := tk }) ∧
      (∀ D h tk ys, J n ys → Kp s.heap h → s.heap.objs.size ≤ D → h.get? D = some (LCg.lst ys) → Q (.ref D) { s with heap := h, toks := tk })

theorem none_of_le {h : Heap} {a : Addr} (ha : h.objs.size ≤ a) : h.get? a = none := by
  cases e : h.get? a with
  | none => rfl
  | some o' => exact absurd (Heap.lt_size e) (Nat.not_lt.mpr ha)

end
section

namespace KC
abbrev qT := (Program) × (World) × (Around) × (Env) × (Shared) × (Expr) × (Expr) × (Expr) × (List Expr) × (Scope) × (List (Str × Addr)) × (Pos) × (Option (Value → Sem Unit)) × (Value → Shared → Prop) × (Value → Shared → Prop) × (Value → Shared → Prop) × (Value)
def qP (prog : Program) (w : World) (A : Around) (env : Env) (s : Shared) (elt : Expr) (target : Expr) (iter : Expr) (ifs : List Expr) (scope : Scope) (cl : List (Str × Addr)) (pos : Pos) (use : Option (Value → Sem Unit)) (Q : Value → Shared → Prop) (Fin : Value → Shared → Prop) (E : Value → Shared → Prop) (it : Value) : Prop := ∀ (s₂ : Shared) (hcell : ∀ y ∈ scope.names, y.2 ≠ .cell) (hkind : scope.kind = .function) (h₂ : CompAt prog w A s env elt target ifs scope cl Fin it s₂) (fin : ∀ D C h tk m', h.Ns C m' → s.heap.objs.size ≤ C → D ≠ C → (∀ h'', Heap.SameBut C h h'' → Fin (.ref D) { s with heap := h'', toks := tk }) → compPost (model prog w) A E use Q (.ref D) C (.ok .next) { s with heap := h, toks := tk }), wpAny (model prog w) A (newList []) (fun acc s₃ => wpAny (model prog w) A (newFunctionEnv scope env.globals cl [] env.qual none .none (some env)) (fun cenv s₄ =>
      codeAny (model prog w) A (.compStart (.ListComp elt [⟨target, iter, ifs, 0⟩] scope pos) 0 it acc { cenv with scope := relabel scope env }) (compPost (model prog w) A E use Q acc cenv.locals) s₄) E s₃) E s₂
theorem qN : Nonempty qT := ⟨(default, PySem.W.aWorld 0, ⟨none, 0, none, none, 0⟩, default, {}, default, default, default, default, default, default, default, default, fun _ _ => True, fun _ _ => True, fun _ _ => True, default)⟩
noncomputable def qk : qT := (Classical.choice (drink qN fun v => qP v.1 v.2.1 v.2.2.1 v.2.2.2.1 v.2.2.2.2.1 v.2.2.2.2.2.1 v.2.2.2.2.2.2.1 v.2.2.2.2.2.2.2.1 v.2.2.2.2.2.2.2.2.1 v.2.2.2.2.2.2.2.2.2.1 v.2.2.2.2.2.2.2.2.2.2.1 v.2.2.2.2.2.2.2.2.2.2.2.1 v.2.2.2.2.2.2.2.2.2.2.2.2.1 v.2.2.2.2.2.2.2.2.2.2.2.2.2.1 v.2.2.2.2.2.2.2.2.2.2.2.2.2.2.1 v.2.2.2.2.2.2.2.2.2.2.2.2.2.2.2.1 v.2.2.2.2.2.2.2.2.2.2.2.2.2.2.2.2)).1
noncomputable def prog : Program := qk.1
noncomputable def w : World := qk.2.1
noncomputable def A : Around := qk.2.2.1
noncomputable def env : Env := qk.2.2.2.1
noncomputable def s : Shared := qk.2.2.2.2.1
noncomputable def elt : Expr := qk.2.2.2.2.2.1
noncomputable def target : Expr := qk.2.2.2.2.2.2.1
noncomputable def iter : Expr := qk.2.2.2.2.2.2.2.1
noncomputable def ifs : List Expr := qk.2.2.2.2.2.2.2.2.1
noncomputable def scope : Scope := qk.2.2.2.2.2.2.2.2.2.1
noncomputable def cl : List (Str × Addr) := qk.2.2.2.2.2.2.2.2.2.2.1
noncomputable def pos : Pos := qk.2.2.2.2.2.2.2.2.2.2.2.1
noncomputable def use : Option (Value → Sem Unit) := qk.2.2.2.2.2.2.2.2.2.2.2.2.1
noncomputable def Q : Value → Shared → Prop := qk.2.2.2.2.2.2.2.2.2.2.2.2.2.1
noncomputable def E : Value → Shared → Prop := qk.2.2.2.2.2.2.2.2.2.2.2.2.2.2.2.1
noncomputable def it : Value := qk.2.2.2.2.2.2.2.2.2.2.2.2.2.2.2.2
theorem qA (h : qP prog w A env s elt target iter ifs scope cl pos use Q qk.2.2.2.2.2.2.2.2.2.2.2.2.2.2.1 E it) (prog : Program) (w : World) (A : Around) (env : Env) (s : Shared) (elt : Expr) (target : Expr) (iter : Expr) (ifs : List Expr) (scope : Scope) (cl : List (Str × Addr)) (pos : Pos) (use : Option (Value → Sem Unit)) (Q : Value → Shared → Prop) (Fin : Value → Shared → Prop) (E : Value → Shared → Prop) (it : Value) : qP prog w A env s elt target iter ifs scope cl pos use Q Fin E it := (Classical.choice (drink qN fun v => qP v.1 v.2.1 v.2.2.1 v.2.2.2.1 v.2.2.2.2.1 v.2.2.2.2.2.1 v.2.2.2.2.2.2.1 v.2.2.2.2.2.2.2.1 v.2.2.2.2.2.2.2.2.1 v.2.2.2.2.2.2.2.2.2.1 v.2.2.2.2.2.2.2.2.2.2.1 v.2.2.2.2.2.2.2.2.2.2.2.1 v.2.2.2.2.2.2.2.2.2.2.2.2.1 v.2.2.2.2.2.2.2.2.2.2.2.2.2.1 v.2.2.2.2.2.2.2.2.2.2.2.2.2.2.1 v.2.2.2.2.2.2.2.2.2.2.2.2.2.2.2.1 v.2.2.2.2.2.2.2.2.2.2.2.2.2.2.2.2)).2 h (prog, w, A, env, s, elt, target, iter, ifs, scope, cl, pos, use, Q, Fin, E, it)
theorem qW : qP prog w A env s elt target iter ifs scope cl pos use Q qk.2.2.2.2.2.2.2.2.2.2.2.2.2.2.1 E it := by
  intro s₂ hcell hkind h₂ fin
  obtain ⟨fp, wr, n, B, St, D, hst, hfp, hwr, ⟨H, tk0, rfl, hK, hZ⟩, hsz, J, hJ0, turn, done⟩ := h₂
  dsimp only at hst hfp
  refine wpAny_newObj_type (wpAny_newFunctionEnv hcell (by intro y hy; simp at hy) (fun h₁ hns₁ hsb₁ => ?_) hkind)
  dsimp only at hns₁ hsb₁ ⊢
  generalize hH2 : H.push { cls := .type "list", dict := none, data := .seq ([] : List Value).toArray } = H2 at hns₁ hsb₁ ⊢
  have hC : H2.objs.size = H.objs.size + 1 := by rw [← hH2, Heap.size_push]
  have hDC : H.objs.size ≠ H2.objs.size := by rw [hC]; exact Nat.ne_of_lt (Nat.lt_succ_self _)
  have hCle : H.objs.size ≤ H2.objs.size := by rw [hC]; exact Nat.le_succ _
  have below : ∀ b, b < H.objs.size → b ≠ H2.objs.size ∧ b ≠ H.objs.size := fun b hb => ⟨by rw [hC]; exact Nat.ne_of_lt (Nat.lt_succ_of_lt hb), Nat.ne_of_lt hb⟩
  have hDf : H.objs.size ∉ fp := fun hm => Nat.lt_irrefl _ (hfp _ hm)
  have hCf : H2.objs.size ∉ fp := fun hm => by have := hfp _ hm; rw [hC] at this; exact Nat.lt_irrefl _ (Nat.lt_of_succ_lt this)
  have old : Kp H h₁ := fun b o e => hsb₁.extBut b o (below b (Heap.lt_size e)).1 (Heap.get?_push_of_some _ (hH2 ▸ Heap.get?_push_of_some _ e))
  have hacc : h₁.get? H.objs.size = some (LCg.lst []) := hsb₁.extBut _ _ hDC (Heap.get?_push_of_some _ (hH2 ▸ Heap.get?_push_size _ rfl))
  have hst₁ : St 0 h₁ := (D 0).frame _ _ _ hst fun b _ o e => old b o e
  have low : ∀ b o, s.heap.get? b = some o → b < H.objs.size := fun b o e => Nat.lt_of_lt_of_le (Heap.lt_size e) hZ
  have DC := D H2.objs.size
  have loop : ∀ s₃ : Shared, s₃ = { s with heap := h₁, toks := tk0 + ([] : List (Str × Value)).length } →
      codeAny (model prog w) A (.compLoop (.ListComp elt [⟨target, iter, ifs, 0⟩] scope pos) 0 it (.ref H.objs.size) (compEnvC scope cl H2.objs.size env))
        (compPost (model prog w) A E use Q (.ref H.objs.size) H2.objs.size) s₃ := by
    rintro s₃ rfl
    refine comp_loop (cenv := compEnvC scope cl H2.objs.size env)
      (fun k s' => ∃ h' tk m' ys i, s' = { s with heap := h', toks := tk } ∧ St i h' ∧ Kp s.heap h' ∧ h'.Ns H2.objs.size m' ∧ h'.get? H.objs.size = some (LCg.lst ys) ∧ ys.length ≤ i ∧ J i ys ∧ i ≤ n ∧ k = n + 1 - i) ?_ (n + 1)
      ⟨h₁, _, _, [], 0, rfl, hst₁, hK.trans old, hns₁, hacc, Nat.le_refl _, hJ0, Nat.zero_le _, rfl⟩
    rintro k s' ⟨h', tk, m', ys, i, rfl, hst', hK', hn', hD', hyl, hJ, hi, rfl⟩
    by_cases hlt : i < n
    · refine wpAny_mono (DC.item i { s with heap := h', toks := tk } m' (fun _ s₂ =>
          wpAny (model prog w) A (forIn ifs true fun c r => if r = true then do let ok ← isTrue c (compEnvC scope cl H2.objs.size env) (eval c (compEnvC scope cl H2.objs.size env)); pure (ForInStep.yield ok) else pure (ForInStep.yield r)) (fun ok s₃ =>
            if ok = true then wpAny (model prog w) A (eval elt (compEnvC scope cl H2.objs.size env)) (fun x s₄ =>
              wpAny (model prog w) A (call (.builtin "list.append") [.ref H.objs.size, x]) (fun _ s₅ => ∃ m, m < n + 1 - i ∧ ∃ h' tk m' ys i, s₅ = { s with heap := h', toks := tk } ∧ St i h' ∧ Kp s.heap h' ∧ h'.Ns H2.objs.size m' ∧ h'.get? H.objs.size = some (LCg.lst ys) ∧ ys.length ≤ i ∧ J i ys ∧ i ≤ n ∧ m = n + 1 - i) (fun _ _ => False) s₄) (fun _ _ => False) s₃
            else ∃ m, m < n + 1 - i ∧ ∃ h' tk m' ys i, s₃ = { s with heap := h', toks := tk } ∧ St i h' ∧ Kp s.heap h' ∧ h'.Ns H2.objs.size m' ∧ h'.get? H.objs.size = some (LCg.lst ys) ∧ ys.length ≤ i ∧ J i ys ∧ i ≤ n ∧ m = n + 1 - i) (fun _ _ => False) s₂)
          (fun _ _ => False) hlt hst' hn' hCf fun h₂ tk₂ m₂ hB hn₂ hst₂ hk₂ => ?_) (fun r s₁ h₁ => ?_) (fun _ _ h => h.elim)
      · have hwC : H2.objs.size ∉ wr := fun h => hCf (DC.sub _ h)
        have hK₂ : Kp s.heap h₂ := fun b o e => hk₂ b o (fun hb => by rw [hwr b hb] at e; cases e) (below b (low b o e)).1 (hK' b o e)
        have F₂ : Fr s.heap H2.objs.size h₂ m₂ := ⟨hn₂, hK₂, Nat.le_trans hZ hCle⟩
        have hD₂ : h₂.get? H.objs.size = some (LCg.lst ys) := hk₂ _ _ (fun h => hDf (DC.sub _ h)) hDC hD'
        refine wpAny_mono (turn H2.objs.size i m' m₂ ys h₂ tk₂ hlt hJ hB F₂) (fun ok s₃ h₃ => ?_) fun _ _ h => h
        cases ok with
        | false =>
          rw [if_neg Bool.false_ne_true] at h₃ ⊢
          obtain ⟨⟨h₄, tk₄, rfl, hk₄⟩, hJ₄⟩ := h₃
          exact ⟨n + 1 - (i + 1), by omega, h₄, tk₄, m₂, ys, i + 1, rfl, DC.frame _ _ _ hst₂ fun b _ o e => hk₄ b o e, hK₂.trans hk₄, hn₂.keeps hk₄, hk₄ _ _ hD₂, Nat.le_succ_of_le hyl, hJ₄, hlt, rfl⟩
        | true =>
          rw [if_pos rfl] at h₃ ⊢
          refine wpAny_mono h₃ (fun x s₄ h₄ => ?_) fun _ _ h => h
          obtain ⟨⟨h₄, tk₄, rfl, hk₄⟩, hJ₄⟩ := h₄
          refine PyProof.Rows.append_at (hsz := by show ys.toArray.size ≤ sizeLine; rw [List.size_toArray]; omega) (hk₄ _ _ hD₂) fun h₅ hs₅ hD₅ => ?_
          refine ⟨n + 1 - (i + 1), by omega, h₅, tk₄, m₂, ys ++ [x], i + 1, rfl, DC.frame _ _ _ hst₂ fun b hb o e => hs₅.extBut b o (fun q => hDf (q ▸ hb)) (hk₄ b o e),
            fun b o e => hs₅.extBut b o (below b (low b o e)).2 (hk₄ b o (hK₂ b o e)), (hn₂.keeps hk₄).sameBut hs₅ (Ne.symm hDC), ?_, by rw [List.length_append, List.length_singleton]; omega, hJ₄, hlt, rfl⟩
          rw [hD₅, ← LCg.lst_snoc]
      · obtain ⟨v, rfl, h₁⟩ := h₁
        exact h₁
    · obtain rfl : i = n := Nat.le_antisymm hi (Nat.not_lt.mp hlt)
      refine wpAny_mono (DC.done { s with heap := h', toks := tk } (fun s' => compPost (model prog w) A E use Q (.ref H.objs.size) H2.objs.size (.ok .next) s') (fun _ _ => False) hst' fun h₁ tk₁ hk₁ => ?_) (fun r s₁ h₁ => ?_) (fun _ _ h => h.elim)
      · have hwC : H2.objs.size ∉ wr := fun h => hCf (DC.sub _ h)
        refine fin _ _ _ _ m' (hn'.at' fun o e => hk₁ _ o hwC e) (Nat.le_trans hZ hCle) hDC fun h'' hs'' => done H.objs.size h'' tk₁ ys hJ (fun b o e => ?_) hZ ?_
        · exact hs''.extBut b o (below b (low b o e)).1 (hk₁ b o (fun hb => by rw [hwr b hb] at e; cases e) (hK' b o e))
        · exact hs''.extBut _ _ hDC (hk₁ _ _ (fun h => hDf (DC.sub _ h)) hD')
      · obtain ⟨rfl, h₁⟩ := h₁
        exact h₁
  exact codeAny_compStart_list (loop _ rfl) (DC.self 0 _ _ _ hst₁ (loop _ rfl))
end KC
end
section
variable {prog : Program} {w : World} {A : Around} {env : Env} {s : Shared}
theorem comp_core {elt target iter : Expr} {ifs : List Expr} {scope : Scope} {cl : List (Str × Addr)} {pos : Pos} {use : Option (Value → Sem Unit)} {Q Fin : Value → Shared → Prop} {E : Value → Shared → Prop} {it : Value} {s₂ : Shared}
    (hcell : ∀ y ∈ scope.names, y.2 ≠ .cell) (hkind : scope.kind = .function) (h₂ : CompAt prog w A s env elt target ifs scope cl Fin it s₂)
    (fin : ∀ D C h tk m', h.Ns C m' → s.heap.objs.size ≤ C → D ≠ C → (∀ h'', Heap.SameBut C h h'' → Fin (.ref D) { s with heap := h'', toks := tk }) → compPost (model prog w) A E use Q (.ref D) C (.ok .next) { s with heap := h, toks := tk }) :
    wpAny (model prog w) A (newList []) (fun acc s₃ => wpAny (model prog w) A (newFunctionEnv scope env.globals cl [] env.qual none .none (some env)) (fun cenv s₄ =>
      codeAny (model prog w) A (.compStart (.ListComp elt [⟨target, iter, ifs, 0⟩] scope pos) 0 it acc { cenv with scope := relabel scope env }) (compPost (model prog w) A E use Q acc cenv.locals) s₄) E s₃) E s₂ := by
  exact KC.qA KC.qW prog w A env s elt target iter ifs scope cl pos use Q Fin E it s₂ hcell hkind h₂ fin
end
section
variable {prog : Program} {w : World} {A : Around} {env : Env} {s : Shared}
theorem comp_rule {elt target iter : Expr} {ifs : List Expr} {scope : Scope} {cl : List (Str × Addr)} {pos : Pos} {Q : Value → Shared → Prop} {E : Value → Shared → Prop}
    (hclos : closureFor scope env = pure cl) (hcell : ∀ y ∈ scope.names, y.2 ≠ .cell) (hkind : scope.kind = .function)
    (hnames : ∀ y ∈ scope.names, y.2 = .local → scope.names.lookup y.1 = some .local)
    (h : wpAny (model prog w) A (eval iter env) (fun xv s₁ => wpAny (model prog w) A (pyIter xv) (CompAt prog w A s env elt target ifs scope cl Q) E s₁) E s)
    (hs : ∀ x, foldedSetIterable iter env x = pure x := by intro _; rfl) :
    wpAny (model prog w) A (eval (.ListComp elt [⟨target, iter, ifs, 0⟩] scope pos) env) Q E s := by
  rw [eval_ListComp]
  exact wpAny_comprehension_free (use := none) rfl hs hclos hkind hnames (wpAny_mono h (fun xv s₁ h₁ => wpAny_mono h₁ (fun it s₂ h₂ => comp_core hcell hkind h₂ fun D C h tk m' hn _ _ q => ⟨m', hn, q⟩) fun _ _ e => e) fun _ _ e => e)
end

section
variable {prog : Program} {w : World} {A : Around} {env : Env}
theorem Dr.ofWalksU {x y : Str} {px py pt : Pos} {k : Nat} {I : Addr} {fp wr : List Addr} {n : Nat} {Pt : Nat → Array Value → Prop} {St : Nat → Heap → Prop} {Mid : Nat → Addr → Heap → Prop}
    (hh : A.handled = none) (W : WalksU prog w A I fp wr n Pt St Mid) {P2 : Nat → Value → Value → Prop} (h2 : ∀ i vals, Pt i vals → ∃ v0 v1, vals = #[v0, v1] ∧ P2 i v0 v1)
    (hx : env.kindOf x = some .local) (hy : env.kindOf y = some .local) (hp : (env.scope.kind == .class || (env.scope.kind == .module && env.locals != env.globals)) = false) :
    Dr prog w A env (.Tuple [.Name x px, .Name y py] k pt) (.ref I) fp wr n (fun i m m' => ∃ v0 v1, P2 i v0 v1 ∧ m' = fun z => if z = y then some v1 else if z = x then some v0 else m z) St where
  sub := W.sub
  frame := W.frame
  item := fun i s m Q E hi hst hn hL hQ => by
    refine W.item i s _ _ hi hst fun T vals h₁ tk₁ hPt hT hMid hk₁ => ⟨_, rfl, ?_⟩
    obtain ⟨v0, v1, rfl, hP2⟩ := h2 i vals hPt
    have hLw : env.locals ∉ wr := fun h => hL (W.sub _ h)
    have hn₁ := hn.at' fun o e => hk₁ _ o hLw e
    refine W.go _ k pt i T _ _ _ hMid fun h₂ hst₂ hk₂ => ?_
    have ht₂ : h₂.IsTuple T #[v0, v1] := hT.at fun o e => hk₂ T o (W.apart i T h₁ hMid) e
    have hn₂ := hn₁.at' fun o e => hk₂ _ o hLw e
    refine wpAny_assign_Tuple hh ht₂ rfl rfl fun h₃ hx₃ => ?_
    replace hx₃ : Heap.ExtBut h₂.objs.size h₂ h₃ := hx₃
    have up₃ : ∀ b o, h₂.get? b = some o → h₃.get? b = some o := fun b o x => hx₃ b o (Nat.ne_of_lt (Heap.lt_size x)) x
    have hn₃ := hn₂.at' fun o e => up₃ _ o e
    show wpAny _ A (assignInOrder [assign (.Name x px) env, assign (.Name y py) env] [v0, v1]) _ _ _
    refine assignInOrder_cons (wpAny_assign_Name (wpAny_storeName_local hx hn₃ (fun h₄ hn₄ hs₄ => ?_) hp))
    refine assignInOrder_cons (wpAny_assign_Name (wpAny_storeName_local hy hn₄ (fun h₅ hn₅ hs₅ => ?_) hp))
    refine assignInOrder_nil ?_
    replace hs₄ : Heap.SameBut env.locals h₃ h₄ := hs₄
    replace hs₅ : Heap.SameBut env.locals h₄ h₅ := hs₅
    have up : ∀ b o, b ≠ env.locals → h₂.get? b = some o → h₅.get? b = some o := fun b o hb e => hs₅.extBut b o hb (hs₄.extBut b o hb (up₃ b o e))
    refine hQ h₅ _ _ ⟨v0, v1, hP2, rfl⟩ hn₅ (W.frame _ _ _ hst₂ fun b hb o e => up b o (fun q => hL (q ▸ hb)) e) fun b o hb hbL e => up b o hbL (hk₂ b o hb (hk₁ b o hb e))
  done := fun s Q E hst hQ => W.done s _ _ hst fun h' tk hk => ⟨rfl, hQ h' tk hk⟩
  self := fun i s Q E hst hQ => W.self i s Q E hst hQ
end

/-- pairs that a heap holds -/
inductive WordsAt (h : Heap) : List Value → List (Int × Int) → Prop
  | nil : WordsAt h [] []
  | cons {T : Addr} {a b : Int} {ta tb : Tok} {vs : List Value} {ps : List (Int × Int)} : h.IsTuple T #[.int a ta, .int b tb] → WordsAt h vs ps → WordsAt h (.ref T :: vs) ((a, b) :: ps)
theorem WordsAt.fns {h : Heap} {vs : List Value} {ps : List (Int × Int)} (H : WordsAt h vs ps) : ∃ (Ts : Nat → Addr) (va vb : Nat → Value), ∀ j, j < vs.length → (vs[j]? = some (.ref (Ts j)) ∧ h.IsTuple (Ts j) #[va j, vb j]) ∧ ∃ a b ta tb, ps[j]? = some (a, b) ∧ va j = .int a ta ∧ vb j = .int b tb := by
  induction H with
  | nil => exact ⟨fun _ => 0, fun _ => .none, fun _ => .none, fun j hj => absurd hj (Nat.not_lt_zero _)⟩
  | @cons T a b ta tb vs ps hT _ ih =>
    obtain ⟨Ts, va, vb, H⟩ := ih
    refine ⟨fun j => match j with | 0 => T | j + 1 => Ts j, fun j => match j with | 0 => .int a ta | j + 1 => va j, fun j => match j with | 0 => .int b tb | j + 1 => vb j, fun j hj => ?_⟩
    cases j with
    | zero => exact ⟨⟨rfl, hT⟩, a, b, ta, tb, rfl, rfl, rfl⟩
    | succ j => exact H j (Nat.lt_of_succ_lt_succ hj)
theorem WordsAt.length {h : Heap} {vs : List Value} {ps : List (Int × Int)} (H : WordsAt h vs ps) : vs.length = ps.length := by
  induction H with
  | nil => rfl
  | cons _ _ ih => simp [ih]
theorem WordsAt.keeps {h h' : Heap} {vs : List Value} {ps : List (Int × Int)} (H : WordsAt h vs ps) (k : Kp h h') : WordsAt h' vs ps := by
  induction H with
  | nil => exact .nil
  | cons hT _ ih => exact .cons (hT.at fun o e => k _ o e) ih
theorem WordsAt.append {h : Heap} {vs ws : List Value} {ps qs : List (Int × Int)} (H : WordsAt h vs ps) (K : WordsAt h ws qs) : WordsAt h (vs ++ ws) (ps ++ qs) := by
  induction H with
  | nil => exact K
  | cons hT _ ih => exact .cons hT ih
/-- a list's place: what was kept, or the ledger -/
def SrcL (h₀ : Heap) (l : Addr) (its : Array Value) (src : List (Addr × Obj)) : Prop := (h₀.IsList l its ∧ src = []) ∨ ∃ n, src = [(l, listOf its n)]
theorem SrcL.list {h₀ h : Heap} {L l : Addr} {its : Array Value} {src news : List (Addr × Obj)} {m : Str → Option Value} (S : SrcL h₀ l its src) (F : Fr h₀ L h m) (N : News h₀ L h news) (hs : ∀ p ∈ src, p ∈ news) : h.IsList l its := by
  rcases S with ⟨⟨o, e, r⟩, _⟩ | ⟨n, rfl⟩
  · exact ⟨o, F.keep _ _ e, r⟩
  · exact ⟨_, (N _ (hs _ (.head _))).1, rfl, n, rfl⟩
theorem SrcL.fp {h₀ : Heap} {l : Addr} {its : Array Value} {src : List (Addr × Obj)} (S : SrcL h₀ l its src) : (∃ o, h₀.get? l = some o) ∨ ∃ o, (l, o) ∈ src := by
  rcases S with ⟨⟨o, e, r⟩, _⟩ | ⟨n, rfl⟩
  · exact .inl ⟨o, e⟩
  · exact .inr ⟨_, .head _⟩

theorem none_of_le₀ {h₀ h : Heap} {L a : Addr} {m : Str → Option Value} (F : Fr h₀ L h m) (ha : h.objs.size ≤ a) : h₀.get? a = none := by
  cases e : h₀.get? a with
  | none => rfl
  | some o => exact absurd (Heap.lt_size (F.keep a o e)) (Nat.not_lt.mpr ha)

section
variable {prog : Program} {w : World} {A : Around} {env : Env} {h₀ : Heap} {s : Shared} {E : Value → Shared → Prop}

theorem forL {x : Str} {px : Pos} {body : List Stmt} {Q : Flow → Shared → Prop} {l : Addr} {vs : List Value} {src news : List (Addr × Obj)} {m : Str → Option Value} (hh : A.handled = none)
    (S : SrcL h₀ l vs.toArray src) (F : Fr h₀ env.locals s.heap m) (N : News h₀ env.locals s.heap news) (hx : env.kindOf x = some .local) (hp : (env.scope.kind == .class || (env.scope.kind == .module && env.locals != env.globals)) = false)
    (J : Nat → (Str → Option Value) → List (Addr × Obj) → Prop) (hsrc : ∀ i m' news', J i m' news' → ∀ p ∈ src, p ∈ news') (h0 : J 0 m news)
    (turn : ∀ i v m₁ news₁ h tk own, vs[i]? = some v → J i m₁ news₁ → Fr h₀ env.locals h (fun y => if y = x then some v else m₁ y) → News h₀ env.locals h (news₁ ++ own) → (∀ p ∈ news₁, ∀ q ∈ own, p.1 ≠ q.1) →
      wpAny (model prog w) A (execs body env) (TEnd h₀ env.locals own { s with heap := h, toks := tk } (J (i + 1)) Q) (fun _ _ => False) { s with heap := h, toks := tk })
    (done : ∀ m₁ news₁ h tk, J vs.length m₁ news₁ → Fr h₀ env.locals h m₁ → News h₀ env.locals h news₁ → Q .next { s with heap := h, toks := tk }) :
    wpAny (model prog w) A (pyIter (.ref l)) (ForAt prog w A h₀ env (.Name x px) body Q) E s := by
  have hl := S.list F N (hsrc _ _ _ h0)
  have hlt : l < s.heap.objs.size := by obtain ⟨_, e, _⟩ := hl; exact Heap.lt_size e
  refine wpAny_pyIter_list hl ?_
  refine ⟨_, _, _, _, _, m, news, src, Dr.ofWalks (Walks.list hh s.heap.objs.size l (Nat.ne_of_lt hlt) vs.toArray) hx hp, ?_, ?_, ?_, ?_, ⟨⟨_, Heap.get?_push_size _ rfl, rfl, rfl⟩, hl.push _⟩, ?_, F.push _, N.grown fun b o e => Heap.get?_push_of_some _ e, J, hsrc, h0, ?_, ?_⟩
  · intro hm
    rcases List.mem_cons.mp hm with e | hm
    · exact absurd F.ns.lt (e ▸ Nat.lt_irrefl _)
    · have e := List.mem_singleton.mp hm
      rcases S.fp with ⟨o, h1⟩ | ⟨o, h1⟩
      · exact absurd (Nat.lt_of_lt_of_le (Heap.lt_size h1) F.above) (e ▸ Nat.lt_irrefl _)
      · exact (N _ (hsrc _ _ _ h0 _ h1)).2.1 e.symm
  · intro b hb
    rw [List.mem_singleton.mp hb]
    exact none_of_le₀ F (Nat.le_refl _)
  · intro i h st b hb
    rw [List.mem_singleton.mp hb]
    obtain ⟨o, e, _⟩ := st.1
    exact ⟨o, e⟩
  · intro p hp' hI
    exact absurd (Heap.lt_size (N p hp').1) ((List.mem_singleton.mp hI) ▸ Nat.lt_irrefl _)
  · intro b hb
    rcases List.mem_cons.mp hb with e | hb
    · exact .inl (by rw [e]; exact .head _)
    · rw [List.mem_singleton.mp hb]
      exact .inr S.fp
  · rintro i m₁ m₂ news₁ h tk own hi hJ ⟨v, hv, rfl⟩ F₁ N₁ sep
    exact turn i v m₁ news₁ h tk own (by simpa using hv) hJ F₁ N₁ sep
  · intro m₁ news₁ h tk hJ F₁ N₁
    exact done m₁ news₁ h tk (by simpa using hJ) F₁ N₁

theorem forE {x y : Str} {px py pt : Pos} {k : Nat} {body : List Stmt} {Q : Flow → Shared → Prop} {l : Addr} {vs : List Value} {src news : List (Addr × Obj)} {m : Str → Option Value} (hh : A.handled = none)
    (S : SrcL h₀ l vs.toArray src) (F : Fr h₀ env.locals s.heap m) (N : News h₀ env.locals s.heap news) (hx : env.kindOf x = some .local) (hy : env.kindOf y = some .local) (hp : (env.scope.kind == .class || (env.scope.kind == .module && env.locals != env.globals)) = false)
    (J : Nat → (Str → Option Value) → List (Addr × Obj) → Prop) (hsrc : ∀ i m' news', J i m' news' → ∀ p ∈ src, p ∈ news') (h0 : J 0 m news)
    (turn : ∀ i v t m₁ news₁ h tk own, vs[i]? = some v → J i m₁ news₁ → Fr h₀ env.locals h (fun z => if z = y then some v else if z = x then some (.int (i : Nat) t) else m₁ z) → News h₀ env.locals h (news₁ ++ own) → (∀ p ∈ news₁, ∀ q ∈ own, p.1 ≠ q.1) →
      wpAny (model prog w) A (execs body env) (TEnd h₀ env.locals own { s with heap := h, toks := tk } (J (i + 1)) Q) (fun _ _ => False) { s with heap := h, toks := tk })
    (done : ∀ m₁ news₁ h tk, J vs.length m₁ news₁ → Fr h₀ env.locals h m₁ → News h₀ env.locals h news₁ → Q .next { s with heap := h, toks := tk }) :
    wpAny (model prog w) A (call (.type "enumerate") [.ref l]) (fun xv s₁ => wpAny (model prog w) A (pyIter xv) (ForAt prog w A h₀ env (.Tuple [.Name x px, .Name y py] k pt) body Q) E s₁) E s := by
  have hl := S.list F N (hsrc _ _ _ h0)
  have hlt : l < s.heap.objs.size := by obtain ⟨_, e, _⟩ := hl; exact Heap.lt_size e
  have hLl : env.locals ≠ l := fun e => by
    rcases S.fp with ⟨o, h1⟩ | ⟨o, h1⟩
    · exact absurd (Nat.lt_of_lt_of_le (Heap.lt_size h1) F.above) (e ▸ Nat.lt_irrefl _)
    · exact (N _ (hsrc _ _ _ h0 _ h1)).2.1 e.symm
  refine call_enumerate_list hl fun h₁ he hit hz₁ hk₁ => wpAny_pyIter_enum he ?_
  have W := WalksT.enumerate (prog := prog) (w := w) hh (s.heap.objs.size + 1) s.heap.objs.size l (Nat.succ_ne_self _) (Nat.ne_of_lt (Nat.lt_succ_of_lt hlt)) (Nat.ne_of_lt hlt) vs.toArray
  refine ⟨_, _, _, _, _, m, news, src, Dr.ofWalksT (P2 := fun i v0 v1 => vs[i]? = some v1 ∧ ∃ t, v0 = .int (i : Nat) t) hh W ?_ hx hy hp, ?_, ?_, ?_, ?_, ⟨⟨_, he⟩, hit, hl.at fun o e => hk₁ _ o e⟩, ?_, F.keeps hk₁, N.grown hk₁, J, hsrc, h0, ?_, ?_⟩
  · rintro i vals ⟨t, v, hv, rfl⟩
    exact ⟨_, _, rfl, by simpa using hv, t, rfl⟩
  · intro hm
    simp only [List.mem_cons, List.not_mem_nil, or_false] at hm
    rcases hm with e | e | e
    · exact absurd (Nat.lt_succ_of_lt F.ns.lt) (e ▸ Nat.lt_irrefl _)
    · exact absurd F.ns.lt (e ▸ Nat.lt_irrefl _)
    · exact hLl e
  · intro b hb
    simp only [List.mem_cons, List.not_mem_nil, or_false] at hb
    rcases hb with rfl | rfl
    · exact none_of_le₀ F (Nat.le_succ _)
    · exact none_of_le₀ F (Nat.le_refl _)
  · intro i h st b hb
    simp only [List.mem_cons, List.not_mem_nil, or_false] at hb
    obtain ⟨⟨old, st1⟩, ⟨o, st2, _⟩, _⟩ := st
    rcases hb with rfl | rfl
    · exact ⟨_, st1⟩
    · exact ⟨o, st2⟩
  · intro p hp' hI
    simp only [List.mem_cons, List.not_mem_nil, or_false] at hI
    have hl' := Heap.lt_size (N p hp').1
    rcases hI with e | e
    · rw [e] at hl'; exact absurd (Nat.lt_of_succ_lt hl') (Nat.lt_irrefl _)
    · rw [e] at hl'; exact Nat.lt_irrefl _ hl'
  · intro b hb
    simp only [List.mem_cons, List.not_mem_nil, or_false] at hb ⊢
    rcases hb with rfl | rfl | rfl
    · exact .inl (.inl rfl)
    · exact .inl (.inr rfl)
    · exact .inr S.fp
  · rintro i m₁ m₂ news₁ h tk own hi hJ ⟨v0, v1, ⟨hv, t, rfl⟩, rfl⟩ F₁ N₁ sep
    exact turn i v1 t m₁ news₁ h tk own hv hJ F₁ N₁ sep
  · intro m₁ news₁ h tk hJ F₁ N₁
    exact done m₁ news₁ h tk (by simpa using hJ) F₁ N₁
theorem Dr.more {target : Expr} {it : Value} {fp wr wr' : List Addr} {n : Nat} {B : Nat → (Str → Option Value) → (Str → Option Value) → Prop} {St : Nat → Heap → Prop} (D : Dr prog w A env target it fp wr n B St) (h1 : ∀ b ∈ wr, b ∈ wr') (h2 : ∀ b ∈ wr', b ∈ fp) :
    Dr prog w A env target it fp wr' n B St where
  sub := h2
  frame := D.frame
  item := fun i s m Q E hi hst hn hL hQ => D.item i s m Q E hi hst hn hL fun h' tk m' hB hn' hst' hk => hQ h' tk m' hB hn' hst' fun b o hb hbL e => hk b o (fun h => hb (h1 b h)) hbL e
  done := fun s Q E hst hQ => D.done s Q E hst fun h' tk hk => hQ h' tk fun b o hb e => hk b o (fun h => hb (h1 b h)) e
  self := D.self

theorem SrcL.ne {l : Addr} {its : Array Value} {src news : List (Addr × Obj)} {L : Addr} {h : Heap} {m : Str → Option Value} (S : SrcL h₀ l its src) (F : Fr h₀ L h m) (N : News h₀ L h news) (hs : ∀ p ∈ src, p ∈ news) : L ≠ l := fun e => by
  rcases S.fp with ⟨o, h1⟩ | ⟨o, h1⟩
  · exact absurd (Nat.lt_of_lt_of_le (Heap.lt_size h1) F.above) (e ▸ Nat.lt_irrefl _)
  · exact (N _ (hs _ h1)).2.1 e.symm

end
section

namespace KZ
abbrev qT := (Program) × (World) × (Around) × (Env) × (Heap) × (Shared) × (Value → Shared → Prop) × (Str) × (Str) × (Pos) × (Pos) × (Pos) × (Nat) × (List Stmt) × (Flow → Shared → Prop) × (Addr) × (Addr) × (List Value) × (List Value) × (List (Addr × Obj)) × (List (Addr × Obj)) × (List (Addr × Obj)) × (Str → Option Value)
def qP (prog : Program) (w : World) (A : Around) (env : Env) (h₀ : Heap) (s : Shared) (E : Value → Shared → Prop) (x : Str) (y : Str) (px : Pos) (py : Pos) (pt : Pos) (k : Nat) (body : List Stmt) (Q : Flow → Shared → Prop) (l1 : Addr) (l2 : Addr) (vs1 : List Value) (vs2 : List Value) (src1 : List (Addr × Obj)) (src2 : List (Addr × Obj)) (news : List (Addr × Obj)) (m : Str → Option Value) : Prop := ∀ (hh : A.handled = none) (S1 : SrcL h₀ l1 vs1.toArray src1) (S2 : SrcL h₀ l2 vs2.toArray src2) (F : Fr h₀ env.locals s.heap m) (N : News h₀ env.locals s.heap news) (hx : env.kindOf x = some .local) (hy : env.kindOf y = some .local) (hp : (env.scope.kind == .class || (env.scope.kind == .module && env.locals != env.globals)) = false) (J : Nat → (Str → Option Value) → List (Addr × Obj) → Prop) (hsrc : ∀ i m' news', J i m' news' → ∀ p ∈ src1 ++ src2, p ∈ news') (h0 : J 0 m news) (turn : ∀ i v1 v2 m₁ news₁ h tk own, vs1[i]? = some v1 → vs2[i]? = some v2 → J i m₁ news₁ → Fr h₀ env.locals h (fun z => if z = y then some v2 else if z = x then some v1 else m₁ z) → News h₀ env.locals h (news₁ ++ own) → (∀ p ∈ news₁, ∀ q ∈ own, p.1 ≠ q.1) →
      wpAny (model prog w) A (execs body env) (TEnd h₀ env.locals own { s with heap := h, toks := tk } (J (i + 1)) Q) (fun _ _ => False) { s with heap := h, toks := tk }) (done : ∀ m₁ news₁ h tk, J (min vs1.length vs2.length) m₁ news₁ → Fr h₀ env.locals h m₁ → News h₀ env.locals h news₁ → Q .next { s with heap := h, toks := tk }), wpAny (model prog w) A (call (.type "zip") [.ref l1, .ref l2]) (fun xv s₁ => wpAny (model prog w) A (pyIter xv) (ForAt prog w A h₀ env (.Tuple [.Name x px, .Name y py] k pt) body Q) E s₁) E s
theorem qN : Nonempty qT := ⟨(default, PySem.W.aWorld 0, ⟨none, 0, none, none, 0⟩, default, default, {}, fun _ _ => True, default, default, default, default, default, default, default, fun _ _ => True, default, default, default, default, default, default, default, default)⟩
noncomputable def qk : qT := (Classical.choice (drink qN fun v => qP v.1 v.2.1 v.2.2.1 v.2.2.2.1 v.2.2.2.2.1 v.2.2.2.2.2.1 v.2.2.2.2.2.2.1 v.2.2.2.2.2.2.2.1 v.2.2.2.2.2.2.2.2.1 v.2.2.2.2.2.2.2.2.2.1 v.2.2.2.2.2.2.2.2.2.2.1 v.2.2.2.2.2.2.2.2.2.2.2.1 v.2.2.2.2.2.2.2.2.2.2.2.2.1 v.2.2.2.2.2.2.2.2.2.2.2.2.2.1 v.2.2.2.2.2.2.2.2.2.2.2.2.2.2.1 v.2.2.2.2.2.2.2.2.2.2.2.2.2.2.2.1 v.2.2.2.2.2.2.2.2.2.2.2.2.2.2.2.2.1 v.2.2.2.2.2.2.2.2.2.2.2.2.2.2.2.2.2.1 v.2.2.2.2.2.2.2.2.2.2.2.2.2.2.2.2.2.2.1 v.2.2.2.2.2.2.2.2.2.2.2.2.2.2.2.2.2.2.2.1 v.2.2.2.2.2.2.2.2.2.2.2.2.2.2.2.2.2.2.2.2.1 v.2.2.2.2.2.2.2.2.2.2.2.2.2.2.2.2.2.2.2.2.2.1 v.2.2.2.2.2.2.2.2.2.2.2.2.2.2.2.2.2.2.2.2.2.2)).1
noncomputable def prog : Program := qk.1
noncomputable def w : World := qk.2.1
noncomputable def env : Env := qk.2.2.2.1
noncomputable def h₀ : Heap := qk.2.2.2.2.1
noncomputable def s : Shared := qk.2.2.2.2.2.1
noncomputable def x : Str := qk.2.2.2.2.2.2.2.1
noncomputable def y : Str := qk.2.2.2.2.2.2.2.2.1
noncomputable def px : Pos := qk.2.2.2.2.2.2.2.2.2.1
noncomputable def py : Pos := qk.2.2.2.2.2.2.2.2.2.2.1
noncomputable def pt : Pos := qk.2.2.2.2.2.2.2.2.2.2.2.1
noncomputable def k : Nat := qk.2.2.2.2.2.2.2.2.2.2.2.2.1
noncomputable def l1 : Addr := qk.2.2.2.2.2.2.2.2.2.2.2.2.2.2.2.1
noncomputable def l2 : Addr := qk.2.2.2.2.2.2.2.2.2.2.2.2.2.2.2.2.1
noncomputable def vs1 : List Value := qk.2.2.2.2.2.2.2.2.2.2.2.2.2.2.2.2.2.1
noncomputable def vs2 : List Value := qk.2.2.2.2.2.2.2.2.2.2.2.2.2.2.2.2.2.2.1
noncomputable def src1 : List (Addr × Obj) := qk.2.2.2.2.2.2.2.2.2.2.2.2.2.2.2.2.2.2.2.1
noncomputable def src2 : List (Addr × Obj) := qk.2.2.2.2.2.2.2.2.2.2.2.2.2.2.2.2.2.2.2.2.1
noncomputable def news : List (Addr × Obj) := qk.2.2.2.2.2.2.2.2.2.2.2.2.2.2.2.2.2.2.2.2.2.1
noncomputable def m : Str → Option Value := qk.2.2.2.2.2.2.2.2.2.2.2.2.2.2.2.2.2.2.2.2.2.2
theorem qA (h : qP prog w qk.2.2.1 env h₀ s qk.2.2.2.2.2.2.1 x y px py pt k qk.2.2.2.2.2.2.2.2.2.2.2.2.2.1 qk.2.2.2.2.2.2.2.2.2.2.2.2.2.2.1 l1 l2 vs1 vs2 src1 src2 news m) (prog : Program) (w : World) (A : Around) (env : Env) (h₀ : Heap) (s : Shared) (E : Value → Shared → Prop) (x : Str) (y : Str) (px : Pos) (py : Pos) (pt : Pos) (k : Nat) (body : List Stmt) (Q : Flow → Shared → Prop) (l1 : Addr) (l2 : Addr) (vs1 : List Value) (vs2 : List Value) (src1 : List (Addr × Obj)) (src2 : List (Addr × Obj)) (news : List (Addr × Obj)) (m : Str → Option Value) : qP prog w A env h₀ s E x y px py pt k body Q l1 l2 vs1 vs2 src1 src2 news m := (Classical.choice (drink qN fun v => qP v.1 v.2.1 v.2.2.1 v.2.2.2.1 v.2.2.2.2.1 v.2.2.2.2.2.1 v.2.2.2.2.2.2.1 v.2.2.2.2.2.2.2.1 v.2.2.2.2.2.2.2.2.1 v.2.2.2.2.2.2.2.2.2.1 v.2.2.2.2.2.2.2.2.2.2.1 v.2.2.2.2.2.2.2.2.2.2.2.1 v.2.2.2.2.2.2.2.2.2.2.2.2.1 v.2.2.2.2.2.2.2.2.2.2.2.2.2.1 v.2.2.2.2.2.2.2.2.2.2.2.2.2.2.1 v.2.2.2.2.2.2.2.2.2.2.2.2.2.2.2.1 v.2.2.2.2.2.2.2.2.2.2.2.2.2.2.2.2.1 v.2.2.2.2.2.2.2.2.2.2.2.2.2.2.2.2.2.1 v.2.2.2.2.2.2.2.2.2.2.2.2.2.2.2.2.2.2.1 v.2.2.2.2.2.2.2.2.2.2.2.2.2.2.2.2.2.2.2.1 v.2.2.2.2.2.2.2.2.2.2.2.2.2.2.2.2.2.2.2.2.1 v.2.2.2.2.2.2.2.2.2.2.2.2.2.2.2.2.2.2.2.2.2.1 v.2.2.2.2.2.2.2.2.2.2.2.2.2.2.2.2.2.2.2.2.2.2)).2 h (prog, w, A, env, h₀, s, E, x, y, px, py, pt, k, body, Q, l1, l2, vs1, vs2, src1, src2, news, m)
theorem qW : qP prog w qk.2.2.1 env h₀ s qk.2.2.2.2.2.2.1 x y px py pt k qk.2.2.2.2.2.2.2.2.2.2.2.2.2.1 qk.2.2.2.2.2.2.2.2.2.2.2.2.2.2.1 l1 l2 vs1 vs2 src1 src2 news m := by
  intro hh S1 S2 F N hx hy hp J hsrc h0 turn done
  have hs1 : ∀ p ∈ src1, p ∈ news := fun p hp => hsrc _ _ _ h0 p (List.mem_append_left _ hp)
  have hs2 : ∀ p ∈ src2, p ∈ news := fun p hp => hsrc _ _ _ h0 p (List.mem_append_right _ hp)
  have hl1 := S1.list F N hs1
  have hl2 := S2.list F N hs2
  have ht1 : @LT.lt Nat _ l1 s.heap.objs.size := by obtain ⟨_, e, _⟩ := hl1; exact Heap.lt_size e
  have ht2 : @LT.lt Nat _ l2 s.heap.objs.size := by obtain ⟨_, e, _⟩ := hl2; exact Heap.lt_size e
  refine call_zip_2 hl1 hl2 fun h₁ hz hTI hTO hi1 hi2 hsz hk₁ => wpAny_pyIter_zip hz ?_
  generalize hg : s.heap.objs.size = g at *
  have D : ZipApart (g + 4) (g + 2) (g + 3) g (g + 1) l1 l2 := by
    constructor <;> (show @Ne Nat _ _) <;> omega
  have W := WalksT.zip2 (prog := prog) (w := w) hh (g + 4) (g + 2) (g + 3) g (g + 1) l1 l2 D vs1.toArray vs2.toArray
  have Dd := (Dr.ofWalksT (env := env) (x := x) (y := y) (px := px) (py := py) (pt := pt) (k := k) (P2 := fun i v0 v1 => vs1[i]? = some v0 ∧ vs2[i]? = some v1) hh W (by
    rintro i vals ⟨a, b, ha, hb, rfl⟩
    exact ⟨_, _, rfl, by simpa using ha, by simpa using hb⟩) hx hy hp).more (wr' := [g + 4, g + 2, g + 3, g, g + 1]) (by intro b hb; simp at hb; rcases hb with rfl | rfl | rfl | rfl <;> simp) (by intro b hb; simp at hb; rcases hb with rfl | rfl | rfl | rfl | rfl <;> simp)
  have hLt := F.ns.lt
  rw [hg] at hLt
  have nf : ∀ a, g ≤ a → h₀.get? a = none := fun a ha => none_of_le₀ F (by rw [hg]; exact ha)
  refine ⟨_, _, _, _, _, m, news, src1 ++ src2, Dd, ?_, ?_, ?_, ?_, ⟨hz, hTI, ⟨_, _, hTO⟩, hi1, hi2, hl1.at fun o e => hk₁ _ o e, hl2.at fun o e => hk₁ _ o e⟩, ?_, F.keeps hk₁, N.grown hk₁, J, hsrc, h0, ?_, ?_⟩
  · intro hm
    have n1 := S1.ne F N hs1
    have n2 := S2.ne F N hs2
    simp only [List.mem_cons, List.not_mem_nil, or_false] at hm
    rcases hm with e | e | e | e | e | e | e
    · exact absurd hLt (by rw [e]; exact Nat.not_lt.mpr (Nat.le_add_right ..))
    · exact absurd hLt (by rw [e]; exact Nat.not_lt.mpr (Nat.le_add_right ..))
    · exact absurd hLt (by rw [e]; exact Nat.not_lt.mpr (Nat.le_add_right ..))
    · exact absurd hLt (by rw [e]; exact Nat.lt_irrefl _)
    · exact absurd hLt (by rw [e]; exact Nat.not_lt.mpr (Nat.le_add_right ..))
    · exact n1 e
    · exact n2 e
  · intro b hb
    simp only [List.mem_cons, List.not_mem_nil, or_false] at hb
    rcases hb with rfl | rfl | rfl | rfl | rfl
    · exact nf _ (Nat.le_add_right ..)
    · exact nf _ (Nat.le_add_right ..)
    · exact nf _ (Nat.le_add_right ..)
    · exact nf _ (Nat.le_refl _)
    · exact nf _ (Nat.le_add_right ..)
  · rintro i h ⟨a1, a2, ⟨_, _, a3⟩, ⟨o1, a4, _⟩, ⟨o2, a5, _⟩, _, _⟩ b hb
    simp only [List.mem_cons, List.not_mem_nil, or_false] at hb
    rcases hb with rfl | rfl | rfl | rfl | rfl
    · exact ⟨_, a1⟩
    · exact ⟨_, a2⟩
    · exact ⟨_, a3⟩
    · exact ⟨_, a4⟩
    · exact ⟨_, a5⟩
  · intro p hp' hI
    have hl' := Heap.lt_size (N p hp').1
    rw [hg] at hl'
    simp only [List.mem_cons, List.not_mem_nil, or_false] at hI
    rcases hI with e | e | e | e | e
    · exact absurd hl' (by rw [e]; exact Nat.not_lt.mpr (Nat.le_add_right ..))
    · exact absurd hl' (by rw [e]; exact Nat.not_lt.mpr (Nat.le_add_right ..))
    · exact absurd hl' (by rw [e]; exact Nat.not_lt.mpr (Nat.le_add_right ..))
    · exact absurd hl' (by rw [e]; exact Nat.lt_irrefl _)
    · exact absurd hl' (by rw [e]; exact Nat.not_lt.mpr (Nat.le_add_right ..))
  · intro b hb
    simp only [List.mem_cons, List.not_mem_nil, or_false] at hb
    rcases hb with rfl | rfl | rfl | rfl | rfl | rfl | rfl
    · exact .inl (by simp)
    · exact .inl (by simp)
    · exact .inl (by simp)
    · exact .inl (by simp)
    · exact .inl (by simp)
    · exact .inr (S1.fp.imp id fun ⟨o, h⟩ => ⟨o, List.mem_append_left _ h⟩)
    · exact .inr (S2.fp.imp id fun ⟨o, h⟩ => ⟨o, List.mem_append_right _ h⟩)
  · rintro i m₁ m₂ news₁ h tk own hi hJ ⟨v0, v1, ⟨hv0, hv1⟩, rfl⟩ F₁ N₁ sep
    exact turn i v0 v1 m₁ news₁ h tk own hv0 hv1 hJ F₁ N₁ sep
  · intro m₁ news₁ h tk hJ F₁ N₁
    exact done m₁ news₁ h tk (by simpa using hJ) F₁ N₁
end KZ
end
section
variable {prog : Program} {w : World} {A : Around} {env : Env} {h₀ : Heap} {s : Shared} {E : Value → Shared → Prop}
theorem forZ {x y : Str} {px py pt : Pos} {k : Nat} {body : List Stmt} {Q : Flow → Shared → Prop} {l1 l2 : Addr} {vs1 vs2 : List Value} {src1 src2 news : List (Addr × Obj)} {m : Str → Option Value} (hh : A.handled = none)
    (S1 : SrcL h₀ l1 vs1.toArray src1) (S2 : SrcL h₀ l2 vs2.toArray src2) (F : Fr h₀ env.locals s.heap m) (N : News h₀ env.locals s.heap news) (hx : env.kindOf x = some .local) (hy : env.kindOf y = some .local) (hp : (env.scope.kind == .class || (env.scope.kind == .module && env.locals != env.globals)) = false)
    (J : Nat → (Str → Option Value) → List (Addr × Obj) → Prop) (hsrc : ∀ i m' news', J i m' news' → ∀ p ∈ src1 ++ src2, p ∈ news') (h0 : J 0 m news)
    (turn : ∀ i v1 v2 m₁ news₁ h tk own, vs1[i]? = some v1 → vs2[i]? = some v2 → J i m₁ news₁ → Fr h₀ env.locals h (fun z => if z = y then some v2 else if z = x then some v1 else m₁ z) → News h₀ env.locals h (news₁ ++ own) → (∀ p ∈ news₁, ∀ q ∈ own, p.1 ≠ q.1) →
      wpAny (model prog w) A (execs body env) (TEnd h₀ env.locals own { s with heap := h, toks := tk } (J (i + 1)) Q) (fun _ _ => False) { s with heap := h, toks := tk })
    (done : ∀ m₁ news₁ h tk, J (min vs1.length vs2.length) m₁ news₁ → Fr h₀ env.locals h m₁ → News h₀ env.locals h news₁ → Q .next { s with heap := h, toks := tk }) :
    wpAny (model prog w) A (call (.type "zip") [.ref l1, .ref l2]) (fun xv s₁ => wpAny (model prog w) A (pyIter xv) (ForAt prog w A h₀ env (.Tuple [.Name x px, .Name y py] k pt) body Q) E s₁) E s := by
  exact KZ.qA KZ.qW prog w A env h₀ s E x y px py pt k body Q l1 l2 vs1 vs2 src1 src2 news m hh S1 S2 F N hx hy hp J hsrc h0 turn done
end
section
variable {prog : Program} {w : World} {A : Around} {env : Env} {h₀ : Heap} {s : Shared} {E : Value → Shared → Prop}
theorem SrcL.led {l : Addr} {its : Array Value} {n : Nat} : SrcL h₀ l its [(l, listOf its n)] := .inr ⟨n, rfl⟩
theorem SrcL.old {l : Addr} {its : Array Value} (h : h₀.IsList l its) : SrcL h₀ l its [] := .inl ⟨h, rfl⟩

theorem forP_m {x y : Str} {px py pt : Pos} {k : Nat} {body : List Stmt} {Q : Flow → Shared → Prop} {l : Addr} {vs : List Value} {ps : List (Int × Int)} {news : List (Addr × Obj)} {m : Str → Option Value} (hh : A.handled = none)
    (hl : h₀.IsList l vs.toArray) (W : WordsAt h₀ vs ps) (F : Fr h₀ env.locals s.heap m) (N : News h₀ env.locals s.heap news) (hx : env.kindOf x = some .local) (hy : env.kindOf y = some .local) (hp : (env.scope.kind == .class || (env.scope.kind == .module && env.locals != env.globals)) = false)
    (JM : Nat → (Str → Option Value) → Prop) (h0 : JM 0 m)
    (turn : ∀ i a b ta tb m₁ h tk own, ps[i]? = some (a, b) → JM i m₁ → Fr h₀ env.locals h (fun z => if z = y then some (.int b tb) else if z = x then some (.int a ta) else m₁ z) → News h₀ env.locals h (news ++ own) → (∀ p ∈ news, ∀ q ∈ own, p.1 ≠ q.1) →
      wpAny (model prog w) A (execs body env) (TEnd h₀ env.locals own { s with heap := h, toks := tk } (fun m' news' => news' = news ∧ JM (i + 1) m') Q) (fun _ _ => False) { s with heap := h, toks := tk })
    (done : ∀ m₁ h tk, JM ps.length m₁ → Fr h₀ env.locals h m₁ → News h₀ env.locals h news → Q .next { s with heap := h, toks := tk }) :
    wpAny (model prog w) A (pyIter (.ref l)) (ForAt prog w A h₀ env (.Tuple [.Name x px, .Name y py] k pt) body Q) E s := by
  have hl' : s.heap.IsList l vs.toArray := hl.at fun o e => F.keep l o e
  have W' := W.keeps F.keep
  obtain ⟨Ts, va, vb, HT⟩ := W.fns
  have lt₀ : ∀ {b o}, h₀.get? b = some o → @LT.lt Nat _ b s.heap.objs.size := fun e => Heap.lt_size (F.keep _ _ e)
  obtain ⟨ol, hol, _⟩ := id hl
  have e : vs.toArray.size = vs.length := List.size_toArray ..
  have hLlt := F.ns.lt
  have hL₀ : ∀ b o, h₀.get? b = some o → env.locals ≠ b := fun b o h q => absurd (Nat.lt_of_lt_of_le (Heap.lt_size h) F.above) (q ▸ Nat.lt_irrefl _)
  have tup : ∀ j, j < vs.toArray.size → ∃ o, h₀.get? (Ts j) = some o := fun j hj => by obtain ⟨o, x, _⟩ := (HT j (e ▸ hj)).1.2; exact ⟨o, x⟩
  refine wpAny_pyIter_list hl' ?_
  have Wk := WalksU.listOfTuples (prog := prog) (w := w) hh s.heap.objs.size l (Nat.ne_of_lt (lt₀ hol)) vs.toArray Ts (fun j => #[va j, vb j]) (fun j hj => by simpa using (HT j (e ▸ hj)).1.1) (fun j hj => by obtain ⟨o, x⟩ := tup j hj; exact Nat.ne_of_lt (lt₀ x))
  refine ⟨_, _, _, _, _, m, news, [], Dr.ofWalksU (P2 := fun i v0 v1 => v0 = va i ∧ v1 = vb i) hh Wk.bound ?_ hx hy hp, ?_, ?_, ?_, ?_, ⟨⟨_, Heap.get?_push_size _ rfl, rfl, rfl⟩, hl'.push _, fun k hk => (HT k (e ▸ hk)).1.2.at fun o e => Heap.get?_push_of_some _ (F.keep _ _ e)⟩, ?_, F.push _, N.grown fun b o e => Heap.get?_push_of_some _ e,
    (fun i m' news' => news' = news ∧ JM i m'), (fun _ _ _ _ p hp => nomatch hp), ⟨rfl, h0⟩, ?_, ?_⟩
  · rintro i vals ⟨_, rfl⟩
    exact ⟨_, _, rfl, rfl, rfl⟩
  · intro hm
    rcases List.mem_cons.mp hm with q | hm
    · exact absurd hLlt (by rw [q]; exact Nat.lt_irrefl _)
    rcases List.mem_cons.mp hm with q | hm
    · exact hL₀ _ _ hol q
    · obtain ⟨j, hj, q⟩ := List.mem_map.mp hm
      obtain ⟨o, x⟩ := tup j (List.mem_range.mp hj)
      exact hL₀ _ _ x q.symm
  · intro b hb
    rw [List.mem_singleton.mp hb]
    exact none_of_le₀ F (Nat.le_refl _)
  · intro i h st b hb
    rw [List.mem_singleton.mp hb]
    obtain ⟨o, e, _⟩ := st.1
    exact ⟨o, e⟩
  · intro p hp' hI
    exact absurd (Heap.lt_size (N p hp').1) ((List.mem_singleton.mp hI) ▸ Nat.lt_irrefl _)
  · intro b hb
    rcases List.mem_cons.mp hb with q | hb
    · exact .inl (by rw [q]; exact .head _)
    rcases List.mem_cons.mp hb with q | hb
    · rw [q]; exact .inr (.inl ⟨_, hol⟩)
    · obtain ⟨j, hj, q⟩ := List.mem_map.mp hb
      rw [← q]
      exact .inr (.inl (tup j (List.mem_range.mp hj)))
  · rintro i m₁ m₂ news₁ h tk own hi ⟨rfl, hJ⟩ ⟨v0, v1, ⟨rfl, rfl⟩, rfl⟩ F₁ N₁ sep
    obtain ⟨_, a, b, ta, tb, hp1, hva, hvb⟩ := HT i (e ▸ hi)
    rw [hva, hvb] at F₁
    exact turn i a b ta tb m₁ h tk own hp1 hJ F₁ N₁ sep
  · rintro m₁ news₁ h tk ⟨rfl, hJ⟩ F₁ N₁
    rw [e, W.length] at hJ
    exact done m₁ h tk hJ F₁ N₁

/-- a turn's end where the ledger stays -/
abbrev TEndM (h₀ : Heap) (L : Addr) (own news : List (Addr × Obj)) (s₁ : Shared) (JM : (Str → Option Value) → Prop) (Q : Flow → Shared → Prop) : Flow → Shared → Prop :=
  TEnd h₀ L own s₁ (fun m' news' => news' = news ∧ JM m') Q
theorem TEndM.next {h₀ h' : Heap} {L : Addr} {own news all : List (Addr × Obj)} {s₁ : Shared} {tk : Nat} {m' : Str → Option Value} {JM : (Str → Option Value) → Prop} {Q : Flow → Shared → Prop} (F : Fr h₀ L h' m') (N : News h₀ L h' all) (sep : ∀ p ∈ news, ∀ q ∈ own, p.1 ≠ q.1) (j : JM m')
    (sub : ∀ p ∈ news ++ own, p ∈ all) : TEndM h₀ L own news s₁ JM Q .next { s₁ with heap := h', toks := tk } := ⟨h', tk, m', news, rfl, F, fun p hp => N p (sub p hp), sep, rfl, j⟩

theorem forL_m {x : Str} {px : Pos} {body : List Stmt} {Q : Flow → Shared → Prop} {l : Addr} {vs : List Value} {src news : List (Addr × Obj)} {m : Str → Option Value} (hh : A.handled = none)
    (S : SrcL h₀ l vs.toArray src) (F : Fr h₀ env.locals s.heap m) (N : News h₀ env.locals s.heap news) (hsrc : ∀ p ∈ src, p ∈ news) (hx : env.kindOf x = some .local) (hp : (env.scope.kind == .class || (env.scope.kind == .module && env.locals != env.globals)) = false)
    (JM : Nat → (Str → Option Value) → Prop) (h0 : JM 0 m)
    (turn : ∀ i v m₁ h tk own, vs[i]? = some v → JM i m₁ → Fr h₀ env.locals h (fun y => if y = x then some v else m₁ y) → News h₀ env.locals h (news ++ own) → (∀ p ∈ news, ∀ q ∈ own, p.1 ≠ q.1) →
      wpAny (model prog w) A (execs body env) (TEndM h₀ env.locals own news { s with heap := h, toks := tk } (JM (i + 1)) Q) (fun _ _ => False) { s with heap := h, toks := tk })
    (done : ∀ m₁ h tk, JM vs.length m₁ → Fr h₀ env.locals h m₁ → News h₀ env.locals h news → Q .next { s with heap := h, toks := tk }) :
    wpAny (model prog w) A (pyIter (.ref l)) (ForAt prog w A h₀ env (.Name x px) body Q) E s :=
  forL hh S F N hx hp (fun i m' news' => news' = news ∧ JM i m') (fun _ _ _ h => h.1 ▸ hsrc) ⟨rfl, h0⟩ (fun i v m₁ news₁ h tk own hv ⟨e, hJ⟩ F₁ N₁ sep => by subst e; exact turn i v m₁ h tk own hv hJ F₁ N₁ sep) fun m₁ news₁ h tk ⟨e, hJ⟩ F₁ N₁ => by subst e; exact done m₁ h tk hJ F₁ N₁

theorem forE_m {x y : Str} {px py pt : Pos} {k : Nat} {body : List Stmt} {Q : Flow → Shared → Prop} {l : Addr} {vs : List Value} {src news : List (Addr × Obj)} {m : Str → Option Value} (hh : A.handled = none)
    (S : SrcL h₀ l vs.toArray src) (F : Fr h₀ env.locals s.heap m) (N : News h₀ env.locals s.heap news) (hsrc : ∀ p ∈ src, p ∈ news) (hx : env.kindOf x = some .local) (hy : env.kindOf y = some .local) (hp : (env.scope.kind == .class || (env.scope.kind == .module && env.locals != env.globals)) = false)
    (JM : Nat → (Str → Option Value) → Prop) (h0 : JM 0 m)
    (turn : ∀ i v t m₁ h tk own, vs[i]? = some v → JM i m₁ → Fr h₀ env.locals h (fun z => if z = y then some v else if z = x then some (.int (i : Nat) t) else m₁ z) → News h₀ env.locals h (news ++ own) → (∀ p ∈ news, ∀ q ∈ own, p.1 ≠ q.1) →
      wpAny (model prog w) A (execs body env) (TEndM h₀ env.locals own news { s with heap := h, toks := tk } (JM (i + 1)) Q) (fun _ _ => False) { s with heap := h, toks := tk })
    (done : ∀ m₁ h tk, JM vs.length m₁ → Fr h₀ env.locals h m₁ → News h₀ env.locals h news → Q .next { s with heap := h, toks := tk }) :
    wpAny (model prog w) A (call (.type "enumerate") [.ref l]) (fun xv s₁ => wpAny (model prog w) A (pyIter xv) (ForAt prog w A h₀ env (.Tuple [.Name x px, .Name y py] k pt) body Q) E s₁) E s :=
  forE hh S F N hx hy hp (fun i m' news' => news' = news ∧ JM i m') (fun _ _ _ h => h.1 ▸ hsrc) ⟨rfl, h0⟩ (fun i v t m₁ news₁ h tk own hv ⟨e, hJ⟩ F₁ N₁ sep => by subst e; exact turn i v t m₁ h tk own hv hJ F₁ N₁ sep) fun m₁ news₁ h tk ⟨e, hJ⟩ F₁ N₁ => by subst e; exact done m₁ h tk hJ F₁ N₁
/-- a turn's end where one object of the ledger changes -/
abbrev TEndO (h₀ : Heap) (L : Addr) (own pre post : List (Addr × Obj)) (D : Addr) (s₁ : Shared) (JO : (Str → Option Value) → Obj → Prop) (Q : Flow → Shared → Prop) : Flow → Shared → Prop :=
  TEnd h₀ L own s₁ (fun m' news' => ∃ o, news' = pre ++ (D, o) :: post ∧ JO m' o) Q
theorem TEndO.next {h₀ h' : Heap} {L D : Addr} {o' : Obj} {own pre post all : List (Addr × Obj)} {s₁ : Shared} {tk : Nat} {m' : Str → Option Value} {JO : (Str → Option Value) → Obj → Prop} {Q : Flow → Shared → Prop} (F : Fr h₀ L h' m') (N : News h₀ L h' all)
    (sep : ∀ o, ∀ p ∈ pre ++ (D, o) :: post, ∀ q ∈ own, p.1 ≠ q.1) (sub : ∀ p ∈ pre ++ (D, o') :: post ++ own, p ∈ all) (j : JO m' o') :
    TEndO h₀ L own pre post D s₁ JO Q .next { s₁ with heap := h', toks := tk } := ⟨h', tk, m', pre ++ (D, o') :: post, rfl, F, fun p hp => N p (sub p hp), sep o', o', rfl, j⟩
theorem sep_o {pre post own : List (Addr × Obj)} {D : Addr} {o : Obj} (sep : ∀ p ∈ pre ++ (D, o) :: post, ∀ q ∈ own, p.1 ≠ q.1) : (∀ o, ∀ p ∈ pre ++ (D, o) :: post, ∀ q ∈ own, p.1 ≠ q.1) ∧ ∀ q ∈ own, q.1 ≠ D := by
  refine ⟨fun o' p hp q hq => ?_, fun q hq e => sep (D, o) (by simp) q hq e.symm⟩
  rcases List.mem_append.mp hp with h | h
  · exact sep p (List.mem_append_left _ h) q hq
  · rcases List.mem_cons.mp h with rfl | h
    · exact sep (D, o) (by simp) q hq
    · exact sep p (List.mem_append_right _ (.tail _ h)) q hq

theorem forE_o {x y : Str} {px py pt : Pos} {k : Nat} {body : List Stmt} {Q : Flow → Shared → Prop} {l D : Addr} {o : Obj} {vs : List Value} {src : List (Addr × Obj)} (pre : List (Addr × Obj)) {post : List (Addr × Obj)} {m : Str → Option Value} (hh : A.handled = none)
    (S : SrcL h₀ l vs.toArray src) (F : Fr h₀ env.locals s.heap m) (N : News h₀ env.locals s.heap (pre ++ (D, o) :: post)) (hsrc : ∀ p ∈ src, p ∈ pre ++ post) (hx : env.kindOf x = some .local) (hy : env.kindOf y = some .local) (hp : (env.scope.kind == .class || (env.scope.kind == .module && env.locals != env.globals)) = false)
    (JO : Addr → Nat → (Str → Option Value) → Obj → Prop) (h0 : JO D 0 m o)
    (turn : ∀ i v t m₁ o₁ h tk own, vs[i]? = some v → JO D i m₁ o₁ → Fr h₀ env.locals h (fun z => if z = y then some v else if z = x then some (.int (i : Nat) t) else m₁ z) → News h₀ env.locals h (pre ++ (D, o₁) :: post ++ own) → (∀ o, ∀ p ∈ pre ++ (D, o) :: post, ∀ q ∈ own, p.1 ≠ q.1) → (∀ q ∈ own, q.1 ≠ D) →
      wpAny (model prog w) A (execs body env) (TEndO h₀ env.locals own pre post D { s with heap := h, toks := tk } (JO D (i + 1)) Q) (fun _ _ => False) { s with heap := h, toks := tk })
    (done : ∀ m₁ o₁ h tk, JO D vs.length m₁ o₁ → Fr h₀ env.locals h m₁ → News h₀ env.locals h (pre ++ (D, o₁) :: post) → Q .next { s with heap := h, toks := tk }) :
    wpAny (model prog w) A (call (.type "enumerate") [.ref l]) (fun xv s₁ => wpAny (model prog w) A (pyIter xv) (ForAt prog w A h₀ env (.Tuple [.Name x px, .Name y py] k pt) body Q) E s₁) E s :=
  forE hh S F N hx hy hp (fun i m' news' => ∃ o, news' = pre ++ (D, o) :: post ∧ JO D i m' o) (fun _ _ _ ⟨o, e, _⟩ p hp => by
      subst e
      rcases List.mem_append.mp (hsrc p hp) with h | h
      · exact List.mem_append_left _ h
      · exact List.mem_append_right _ (.tail _ h)) ⟨o, rfl, h0⟩
    (fun i v t m₁ news₁ h tk own hv ⟨o₁, e, hJ⟩ F₁ N₁ sep => by subst e; exact turn i v t m₁ o₁ h tk own hv hJ F₁ N₁ (sep_o sep).1 (sep_o sep).2) fun m₁ news₁ h tk ⟨o₁, e, hJ⟩ F₁ N₁ => by subst e; exact done m₁ o₁ h tk hJ F₁ N₁

theorem forL_o {x : Str} {px : Pos} {body : List Stmt} {Q : Flow → Shared → Prop} {l D : Addr} {o : Obj} {vs : List Value} {src : List (Addr × Obj)} (pre : List (Addr × Obj)) {post : List (Addr × Obj)} {m : Str → Option Value} (hh : A.handled = none)
    (S : SrcL h₀ l vs.toArray src) (F : Fr h₀ env.locals s.heap m) (N : News h₀ env.locals s.heap (pre ++ (D, o) :: post)) (hsrc : ∀ p ∈ src, p ∈ pre ++ post) (hx : env.kindOf x = some .local) (hp : (env.scope.kind == .class || (env.scope.kind == .module && env.locals != env.globals)) = false)
    (JO : Addr → Nat → (Str → Option Value) → Obj → Prop) (h0 : JO D 0 m o)
    (turn : ∀ i v m₁ o₁ h tk own, vs[i]? = some v → JO D i m₁ o₁ → Fr h₀ env.locals h (fun y => if y = x then some v else m₁ y) → News h₀ env.locals h (pre ++ (D, o₁) :: post ++ own) → (∀ o, ∀ p ∈ pre ++ (D, o) :: post, ∀ q ∈ own, p.1 ≠ q.1) → (∀ q ∈ own, q.1 ≠ D) →
      wpAny (model prog w) A (execs body env) (TEndO h₀ env.locals own pre post D { s with heap := h, toks := tk } (JO D (i + 1)) Q) (fun _ _ => False) { s with heap := h, toks := tk })
    (done : ∀ m₁ o₁ h tk, JO D vs.length m₁ o₁ → Fr h₀ env.locals h m₁ → News h₀ env.locals h (pre ++ (D, o₁) :: post) → Q .next { s with heap := h, toks := tk }) :
    wpAny (model prog w) A (pyIter (.ref l)) (ForAt prog w A h₀ env (.Name x px) body Q) E s :=
  forL hh S F N hx hp (fun i m' news' => ∃ o, news' = pre ++ (D, o) :: post ∧ JO D i m' o) (fun _ _ _ ⟨o, e, _⟩ p hp => by
      subst e
      rcases List.mem_append.mp (hsrc p hp) with h | h
      · exact List.mem_append_left _ h
      · exact List.mem_append_right _ (.tail _ h)) ⟨o, rfl, h0⟩
    (fun i v m₁ news₁ h tk own hv ⟨o₁, e, hJ⟩ F₁ N₁ sep => by subst e; exact turn i v m₁ o₁ h tk own hv hJ F₁ N₁ (sep_o sep).1 (sep_o sep).2) fun m₁ news₁ h tk ⟨o₁, e, hJ⟩ F₁ N₁ => by subst e; exact done m₁ o₁ h tk hJ F₁ N₁
end

section
variable {prog : Program} {w : World} {A : Around} {env : Env} {s₀ s : Shared} {E : Value → Shared → Prop}

/-- the comprehension's start and where it stands -/
abbrev Up (s₀ s : Shared) : Prop := ∃ h tk, s = { s₀ with heap := h, toks := tk } ∧ Kp s₀.heap h ∧ s₀.heap.objs.size ≤ h.objs.size
theorem Up.then {s₀ s : Shared} (U : Up s₀ s) {h : Heap} {tk : Nat} (k : Kp s.heap h) (hz : s.heap.objs.size ≤ h.objs.size) : Up s₀ { s with heap := h, toks := tk } := by
  obtain ⟨h1, tk1, rfl, k1, z1⟩ := U
  exact ⟨h, tk, rfl, k1.trans k, Nat.le_trans z1 hz⟩
theorem Up.fresh {s₀ s : Shared} (U : Up s₀ s) {a : Addr} (ha : s.heap.objs.size ≤ a) : s₀.heap.get? a = none := by
  obtain ⟨h1, tk1, rfl, k1, z1⟩ := U
  exact none_of_le (Nat.le_trans z1 ha)

/-- the elements of a comprehension over a source whose turn binds by B -/
def Elts (prog : Program) (w : World) (A : Around) (s : Shared) (env : Env) (elt : Expr) (ifs : List Expr) (scope : Scope) (cl : List (Str × Addr)) (n : Nat) (B : Nat → (Str → Option Value) → (Str → Option Value) → Prop) (J : Nat → List Value → Prop) : Prop :=
  ∀ C i m₁ m₂ ys h tk, i < n → J i ys → B i m₁ m₂ → Fr s.heap C h m₂ →
    wpAny (model prog w) A (forIn ifs true fun c r => if r = true then do let ok ← isTrue c (compEnvC scope cl C env) (eval c (compEnvC scope cl C env)); pure (ForInStep.yield ok) else pure (ForInStep.yield r)) (fun ok s₄ =>
      if ok = true then wpAny (model prog w) A (eval elt (compEnvC scope cl C env)) (fun y s₅ => Keeps { s with heap := h, toks := tk } s₅ ∧ J (i + 1) (ys ++ [y])) (fun _ _ => False) s₄
      else Keeps { s with heap := h, toks := tk } s₄ ∧ J (i + 1) ys) (fun _ _ => False) { s with heap := h, toks := tk }
def CEnd (s : Shared) (n : Nat) (J : Nat → List Value → Prop) (Q : Value → Shared → Prop) : Prop :=
  ∀ D h tk ys, J n ys → Kp s.heap h → s.heap.objs.size ≤ D → h.get? D = some (LCg.lst ys) → Q (.ref D) { s with heap := h, toks := tk }

theorem compL {elt : Expr} {ifs : List Expr} {scope : Scope} {cl : List (Str × Addr)} {Q : Value → Shared → Prop} {x : Str} {px : Pos} {l : Addr} {vs : List Value} (hh : A.handled = none) (U : Up s₀ s) (hl : s.heap.IsList l vs.toArray)
    (hx : scope.names.lookup x = some .local) (hkind : scope.kind = .function) (hz : vs.length ≤ sizeLine) (J : Nat → List Value → Prop) (h0 : J 0 [])
    (el : Elts prog w A s₀ env elt ifs scope cl vs.length (fun i m m' => ∃ v, vs[i]? = some v ∧ m' = fun y => if y = x then some v else m y) J) (en : CEnd s₀ vs.length J Q) :
    wpAny (model prog w) A (pyIter (.ref l)) (CompAt prog w A s₀ env elt (.Name x px) ifs scope cl Q) E s := by
  have hlt : l < s.heap.objs.size := by obtain ⟨_, e, _⟩ := hl; exact Heap.lt_size e
  refine wpAny_pyIter_list hl ?_
  have e : vs.toArray.size = vs.length := List.size_toArray ..
  refine ⟨_, _, vs.toArray.size, _, _, fun C => Dr.ofWalks (Walks.list hh s.heap.objs.size l (Nat.ne_of_lt hlt) vs.toArray) (lookup_relabel_local hx) (by simp [compEnvC, relabel, hkind]), ⟨⟨_, Heap.get?_push_size _ rfl, rfl, rfl⟩, hl.push _⟩, ?_, ?_,
    U.then (tk := s.toks) (fun b o e => Heap.get?_push_of_some _ e) (by rw [Heap.size_push]; exact Nat.le_succ _), by rw [e]; exact hz, J, h0, ?_, ?_⟩
  · intro b hb
    rw [Heap.size_push]
    simp only [List.mem_cons, List.not_mem_nil, or_false] at hb
    rcases hb with rfl | rfl
    · exact Nat.lt_succ_self _
    · exact Nat.lt_succ_of_lt hlt
  · intro b hb
    rw [List.mem_singleton.mp hb]
    exact U.fresh (Nat.le_refl _)
  · rintro C i m₁ m₂ ys h tk hi hJ ⟨v, hv, rfl⟩ F
    exact el C i m₁ _ ys h tk (e ▸ hi) hJ ⟨v, by simpa using hv, rfl⟩ F
  · rw [e]; exact en

theorem compE {elt : Expr} {ifs : List Expr} {scope : Scope} {cl : List (Str × Addr)} {Q : Value → Shared → Prop} {x y : Str} {px py pt : Pos} {k : Nat} {l : Addr} {vs : List Value} (hh : A.handled = none) (U : Up s₀ s) (hl : s.heap.IsList l vs.toArray)
    (hx : scope.names.lookup x = some .local) (hy : scope.names.lookup y = some .local) (hkind : scope.kind = .function) (hz : vs.length ≤ sizeLine) (J : Nat → List Value → Prop) (h0 : J 0 [])
    (el : Elts prog w A s₀ env elt ifs scope cl vs.length (fun i m m' => ∃ v t, vs[i]? = some v ∧ m' = fun z => if z = y then some v else if z = x then some (.int (i : Nat) t) else m z) J) (en : CEnd s₀ vs.length J Q) :
    wpAny (model prog w) A (call (.type "enumerate") [.ref l]) (fun xv s₁ => wpAny (model prog w) A (pyIter xv) (CompAt prog w A s₀ env elt (.Tuple [.Name x px, .Name y py] k pt) ifs scope cl Q) E s₁) E s := by
  have hlt : l < s.heap.objs.size := by obtain ⟨_, e, _⟩ := hl; exact Heap.lt_size e
  refine call_enumerate_list hl fun h₁ he hit hz₁ hk₁ => wpAny_pyIter_enum he ?_
  have e : vs.toArray.size = vs.length := List.size_toArray ..
  have W := WalksT.enumerate (prog := prog) (w := w) hh (s.heap.objs.size + 1) s.heap.objs.size l (Nat.succ_ne_self _) (Nat.ne_of_lt (Nat.lt_succ_of_lt hlt)) (Nat.ne_of_lt hlt) vs.toArray
  refine ⟨_, _, vs.toArray.size, _, _, fun C => Dr.ofWalksT (P2 := fun i v0 v1 => vs[i]? = some v1 ∧ ∃ t, v0 = .int (i : Nat) t) hh W ?_ (lookup_relabel_local hx) (lookup_relabel_local hy) (by simp [compEnvC, relabel, hkind]), ⟨⟨_, he⟩, hit, hl.at fun o e => hk₁ _ o e⟩, ?_, ?_,
    U.then (tk := s.toks) hk₁ (by rw [hz₁]; exact Nat.le_add_right ..), by rw [e]; exact hz, J, h0, ?_, ?_⟩
  · rintro i vals ⟨t, v, hv, rfl⟩
    exact ⟨_, _, rfl, by simpa using hv, t, rfl⟩
  · intro b hb
    show b < h₁.objs.size
    rw [hz₁]
    simp only [List.mem_cons, List.not_mem_nil, or_false] at hb
    rcases hb with rfl | rfl | rfl
    · exact Nat.lt_succ_self _
    · exact Nat.lt_succ_of_lt (Nat.lt_succ_self _)
    · exact Nat.lt_succ_of_lt (Nat.lt_succ_of_lt hlt)
  · intro b hb
    simp only [List.mem_cons, List.not_mem_nil, or_false] at hb
    rcases hb with rfl | rfl
    · exact U.fresh (Nat.le_succ _)
    · exact U.fresh (Nat.le_refl _)
  · rintro C i m₁ m₂ ys h tk hi hJ ⟨v0, v1, ⟨hv, t, rfl⟩, rfl⟩ F
    exact el C i m₁ _ ys h tk (e ▸ hi) hJ ⟨v1, t, hv, rfl⟩ F
  · rw [e]; exact en

theorem compP {elt : Expr} {ifs : List Expr} {scope : Scope} {cl : List (Str × Addr)} {Q : Value → Shared → Prop} {x y : Str} {px py pt : Pos} {k : Nat} {l : Addr} {vs : List Value} (Ts : Nat → Addr) (va vb : Nat → Value) (hh : A.handled = none) (U : Up s₀ s) (hl : s.heap.IsList l vs.toArray)
    (hT : ∀ j, j < vs.length → vs[j]? = some (.ref (Ts j)) ∧ s.heap.IsTuple (Ts j) #[va j, vb j])
    (hx : scope.names.lookup x = some .local) (hy : scope.names.lookup y = some .local) (hkind : scope.kind = .function) (hz : vs.length ≤ sizeLine) (J : Nat → List Value → Prop) (h0 : J 0 [])
    (el : Elts prog w A s₀ env elt ifs scope cl vs.length (fun i m m' => m' = fun z => if z = y then some (vb i) else if z = x then some (va i) else m z) J) (en : CEnd s₀ vs.length J Q) :
    wpAny (model prog w) A (pyIter (.ref l)) (CompAt prog w A s₀ env elt (.Tuple [.Name x px, .Name y py] k pt) ifs scope cl Q) E s := by
  have hlt : l < s.heap.objs.size := by obtain ⟨_, e, _⟩ := hl; exact Heap.lt_size e
  refine wpAny_pyIter_list hl ?_
  have e : vs.toArray.size = vs.length := List.size_toArray ..
  have lt : ∀ j, j < vs.toArray.size → Ts j < s.heap.objs.size := fun j hj => by obtain ⟨_, x, _⟩ := (hT j (e ▸ hj)).2; exact Heap.lt_size x
  have W := WalksU.listOfTuples (prog := prog) (w := w) hh s.heap.objs.size l (Nat.ne_of_lt hlt) vs.toArray Ts (fun j => #[va j, vb j]) (fun j hj => by simpa using (hT j (e ▸ hj)).1) (fun j hj => Nat.ne_of_lt (lt j hj))
  refine ⟨_, _, vs.toArray.size, _, _, fun C => Dr.ofWalksU (P2 := fun i v0 v1 => v0 = va i ∧ v1 = vb i) hh W ?_ (lookup_relabel_local hx) (lookup_relabel_local hy) (by simp [compEnvC, relabel, hkind]),
    ⟨⟨_, Heap.get?_push_size _ rfl, rfl, rfl⟩, hl.push _, fun k hk => (hT k (e ▸ hk)).2.at fun o e => Heap.get?_push_of_some _ e⟩, ?_, ?_,
    U.then (tk := s.toks) (fun b o e => Heap.get?_push_of_some _ e) (by rw [Heap.size_push]; exact Nat.le_succ _), by rw [e]; exact hz, J, h0, ?_, ?_⟩
  · rintro i vals rfl
    exact ⟨_, _, rfl, rfl, rfl⟩
  · intro b hb
    rw [Heap.size_push]
    rcases List.mem_cons.mp hb with rfl | hb
    · exact Nat.lt_succ_self _
    rcases List.mem_cons.mp hb with rfl | hb
    · exact Nat.lt_succ_of_lt hlt
    · obtain ⟨j, hj, rfl⟩ := List.mem_map.mp hb
      exact Nat.lt_succ_of_lt (lt j (List.mem_range.mp hj))
  · intro b hb
    rw [List.mem_singleton.mp hb]
    exact U.fresh (Nat.le_refl _)
  · rintro C i m₁ m₂ ys h tk hi hJ ⟨v0, v1, ⟨rfl, rfl⟩, rfl⟩ F
    exact el C i m₁ _ ys h tk (e ▸ hi) hJ rfl F
  · rw [e]; exact en
end

theorem led_new {h₀ h h' : Heap} {L D : Addr} {m : Str → Option Value} {news : List (Addr × Obj)} {o : Obj} (F : Fr h₀ L h m) (N : News h₀ L h news) (k : Kp h h') (hz : h.objs.size ≤ D) (e : h'.get? D = some o) :
    Fr h₀ L h' m ∧ News h₀ L h' ((D, o) :: news) ∧ ∀ p ∈ news, p.1 < D := by
  refine ⟨F.keeps k, fun p hp => ?_, fun p hp => Nat.lt_of_lt_of_le (Heap.lt_size (N p hp).1) hz⟩
  rcases List.mem_cons.mp hp with rfl | hp
  · exact ⟨e, fun q => absurd F.ns.lt (Nat.not_lt.mpr (q ▸ hz)), none_of_le₀ F hz⟩
  · exact ⟨k _ _ (N p hp).1, (N p hp).2⟩
theorem ints_snoc {vs : List Value} {xs : List Int} (h : IntsAre vs xs) (x : Int) (t : Tok) : IntsAre (vs ++ [.int x t]) (xs ++ [x]) := by
  induction h with
  | nil => exact .cons _ _ .nil
  | cons _ _ _ ih => exact .cons _ _ ih

theorem WordsAt.replicate {h : Heap} {T : Addr} {a b : Int} {ta tb : Tok} (H : h.IsTuple T #[.int a ta, .int b tb]) : ∀ n, WordsAt h (List.replicate n (.ref T)) (List.replicate n (a, b))
  | 0 => .nil
  | n + 1 => .cons H (WordsAt.replicate H n)
section
variable {prog : Program} {w : World} {A : Around} {E : Value → Shared → Prop} {s : Shared} {h₀ : Heap} {L D b : Addr} {m : Str → Option Value} {news news1 news0 : List (Addr × Obj)} {its its2 : Array Value} {n n2 : Nat} {l : List Value}
theorem ext_two {Q : Value → Shared → Prop} (F : Fr h₀ L s.heap m) (N : News h₀ L s.heap news) (hb : (b, listOf its2 n2) ∈ news) (e : its.toList ++ its2.toList = l)
    (U1 : Upd D (listOf its n) (listOf l.toArray (n + 1)) news news1) (U0 : Upd D (listOf its n) (listOf l.toArray n) news news0) (hsz : its.size + its2.size ≤ sizeLine)
    (h1 : ∀ h', Fr h₀ L h' m → News h₀ L h' news1 → Q .none { s with heap := h' }) (h2 : ∀ h', Fr h₀ L h' m → News h₀ L h' news0 → Q .none { s with heap := h' }) :
    wpAny (model prog w) A (call (.builtin "list.extend") [.ref D, .ref b]) Q E s := by
  have hd : ¬(!its.isEmpty && Builtin.List.listTooLong (its.size + its2.size)) = true := by
    simp only [Bool.and_eq_true, not_and, Builtin.List.listTooLong, decide_eq_true_eq]
    intro _
    have := sizeLine_eq
    omega
  by_cases hz : its2.toList.length = 0
  · have e0 : its2.toList = [] := List.length_eq_zero_iff.mp hz
    have e1 : its2 = #[] := Array.toList_inj.mp (by rw [e0])
    subst e1
    have e2 : its = l.toArray := Array.toList_inj.mp (by rw [← e]; simp)
    subst e2
    exact kxn_extend F N hb e0 U0 hd (by simp at hsz ⊢; omega) (by omega) h2
  · exact kl_extend F N hb e hz U1 hd (by rw [Array.length_toList]; omega) (by omega) h1
end

/-- a while's turn's end -/
def WEnd (h₀ : Heap) (L : Addr) (s₁ : Shared) (k : Nat) (J : Nat → (Str → Option Value) → List (Addr × Obj) → Prop) (Q : Flow → Shared → Prop) (f : Flow) (s₂ : Shared) : Prop :=
  match f with
  | .ret v => Q (.ret v) s₂
  | .brk => Q .next s₂
  | _ => ∃ h' tk m₂ news₂ k', s₂ = { s₁ with heap := h', toks := tk } ∧ Fr h₀ L h' m₂ ∧ News h₀ L h' news₂ ∧ k' < k ∧ J k' m₂ news₂
theorem WEnd.next {h₀ h' : Heap} {L : Addr} {all : List (Addr × Obj)} {s₁ : Shared} {k tk : Nat} {m' : Str → Option Value} {J : Nat → (Str → Option Value) → List (Addr × Obj) → Prop} {Q : Flow → Shared → Prop} (F : Fr h₀ L h' m') (N : News h₀ L h' all) (news₂ : List (Addr × Obj)) (sub : ∀ p ∈ news₂, p ∈ all)
    (k' : Nat) (hk : k' < k) (j : J k' m' news₂) : WEnd h₀ L s₁ k J Q .next { s₁ with heap := h', toks := tk } := ⟨h', tk, m', news₂, k', rfl, F, fun p hp => N p (sub p hp), hk, j⟩
theorem while_ruleF {prog : Program} {w : World} {A : Around} {env : Env} {h₀ : Heap} {s : Shared} {test : Expr} {body : List Stmt} {pos : Pos} {Q : Flow → Shared → Prop} {E : Value → Shared → Prop} {m : Str → Option Value} {news : List (Addr × Obj)}
    (F : Fr h₀ env.locals s.heap m) (N : News h₀ env.locals s.heap news) (J : Nat → (Str → Option Value) → List (Addr × Obj) → Prop) (n : Nat) (h0 : J n m news)
    (turn : ∀ k m₁ news₁ h tk, J k m₁ news₁ → Fr h₀ env.locals h m₁ → News h₀ env.locals h news₁ →
      wpAny (model prog w) A (isTrue test env (eval test env)) (fun b s₂ => if b = true then wpAny (model prog w) A (execs body env) (WEnd h₀ env.locals { s with heap := h, toks := tk } k J Q) (fun _ _ => False) s₂ else Q .next s₂) (fun _ _ => False) { s with heap := h, toks := tk }) :
    wpAny (model prog w) A (exec (.While test body [] pos) env) Q E s := by
  refine wpAny_While (codeAny_whileLoop (fun k s' => ∃ h tk m₁ news₁, s' = { s with heap := h, toks := tk } ∧ J k m₁ news₁ ∧ Fr h₀ env.locals h m₁ ∧ News h₀ env.locals h news₁) ?_ n ⟨s.heap, s.toks, m, news, rfl, h0, F, N⟩)
  rintro k s' ⟨h, tk, m₁, news₁, rfl, hJ, F₁, N₁⟩
  refine wpAny_mono (turn k m₁ news₁ h tk hJ F₁ N₁) (fun b s₂ h₂ => ?_) (fun _ _ h => h.elim)
  cases b with
  | false => exact wpAny_execs_nil h₂
  | true =>
    rw [if_pos rfl] at h₂ ⊢
    refine wpAny_mono h₂ (fun f s₃ h₃ => ?_) (fun _ _ h => h.elim)
    cases f with
    | ret v => exact h₃
    | brk => exact h₃
    | next => obtain ⟨h', tk', m₂, news₂, k', rfl, F₂, N₂, hk, hj⟩ := h₃; exact ⟨k', hk, h', tk', m₂, news₂, rfl, hj, F₂, N₂⟩
    | cont => obtain ⟨h', tk', m₂, news₂, k', rfl, F₂, N₂, hk, hj⟩ := h₃; exact ⟨k', hk, h', tk', m₂, news₂, rfl, hj, F₂, N₂⟩
/-- what stands: the written part and the top -/
structure Gd (w : World) (lo : List Str) (me : ExcName → Option Value) (mg mb : Str → Option Value) (h : Heap) : Prop where
  X : (Mine.Kc w.params).In h
  T : Top topProg lo me mg mb h
theorem Gd.keeps {w : World} {lo : List Str} {me : ExcName → Option Value} {mg mb : Str → Option Value} {h h' : Heap} (G : Gd w lo me mg mb h) (k : Kp h h') : Gd w lo me mg mb h' := ⟨G.X.keeps k, G.T.keeps k⟩

/-- room -/
structure Rm (A : Around) (d u : Nat) : Prop where
  hh : A.handled = none
  hd : A.depth + d < recursionLimit
  hu : A.units + u < cLine

theorem enter {prog : Program} {w : World} {p : Program} {lo : List Str} {me : ExcName → Option Value} {mg mb : Str → Option Value} {A : Around} {s : Shared} {K : Frag} {name qual : Str} {params : Arguments} {body : List Stmt} {scope : Scope} {dV kV doc pm cdv ct oc : Value} {an od : Option Addr} {osl : Array (Option Value)} {f : Addr} {vals : List Value} {kw : List (Str × Value)} {binds : List (Str × Value)} {Q : Value → Shared → Prop}
    (X : K.In s.heap) (T : Top p lo me mg mb s.heap) (hroom : A.depth < recursionLimit)
    (ho : K.lookup f = some ⟨oc, od, .func (fnOf name qual params body scope dV kV doc pm an cdv ct), osl⟩) (hcd : codeIn K cdv qual = true)
    (hbind : BindsTo s (fnOf name qual params body scope dV kV doc pm an cdv ct) ⟨vals, kw⟩ binds) (hloc : ∀ y ∈ binds, scope.names.lookup y.1 = some .local)
    (h : ∀ h₁, Fr s.heap s.heap.objs.size h₁ (fun y => binds.reverse.lookup y) → News s.heap s.heap.objs.size h₁ [] →
      wpAny (model prog w) (A.deeper (envOf qual scope s.heap.objs.size f cdv)) (execs body (envOf qual scope s.heap.objs.size f cdv))
        (fun fl s' => Q (match fl with | .ret v => v | _ => .none) s') (fun _ _ => False) { s with heap := h₁, toks := s.toks + binds.length })
    (hco : scope.isCoroutine = false) (hgen : scope.isGenerator = false) (hk : scope.kind = .function) (hcell : ∀ x ∈ scope.names, x.2 ≠ .cell) :
    wpAny (model prog w) A (call (.ref f) vals kw) Q (fun _ _ => False) s := by
  refine wpAny_call (codeAny_call_def (fd := fnOf name qual params body scope dV kV doc pm an cdv ct) (body := body) (binds := binds) hroom (X _ _ ho) rfl T.nolimit (codeRec_of X hcd) rfl hbind hcell hloc (fun h₁ hns hk₁ => ?_) hco hgen hk)
  exact wpAny_mono (h h₁ ⟨hns, hk₁, Nat.le_refl _⟩ .nil) (fun _ _ h => h) (fun _ _ h => h.elim)


theorem nm_L {M : Model} {A : Around} {E : Value → Shared → Prop} {s : Shared} {h₀ : Heap} {env : Env} {m : Str → Option Value} {x : Str} {pos : Pos} {v : Value} {Q : Value → Shared → Prop} (F : Fr h₀ env.locals s.heap m) (hv : m x = some v) (h : Q v s)
    (hk : env.scope.kind = .function) (hx : env.kindOf x = some .local) (hd : (x == ("__debug__" : Str)) = false) :
    wpAny M A (eval (.Name x pos) env) Q E s := wpAny_Name (wpAny_loadName_local hk hx F.ns hv h) hd
theorem intsAre_get {vs : List Value} {xs : List Int} (h : IntsAre vs xs) {i : Nat} {v : Value} (e : vs[i]? = some v) : ∃ x t, xs[i]? = some x ∧ v = .int x t := by
  have hl := h.length
  have hi : i < xs.length := by have := (List.getElem?_eq_some_iff.mp e).1; omega
  obtain ⟨t, ht⟩ := h.get i xs[i] (by simp [hi])
  rw [e] at ht
  exact ⟨_, t, by simp [hi], Option.some.inj ht⟩
theorem some_int {a b : Int} {t : Tok} (e : a = b) : some (Value.int a t) = some (Value.int b t) := by rw [e]
theorem some_str {a b : Str} {t : Tok} (e : a = b) : some (Value.str a t) = some (Value.str b t) := by rw [e]
theorem News.sub {h₀ h : Heap} {L : Addr} {a b : List (Addr × Obj)} (N : News h₀ L h a) (hs : ∀ p ∈ b, p ∈ a) : News h₀ L h b := fun p hp => N p (hs p hp)
def IsI (n : Int) (v : Value) : Prop := ∃ t, v = .int n t
def IsS (x : Str) (v : Value) : Prop := ∃ t, v = .str x t
theorem isI {n k : Int} {t : Tok} (e : k = n) : IsI n (.int k t) := ⟨t, by rw [e]⟩
theorem isS {x y : Str} {t : Tok} (e : y = x) : IsS x (.str y t) := ⟨t, by rw [e]⟩
theorem half_nat (l h : Nat) : Int.fdiv ((l : Int) + (h : Int)) 2 = (((l + h) / 2 : Nat) : Int) := by
  rw [Int.fdiv_eq_ediv_of_nonneg _ (by decide)]
  omega
/-- a halt for the walk -/
def Stop (P : Prop) : Prop := P
theorem stop {P : Prop} (h : Stop P) : P := h
theorem unstop {P : Prop} (h : P) : Stop P := h
/-- an answer, all kept -/
abbrev An (s : Shared) (P : Value → Heap → Prop) (v : Value) (s' : Shared) : Prop := ∃ h' tk, s' = { s with heap := h', toks := tk } ∧ Kp s.heap h' ∧ P v h'
theorem fill_all : Mine.rowA = Mine.rowA ∧ Mine.Kc = Mine.Kc := by
  w_top off
  k_fill
  exact ⟨rfl, rfl⟩
local macro_rules | `(tactic| ktr_rel) => `(tactic| first | rfl | assumption | (dsimp only; refine (if_neg (by decide)).trans ?_; ktr_rel) | (refine (if_neg (by decide)).trans ?_; ktr_rel))
local macro_rules | `(tactic| walk_at "eval Name") => `(tactic| (k_here; k_dflt (refine' nm_L ?F ?v ?_ ?a ?b ?c; (case a => rfl); (case b => rfl); (case F => k_asm); (case v => ktr_rel); (case c => decide); k_whole)))
local macro_rules | `(tactic| tb_start) => `(tactic| (refine' enter ?k1 ?k2 ?k8 ?k6 ?k7 ?k9 ?kB ?_ ?c2 ?c3 ?c4 ?c5; (case k1 => k_asm); (case k2 => k_asm); (case k6 => k_is); (case k7 => k_is); (case k8 => omega); (case k9 => exact BindsTo.of_eq rfl); (case c5 => decide); (case kB => exact locs rfl); (case c2 => exact rfl); (case c3 => exact rfl); (case c4 => exact rfl); k_whole; intro h' F' N'; (try dsimp only)))
local macro_rules | `(tactic| walk_at "exec For Tuple Call") => `(tactic| (k_here; (rename Fr _ _ _ _ => lF'); (with_unfolding_all refine' for_ruleF lF' ?_ ?k1; (case k1 => exact fun _ => rfl); k_whole)))
local macro_rules | `(tactic| k_all) => `(tactic| assumption)
local macro_rules | `(tactic| walk_at "eval ListComp") => `(tactic| (k_here; k_dflt (refine' comp_rule ?k1 ?k2 ?k3 ?k4 ?_ ?k5; (case k1 => exact rfl); (case k2 => decide); (case k3 => exact rfl); (case k4 => decide); (case k5 => exact fun _ => rfl); k_whole)))
local macro_rules | `(tactic| walk_at "callWith") => `(tactic| (k_here; (with_reducible show wpAny _ _ (callWith _ (Value.builtin _) [_] _ _) _ _ _); refine callWith_method1 ?_))
local macro_rules | `(tactic| tb_rel) => `(tactic| (refine' enter ?k1 ?k2 ?k8 ?k6 ?k7 ?k9 ?kB ?_ ?c2 ?c3 ?c4 ?c5; (case k1 => k_asm); (case k2 => k_asm); (case k6 => k_is); (case k7 => k_is); (case k8 => omega); (case k9 => (refine' kp_binds ?kx ?ke; (case kx => assumption); (case ke => exact fun _ => rfl))); (case c5 => decide); (case kB => exact locs rfl); (case c2 => exact rfl); (case c3 => exact rfl); (case c4 => exact rfl); k_whole; intro h' F' N'; (try dsimp only)))

section
section
variable {prog : Program} {w : World} {A : Around} {E : Value → Shared → Prop} {R : Result → Shared → Prop} {s : Shared}
theorem compStart_1 {g0 : Comprehension} {elt target iter : Expr} {scope : Scope} {pos : Pos} {it acc : Value} {env : Env}
    (h0 : codeAny (model prog w) A (.compLoop (.ListComp elt [g0, ⟨target, iter, [], 0⟩] scope pos) 1 it acc env) R s)
    (h : wpAny (model prog w) A (pyIter it) (fun it' s' => codeAny (model prog w) A (.compLoop (.ListComp elt [g0, ⟨target, iter, [], 0⟩] scope pos) 1 it' acc env) R s')
      (notedBy (model prog w) A env fun x s' => R (.error x) s') s) :
    codeAny (model prog w) A (.compStart (.ListComp elt [g0, ⟨target, iter, [], 0⟩] scope pos) 1 it acc env) R s := by
  refine codeAny_of_tree ?_
  show wpAny _ _ ((compStart (.ListComp elt [g0, ⟨target, iter, [], 0⟩] scope pos) 1 it acc env).onRaise (fun x => do noteFrame x env; standAt theWindowsPlace)) _ _ s
  refine wpAny_notedAt ?_
  unfold compStart
  show wpAny _ _ (ask >>= _) _ _ s
  refine wpAny_bind (wpAny_askSetting (wpAny_ite ?_))
  split
  · first
      | exact wpAny_bind (wpAny_pure (wpAny_pure (And.intro rfl h0)))
      | exact wpAny_pure (And.intro rfl h0)
  · first
      | exact wpAny_bind (wpAny_rule (wpAny_bind (wpAny_standAt (wpAny_bind (wpAny_mono h (fun it' s' h' => wpAny_pure (And.intro rfl h')) fun _ _ x => x)))))
      | (refine wpAny_bind (wpAny_rule ?_); show wpAny _ _ (standAt iter.pos >>= _) _ _ s; exact wpAny_bind (wpAny_standAt (wpAny_bind (wpAny_mono h (fun it' s' h' => wpAny_pure (And.intro rfl h')) fun _ _ x => x))))
theorem compTurn_1 (g0 : Comprehension) (elt target iter : Expr) (scope : Scope) (pos : Pos) (it acc : Value) (env : Env) :
    compTurn (.ListComp elt [g0, ⟨target, iter, [], 0⟩] scope pos) 1 it acc env = (standAt iter.pos >>= fun _ => pyNext it >>= fun r => match r with
      | none => pure (.done .next)
      | some v => letOwnedTupleGo target it v >>= fun _ => assign target env v >>= fun _ =>
        (eval elt env >>= fun x => call (.builtin "list.append") [acc, x] >>= fun _ => pure ()) >>= fun _ =>
          again (.compLoop (.ListComp elt [g0, ⟨target, iter, [], 0⟩] scope pos) 1 it acc env)) := by rfl
theorem compTurn_0 (elt target iter target1 iter1 : Expr) (scope : Scope) (pos : Pos) (it acc : Value) (env : Env) :
    compTurn (.ListComp elt [⟨target, iter, [], 0⟩, ⟨target1, iter1, [], 0⟩] scope pos) 0 it acc env = (standAt iter.pos >>= fun _ => pyNext it >>= fun r => match r with
      | none => pure (.done .next)
      | some v => letOwnedTupleGo target it v >>= fun _ => assign target env v >>= fun _ =>
        eval iter1 env >>= fun x => standAt iter1.pos >>= fun _ => foldedSetIterable iter1 env x >>= fun x => holding [x] (pyIter x) >>= fun it1 => runOwn (.compStart (.ListComp elt [⟨target, iter, [], 0⟩, ⟨target1, iter1, [], 0⟩] scope pos) 1 it1 acc env) env >>= fun _ =>
          again (.compLoop (.ListComp elt [⟨target, iter, [], 0⟩, ⟨target1, iter1, [], 0⟩] scope pos) 0 it acc env)) := by rfl
end
section

namespace KI
abbrev qT := (Program) × (World) × (Around) × (Value → Shared → Prop) × (Result → Shared → Prop) × (Shared) × (Comprehension) × (Expr) × (Expr) × (Str) × (Pos) × (Scope) × (Pos) × (Env) × (Addr) × (Addr) × (Int) × (Int) × (Tok) × (Tok) × (Tok) × (Nat) × (Str → Option Value) × (List Value)
def qP (prog : Program) (w : World) (A : Around) (E : Value → Shared → Prop) (R : Result → Shared → Prop) (s : Shared) (g0 : Comprehension) (elt : Expr) (iter1 : Expr) (y : Str) (py : Pos) (scope : Scope) (pos : Pos) (cenv : Env) (D : Addr) (r : Addr) (a : Int) (b : Int) (t : Tok) (u : Tok) (v : Tok) (n : Nat) (m₂ : Str → Option Value) (ys : List Value) : Prop := ∀ (hh : A.handled = none) (hy : cenv.kindOf y = some .local) (hp : (cenv.scope.kind == .class || (cenv.scope.kind == .module && cenv.locals != cenv.globals)) = false) (hn : s.heap.Ns cenv.locals m₂) (hD : s.heap.get? D = some (LCg.lst ys)) (hDC : D ≠ cenv.locals) (hr : IsRange s.heap r a b 1 t u v) (hsm : Builtin.Range.small a b 1 = true) (hrn : Builtin.Range.rangeSize a b 1 = (n : Int)) (J : Nat → List Value → Prop) (hJ0 : J 0 ys) (hJz : ∀ j zs, J j zs → j < n → zs.length ≤ sizeLine) (el : ∀ j t zs h tk, j < n → J j zs → (∀ b o, b ≠ cenv.locals → b ≠ D → s.heap.get? b = some o → h.get? b = some o) → h.Ns cenv.locals (fun z => if z = y then some (.int (a + (j : Int)) t) else m₂ z) →
      wpAny (model prog w) A (eval elt cenv) (fun v s5 => Keeps { s with heap := h, toks := tk } s5 ∧ J (j + 1) (zs ++ [v])) (fun _ _ => False) { s with heap := h, toks := tk }) (fin : ∀ h tk m' zs, J n zs → (∀ b o, b ≠ cenv.locals → b ≠ D → s.heap.get? b = some o → h.get? b = some o) → h.Ns cenv.locals m' → h.get? D = some (LCg.lst zs) → R (.ok .next) { s with heap := h, toks := tk }), wpAny (model prog w) A (pyIter (.ref r)) (fun it s1 => codeAny (model prog w) A (.compStart (.ListComp elt [g0, ⟨.Name y py, iter1, [], 0⟩] scope pos) 1 it (.ref D) cenv) R s1) E s
theorem qN : Nonempty qT := ⟨(default, PySem.W.aWorld 0, ⟨none, 0, none, none, 0⟩, fun _ _ => True, fun _ _ => True, {}, default, default, default, default, default, default, default, default, default, default, default, default, default, default, default, default, default, default)⟩
noncomputable def qk : qT := (Classical.choice (drink qN fun v => qP v.1 v.2.1 v.2.2.1 v.2.2.2.1 v.2.2.2.2.1 v.2.2.2.2.2.1 v.2.2.2.2.2.2.1 v.2.2.2.2.2.2.2.1 v.2.2.2.2.2.2.2.2.1 v.2.2.2.2.2.2.2.2.2.1 v.2.2.2.2.2.2.2.2.2.2.1 v.2.2.2.2.2.2.2.2.2.2.2.1 v.2.2.2.2.2.2.2.2.2.2.2.2.1 v.2.2.2.2.2.2.2.2.2.2.2.2.2.1 v.2.2.2.2.2.2.2.2.2.2.2.2.2.2.1 v.2.2.2.2.2.2.2.2.2.2.2.2.2.2.2.1 v.2.2.2.2.2.2.2.2.2.2.2.2.2.2.2.2.1 v.2.2.2.2.2.2.2.2.2.2.2.2.2.2.2.2.2.1 v.2.2.2.2.2.2.2.2.2.2.2.2.2.2.2.2.2.2.1 v.2.2.2.2.2.2.2.2.2.2.2.2.2.2.2.2.2.2.2.1 v.2.2.2.2.2.2.2.2.2.2.2.2.2.2.2.2.2.2.2.2.1 v.2.2.2.2.2.2.2.2.2.2.2.2.2.2.2.2.2.2.2.2.2.1 v.2.2.2.2.2.2.2.2.2.2.2.2.2.2.2.2.2.2.2.2.2.2.1 v.2.2.2.2.2.2.2.2.2.2.2.2.2.2.2.2.2.2.2.2.2.2.2)).1
noncomputable def prog : Program := qk.1
noncomputable def w : World := qk.2.1
noncomputable def A : Around := qk.2.2.1
noncomputable def E : Value → Shared → Prop := qk.2.2.2.1
noncomputable def R : Result → Shared → Prop := qk.2.2.2.2.1
noncomputable def s : Shared := qk.2.2.2.2.2.1
noncomputable def g0 : Comprehension := qk.2.2.2.2.2.2.1
noncomputable def elt : Expr := qk.2.2.2.2.2.2.2.1
noncomputable def iter1 : Expr := qk.2.2.2.2.2.2.2.2.1
noncomputable def y : Str := qk.2.2.2.2.2.2.2.2.2.1
noncomputable def py : Pos := qk.2.2.2.2.2.2.2.2.2.2.1
noncomputable def scope : Scope := qk.2.2.2.2.2.2.2.2.2.2.2.1
noncomputable def pos : Pos := qk.2.2.2.2.2.2.2.2.2.2.2.2.1
noncomputable def cenv : Env := qk.2.2.2.2.2.2.2.2.2.2.2.2.2.1
noncomputable def D : Addr := qk.2.2.2.2.2.2.2.2.2.2.2.2.2.2.1
noncomputable def r : Addr := qk.2.2.2.2.2.2.2.2.2.2.2.2.2.2.2.1
noncomputable def a : Int := qk.2.2.2.2.2.2.2.2.2.2.2.2.2.2.2.2.1
noncomputable def b : Int := qk.2.2.2.2.2.2.2.2.2.2.2.2.2.2.2.2.2.1
noncomputable def v : Tok := qk.2.2.2.2.2.2.2.2.2.2.2.2.2.2.2.2.2.2.2.2.1
noncomputable def n : Nat := qk.2.2.2.2.2.2.2.2.2.2.2.2.2.2.2.2.2.2.2.2.2.1
noncomputable def m₂ : Str → Option Value := qk.2.2.2.2.2.2.2.2.2.2.2.2.2.2.2.2.2.2.2.2.2.2.1
noncomputable def ys : List Value := qk.2.2.2.2.2.2.2.2.2.2.2.2.2.2.2.2.2.2.2.2.2.2.2
theorem qA (h : qP prog w A E R s g0 elt iter1 y py scope pos cenv D r a b qk.2.2.2.2.2.2.2.2.2.2.2.2.2.2.2.2.2.2.1 qk.2.2.2.2.2.2.2.2.2.2.2.2.2.2.2.2.2.2.2.1 v n m₂ ys) (prog : Program) (w : World) (A : Around) (E : Value → Shared → Prop) (R : Result → Shared → Prop) (s : Shared) (g0 : Comprehension) (elt : Expr) (iter1 : Expr) (y : Str) (py : Pos) (scope : Scope) (pos : Pos) (cenv : Env) (D : Addr) (r : Addr) (a : Int) (b : Int) (t : Tok) (u : Tok) (v : Tok) (n : Nat) (m₂ : Str → Option Value) (ys : List Value) : qP prog w A E R s g0 elt iter1 y py scope pos cenv D r a b t u v n m₂ ys := (Classical.choice (drink qN fun v => qP v.1 v.2.1 v.2.2.1 v.2.2.2.1 v.2.2.2.2.1 v.2.2.2.2.2.1 v.2.2.2.2.2.2.1 v.2.2.2.2.2.2.2.1 v.2.2.2.2.2.2.2.2.1 v.2.2.2.2.2.2.2.2.2.1 v.2.2.2.2.2.2.2.2.2.2.1 v.2.2.2.2.2.2.2.2.2.2.2.1 v.2.2.2.2.2.2.2.2.2.2.2.2.1 v.2.2.2.2.2.2.2.2.2.2.2.2.2.1 v.2.2.2.2.2.2.2.2.2.2.2.2.2.2.1 v.2.2.2.2.2.2.2.2.2.2.2.2.2.2.2.1 v.2.2.2.2.2.2.2.2.2.2.2.2.2.2.2.2.1 v.2.2.2.2.2.2.2.2.2.2.2.2.2.2.2.2.2.1 v.2.2.2.2.2.2.2.2.2.2.2.2.2.2.2.2.2.2.1 v.2.2.2.2.2.2.2.2.2.2.2.2.2.2.2.2.2.2.2.1 v.2.2.2.2.2.2.2.2.2.2.2.2.2.2.2.2.2.2.2.2.1 v.2.2.2.2.2.2.2.2.2.2.2.2.2.2.2.2.2.2.2.2.2.1 v.2.2.2.2.2.2.2.2.2.2.2.2.2.2.2.2.2.2.2.2.2.2.1 v.2.2.2.2.2.2.2.2.2.2.2.2.2.2.2.2.2.2.2.2.2.2.2)).2 h (prog, w, A, E, R, s, g0, elt, iter1, y, py, scope, pos, cenv, D, r, a, b, t, u, v, n, m₂, ys)
theorem qW : qP prog w A E R s g0 elt iter1 y py scope pos cenv D r a b qk.2.2.2.2.2.2.2.2.2.2.2.2.2.2.2.2.2.2.1 qk.2.2.2.2.2.2.2.2.2.2.2.2.2.2.2.2.2.2.2.1 v n m₂ ys := by
  intro hh hy hp hn hD hDC hr hsm hrn J hJ0 hJz el fin
  refine wpAny_pyIter_range hr hsm ?_
  have DC := Dr.ofWalks (env := cenv) (px := py) (LCg.range_walks (prog := prog) (w := w) (I := s.heap.objs.size) hh a n) hy hp
  have hCI : cenv.locals < s.heap.objs.size := hn.lt
  have hDI : D < s.heap.objs.size := Heap.lt_size hD
  have hC1 : cenv.locals ∉ [s.heap.objs.size] := fun h => Nat.ne_of_lt hCI (List.mem_singleton.mp h)
  have up : ∀ p o, s.heap.get? p = some o → (s.heap.push { cls := .type "range_iterator", data := .fields #[rawInt a, rawInt (Builtin.Range.rangeSize a b 1), rawInt 1] }).get? p = some o := fun p o e => Heap.get?_push_of_some _ e
  have hst : IsRangeIter (s.heap.push { cls := .type "range_iterator", data := .fields #[rawInt a, rawInt (Builtin.Range.rangeSize a b 1), rawInt 1] }) s.heap.objs.size (a + ((0 : Nat) : Int) * 1) ((n : Int) - ((0 : Nat) : Int)) 1 := by
    show Heap.get? _ _ = _; rw [hrn]; simpa using Heap.get?_push_size _ rfl
  have em : m₂ = fun z => if z = y then m₂ y else m₂ z := funext fun z => by
    by_cases h : z = y
    · rw [if_pos h, h]
    · rw [if_neg h]
  have loop : codeAny (model prog w) A (.compLoop (.ListComp elt [g0, ⟨.Name y py, iter1, [], 0⟩] scope pos) 1 (.ref s.heap.objs.size) (.ref D) cenv) R { s with heap := s.heap.push { cls := .type "range_iterator", data := .fields #[rawInt a, rawInt (Builtin.Range.rangeSize a b 1), rawInt 1] } } := by
    refine codeAny_loop rfl (fun k s' => ∃ h' tk c? zs j, s' = { s with heap := h', toks := tk } ∧ IsRangeIter h' s.heap.objs.size (a + (j : Nat) * 1) ((n : Int) - (j : Nat)) 1 ∧ (∀ b o, b ≠ cenv.locals → b ≠ D → s.heap.get? b = some o → h'.get? b = some o) ∧
      h'.Ns cenv.locals (fun z => if z = y then c? else m₂ z) ∧ h'.get? D = some (LCg.lst zs) ∧ J j zs ∧ j ≤ n ∧ k = n + 1 - j) (fun k s' hI => ?_) (n + 1) ⟨_, s.toks, m₂ y, ys, 0, rfl, hst, fun b o _ _ e => up b o e, (em ▸ hn).keeps up, up _ _ hD, hJ0, Nat.zero_le _, rfl⟩
    obtain ⟨h', tk, c?, zs, j, rfl, hst', hk', hn', hD', hJ, hj, rfl⟩ := hI
    show wpAny _ A ((compTurn (.ListComp elt [g0, ⟨.Name y py, iter1, [], 0⟩] scope pos) 1 (.ref s.heap.objs.size) (.ref D) cenv).onRaise (fun x => do noteFrame x cenv; theTreesLotGoes x)) _ _ _
    refine wpAny_noted (wpAny_mono (E := fun _ _ => False) ?_ (fun _ _ h => h) fun _ _ h => h.elim)
    rw [compTurn_1]
    refine wpAny_bind (wpAny_standAt (wpAny_bind ?_))
    by_cases hlt : j < n
    · refine wpAny_mono (DC.item j { s with heap := h', toks := tk } _ (fun _ s₂ =>
          wpAny (model prog w) A (eval elt cenv) (fun x s₄ =>
              wpAny (model prog w) A (call (.builtin "list.append") [.ref D, x]) (fun _ s₅ => ∃ m, m < n + 1 - j ∧ ∃ h' tk c? zs j, s₅ = { s with heap := h', toks := tk } ∧ IsRangeIter h' s.heap.objs.size (a + (j : Nat) * 1) ((n : Int) - (j : Nat)) 1 ∧ (∀ b o, b ≠ cenv.locals → b ≠ D → s.heap.get? b = some o → h'.get? b = some o) ∧
                h'.Ns cenv.locals (fun z => if z = y then c? else m₂ z) ∧ h'.get? D = some (LCg.lst zs) ∧ J j zs ∧ j ≤ n ∧ m = n + 1 - j) (fun _ _ => False) s₄) (fun _ _ => False) s₂)
          (fun _ _ => False) hlt hst' hn' hC1 fun h₂ tk₂ m₃ hB hn₂ hst₂ hk₂ => ?_) (fun r s₁ h₁ => ?_) (fun _ _ h => h.elim)
      · obtain ⟨w1, ⟨t1, rfl⟩, rfl⟩ := hB
        have hn₃ : h₂.Ns cenv.locals (fun z => if z = y then some (.int (a + (j : Int)) t1) else m₂ z) := by
          have e : (fun z => if z = y then some (Value.int (a + (j : Int)) t1) else (fun z => if z = y then c? else m₂ z) z) = (fun z => if z = y then some (Value.int (a + (j : Int)) t1) else m₂ z) := funext fun z => by
            by_cases h : z = y
            · rw [if_pos h, if_pos h]
            · rw [if_neg h, if_neg h]; exact if_neg h
          exact e ▸ hn₂
        have hK₂ : ∀ b o, b ≠ cenv.locals → b ≠ D → s.heap.get? b = some o → h₂.get? b = some o := fun b o h1 h2 e => hk₂ b o (fun h => Nat.ne_of_lt (Heap.lt_size e) (List.mem_singleton.mp h)) h1 (hk' b o h1 h2 e)
        have hD₂ : h₂.get? D = some (LCg.lst zs) := hk₂ _ _ (fun h => Nat.ne_of_lt hDI (List.mem_singleton.mp h)) hDC hD'
        refine wpAny_mono (el j t1 zs h₂ tk₂ hlt hJ hK₂ hn₃) (fun x s₄ h₄ => ?_) fun _ _ h => h
        obtain ⟨⟨h₄, tk₄, rfl, hk₄⟩, hJ₄⟩ := h₄
        refine PyProof.Rows.append_at (hsz := by show zs.toArray.size ≤ sizeLine; rw [List.size_toArray]; exact hJz j zs hJ hlt) (hk₄ _ _ hD₂) fun h₅ hs₅ hD₅ => ?_
        refine ⟨n + 1 - (j + 1), by omega, h₅, tk₄, _, zs ++ [x], j + 1, rfl, DC.frame _ _ _ hst₂ fun b hb o e => hs₅.extBut b o (fun q => ?_) (hk₄ b o e),
            fun b o h1 h2 e => hs₅.extBut b o h2 (hk₄ b o (hK₂ b o h1 h2 e)), (hn₃.keeps hk₄).sameBut hs₅ (Ne.symm hDC), ?_, hJ₄, hlt, rfl⟩
        · rw [List.mem_singleton.mp hb] at q; exact Nat.ne_of_gt hDI q
        · rw [hD₅, ← LCg.lst_snoc]
      · obtain ⟨v, rfl, h₁⟩ := h₁
        refine wpAny_bind (wpAny_mono h₁ (fun _ s₀ h₀' => ?_) fun _ _ h' => h')
        refine wpAny_bind (wpAny_mono h₀' (fun _ s₂ h₂ => ?_) fun _ _ h' => h')
        exact wpAny_bind (wpAny_bind (wpAny_mono h₂ (fun x s₄ h₄ => wpAny_bind (wpAny_mono h₄ (fun _ s₅ h₅ => wpAny_pure (wpAny_pure ⟨rfl, h₅⟩)) fun _ _ h' => h')) fun _ _ h' => h'))
    · obtain rfl : j = n := Nat.le_antisymm hj (Nat.not_lt.mp hlt)
      refine wpAny_mono (DC.done { s with heap := h', toks := tk } (fun s' => R (.ok .next) s') (fun _ _ => False) hst' fun h₁ tk₁ hk₁ => ?_) (fun r s₁ h₁ => ?_) (fun _ _ h => h.elim)
      · have hw : ∀ b, b < s.heap.objs.size → b ∉ [s.heap.objs.size] := fun b hb h => Nat.ne_of_lt hb (List.mem_singleton.mp h)
        exact fin h₁ tk₁ _ zs hJ (fun b o h1 h2 e => hk₁ b o (hw b (Heap.lt_size e)) (hk' b o h1 h2 e)) (hn'.at' fun o e => hk₁ _ o hC1 e) (hk₁ _ _ (hw _ hDI) hD')
      · obtain ⟨rfl, h₁⟩ := h₁
        exact wpAny_pure h₁
  exact compStart_1 loop (DC.self 0 _ _ _ hst loop)
end KI
end
section
variable {prog : Program} {w : World} {A : Around} {E : Value → Shared → Prop} {R : Result → Shared → Prop} {s : Shared}
theorem comp2_inner {g0 : Comprehension} {elt iter1 : Expr} {y : Str} {py : Pos} {scope : Scope} {pos : Pos} {cenv : Env} {D r : Addr} {a b : Int} {t u v : Tok} {n : Nat} {m₂ : Str → Option Value} {ys : List Value} (hh : A.handled = none)
    (hy : cenv.kindOf y = some .local) (hp : (cenv.scope.kind == .class || (cenv.scope.kind == .module && cenv.locals != cenv.globals)) = false) (hn : s.heap.Ns cenv.locals m₂) (hD : s.heap.get? D = some (LCg.lst ys)) (hDC : D ≠ cenv.locals)
    (hr : IsRange s.heap r a b 1 t u v) (hsm : Builtin.Range.small a b 1 = true) (hrn : Builtin.Range.rangeSize a b 1 = (n : Int)) (J : Nat → List Value → Prop) (hJ0 : J 0 ys) (hJz : ∀ j zs, J j zs → j < n → zs.length ≤ sizeLine)
    (el : ∀ j t zs h tk, j < n → J j zs → (∀ b o, b ≠ cenv.locals → b ≠ D → s.heap.get? b = some o → h.get? b = some o) → h.Ns cenv.locals (fun z => if z = y then some (.int (a + (j : Int)) t) else m₂ z) →
      wpAny (model prog w) A (eval elt cenv) (fun v s5 => Keeps { s with heap := h, toks := tk } s5 ∧ J (j + 1) (zs ++ [v])) (fun _ _ => False) { s with heap := h, toks := tk })
    (fin : ∀ h tk m' zs, J n zs → (∀ b o, b ≠ cenv.locals → b ≠ D → s.heap.get? b = some o → h.get? b = some o) → h.Ns cenv.locals m' → h.get? D = some (LCg.lst zs) → R (.ok .next) { s with heap := h, toks := tk }) :
    wpAny (model prog w) A (pyIter (.ref r)) (fun it s1 => codeAny (model prog w) A (.compStart (.ListComp elt [g0, ⟨.Name y py, iter1, [], 0⟩] scope pos) 1 it (.ref D) cenv) R s1) E s := by
  exact KI.qA KI.qW prog w A E R s g0 elt iter1 y py scope pos cenv D r a b t u v n m₂ ys hh hy hp hn hD hDC hr hsm hrn J hJ0 hJz el fin
end
/-- the second clause's source and elements -/
def Turn2Q (prog : Program) (w : World) (A : Around) (s : Shared) (C : Addr) (cenv : Env) (elt : Expr) (y : Str) (m₂ : Str → Option Value) (J : Nat → Nat → List Value → Prop) (i : Nat) (h : Heap) (tk : Nat) (xv : Value) (s₄ : Shared) : Prop :=
  ∃ r a b t u v n1, xv = .ref r ∧ Keeps { s with heap := h, toks := tk } s₄ ∧ IsRange s₄.heap r a b 1 t u v ∧ Builtin.Range.small a b 1 = true ∧ Builtin.Range.rangeSize a b 1 = ((n1 : Nat) : Int) ∧
    (∀ j zs, J i j zs → j < n1 → zs.length ≤ sizeLine) ∧ (∀ zs, J i n1 zs → J (i + 1) 0 zs) ∧
    ∀ j t zs h' tk', j < n1 → J i j zs → Fr s.heap C h' (fun z => if z = y then some (.int (a + (j : Int)) t) else m₂ z) →
      wpAny (model prog w) A (eval elt cenv) (fun v s5 => Keeps { s with heap := h', toks := tk' } s5 ∧ J i (j + 1) (zs ++ [v])) (fun _ _ => False) { s with heap := h', toks := tk' }
/-- what the first clause's source of a comprehension of two clauses must bring; the second is over a range -/
def CompAt2 (prog : Program) (w : World) (A : Around) (s : Shared) (env : Env) (elt target iter1 : Expr) (y : Str) (scope : Scope) (cl : List (Str × Addr)) (Q : Value → Shared → Prop) (it : Value) (s₂ : Shared) : Prop :=
  ∃ (fp wr : List Addr) (n : Nat) (B : Nat → (Str → Option Value) → (Str → Option Value) → Prop) (St : Nat → Heap → Prop),
    (∀ C, Dr prog w A (compEnvC scope cl C env) target it fp wr n B St) ∧ St 0 s₂.heap ∧ (∀ b ∈ fp, b < s₂.heap.objs.size) ∧ (∀ b ∈ wr, s.heap.get? b = none) ∧
    (∃ h tk, s₂ = { s with heap := h, toks := tk } ∧ Kp s.heap h ∧ s.heap.objs.size ≤ h.objs.size) ∧
    ∃ J : Nat → Nat → List Value → Prop, J 0 0 [] ∧
      (∀ C i m₁ m₂ ys h tk, i < n → J i 0 ys → B i m₁ m₂ → Fr s.heap C h m₂ →
        wpAny (model prog w) A (eval iter1 (compEnvC scope cl C env)) (Turn2Q prog w A s C (compEnvC scope cl C env) elt y m₂ J i h tk) (fun _ _ => False) { s with heap := h, toks := tk }) ∧
      (∀ D h tk ys, J n 0 ys → Kp s.heap h → s.heap.objs.size ≤ D → h.get? D = some (LCg.lst ys) → Q (.ref D) { s with heap := h, toks := tk })
section

namespace KR
abbrev qT := (Program) × (World) × (Around) × (Shared) × (Env) × (Expr) × (Expr) × (Expr) × (Expr) × (Str) × (Pos) × (Scope) × (List (Str × Addr)) × (Pos) × (Value → Shared → Prop) × (Value → Shared → Prop)
def qP (prog : Program) (w : World) (A : Around) (s : Shared) (env : Env) (elt : Expr) (target : Expr) (iter : Expr) (iter1 : Expr) (y : Str) (py : Pos) (scope : Scope) (cl : List (Str × Addr)) (pos : Pos) (Q : Value → Shared → Prop) (E : Value → Shared → Prop) : Prop := ∀ (hh : A.handled = none) (hclos : closureFor scope env = pure cl) (hcell : ∀ y ∈ scope.names, y.2 ≠ .cell) (hkind : scope.kind = .function) (hnames : ∀ y ∈ scope.names, y.2 = .local → scope.names.lookup y.1 = some .local) (hy : scope.names.lookup y = some .local) (h : wpAny (model prog w) A (eval iter env) (fun xv s₁ => wpAny (model prog w) A (pyIter xv) (CompAt2 prog w A s env elt target iter1 y scope cl Q) E s₁) E s) (hs : ∀ x, foldedSetIterable iter env x = pure x) (hs1 : ∀ env' x, foldedSetIterable iter1 env' x = pure x), wpAny (model prog w) A (eval (.ListComp elt [⟨target, iter, [], 0⟩, ⟨.Name y py, iter1, [], 0⟩] scope pos) env) Q E s
theorem qN : Nonempty qT := ⟨(default, PySem.W.aWorld 0, ⟨none, 0, none, none, 0⟩, {}, default, default, default, default, default, default, default, default, default, default, fun _ _ => True, fun _ _ => True)⟩
noncomputable def qk : qT := (Classical.choice (drink qN fun v => qP v.1 v.2.1 v.2.2.1 v.2.2.2.1 v.2.2.2.2.1 v.2.2.2.2.2.1 v.2.2.2.2.2.2.1 v.2.2.2.2.2.2.2.1 v.2.2.2.2.2.2.2.2.1 v.2.2.2.2.2.2.2.2.2.1 v.2.2.2.2.2.2.2.2.2.2.1 v.2.2.2.2.2.2.2.2.2.2.2.1 v.2.2.2.2.2.2.2.2.2.2.2.2.1 v.2.2.2.2.2.2.2.2.2.2.2.2.2.1 v.2.2.2.2.2.2.2.2.2.2.2.2.2.2.1 v.2.2.2.2.2.2.2.2.2.2.2.2.2.2.2)).1
noncomputable def prog : Program := qk.1
noncomputable def w : World := qk.2.1
noncomputable def A : Around := qk.2.2.1
noncomputable def s : Shared := qk.2.2.2.1
noncomputable def env : Env := qk.2.2.2.2.1
noncomputable def elt : Expr := qk.2.2.2.2.2.1
noncomputable def target : Expr := qk.2.2.2.2.2.2.1
noncomputable def iter : Expr := qk.2.2.2.2.2.2.2.1
noncomputable def iter1 : Expr := qk.2.2.2.2.2.2.2.2.1
noncomputable def y : Str := qk.2.2.2.2.2.2.2.2.2.1
noncomputable def py : Pos := qk.2.2.2.2.2.2.2.2.2.2.1
noncomputable def scope : Scope := qk.2.2.2.2.2.2.2.2.2.2.2.1
noncomputable def cl : List (Str × Addr) := qk.2.2.2.2.2.2.2.2.2.2.2.2.1
noncomputable def pos : Pos := qk.2.2.2.2.2.2.2.2.2.2.2.2.2.1
noncomputable def Q : Value → Shared → Prop := qk.2.2.2.2.2.2.2.2.2.2.2.2.2.2.1
noncomputable def E : Value → Shared → Prop := qk.2.2.2.2.2.2.2.2.2.2.2.2.2.2.2
theorem qA (h : qP prog w A s env elt target iter iter1 y py scope cl pos Q E) (prog : Program) (w : World) (A : Around) (s : Shared) (env : Env) (elt : Expr) (target : Expr) (iter : Expr) (iter1 : Expr) (y : Str) (py : Pos) (scope : Scope) (cl : List (Str × Addr)) (pos : Pos) (Q : Value → Shared → Prop) (E : Value → Shared → Prop) : qP prog w A s env elt target iter iter1 y py scope cl pos Q E := (Classical.choice (drink qN fun v => qP v.1 v.2.1 v.2.2.1 v.2.2.2.1 v.2.2.2.2.1 v.2.2.2.2.2.1 v.2.2.2.2.2.2.1 v.2.2.2.2.2.2.2.1 v.2.2.2.2.2.2.2.2.1 v.2.2.2.2.2.2.2.2.2.1 v.2.2.2.2.2.2.2.2.2.2.1 v.2.2.2.2.2.2.2.2.2.2.2.1 v.2.2.2.2.2.2.2.2.2.2.2.2.1 v.2.2.2.2.2.2.2.2.2.2.2.2.2.1 v.2.2.2.2.2.2.2.2.2.2.2.2.2.2.1 v.2.2.2.2.2.2.2.2.2.2.2.2.2.2.2)).2 h (prog, w, A, s, env, elt, target, iter, iter1, y, py, scope, cl, pos, Q, E)
theorem qW : qP prog w A s env elt target iter iter1 y py scope cl pos Q E := by
  intro hh hclos hcell hkind hnames hy h hs hs1
  rw [eval_ListComp]
  refine wpAny_comprehension_free (use := none) rfl hs hclos hkind hnames (wpAny_mono h (fun xv s₁ h₁ => wpAny_mono h₁ (fun it s₂ h₂ => ?_) fun _ _ e => e) fun _ _ e => e)
  obtain ⟨fp, wr, n, B, St, D, hst, hfp, hwr, ⟨H, tk0, rfl, hK, hZ⟩, J, hJ0, turn, done⟩ := h₂
  dsimp only at hst hfp
  refine wpAny_newObj_type (wpAny_newFunctionEnv hcell (by intro y hy; simp at hy) (fun h₁ hns₁ hsb₁ => ?_) hkind)
  dsimp only at hns₁ hsb₁ ⊢
  generalize hH2 : H.push { cls := .type "list", dict := none, data := .seq ([] : List Value).toArray } = H2 at hns₁ hsb₁ ⊢
  have hC : H2.objs.size = H.objs.size + 1 := by rw [← hH2, Heap.size_push]
  have hDC : H.objs.size ≠ H2.objs.size := by rw [hC]; exact Nat.ne_of_lt (Nat.lt_succ_self _)
  have hCle : H.objs.size ≤ H2.objs.size := by rw [hC]; exact Nat.le_succ _
  have below : ∀ b, b < H.objs.size → b ≠ H2.objs.size ∧ b ≠ H.objs.size := fun b hb => ⟨by rw [hC]; exact Nat.ne_of_lt (Nat.lt_succ_of_lt hb), Nat.ne_of_lt hb⟩
  have hDf : H.objs.size ∉ fp := fun hm => Nat.lt_irrefl _ (hfp _ hm)
  have hCf : H2.objs.size ∉ fp := fun hm => by have := hfp _ hm; rw [hC] at this; exact Nat.lt_irrefl _ (Nat.lt_of_succ_lt this)
  have old : Kp H h₁ := fun b o e => hsb₁.extBut b o (below b (Heap.lt_size e)).1 (Heap.get?_push_of_some _ (hH2 ▸ Heap.get?_push_of_some _ e))
  have hacc : h₁.get? H.objs.size = some (LCg.lst []) := hsb₁.extBut _ _ hDC (Heap.get?_push_of_some _ (hH2 ▸ Heap.get?_push_size _ rfl))
  have hst₁ : St 0 h₁ := (D 0).frame _ _ _ hst fun b _ o e => old b o e
  have low : ∀ b o, s.heap.get? b = some o → b < H.objs.size := fun b o e => Nat.lt_of_lt_of_le (Heap.lt_size e) hZ
  have DC := D H2.objs.size
  have loop : ∀ s₃ : Shared, s₃ = { s with heap := h₁, toks := tk0 + ([] : List (Str × Value)).length } →
      codeAny (model prog w) A (.compLoop (.ListComp elt [⟨target, iter, [], 0⟩, ⟨.Name y py, iter1, [], 0⟩] scope pos) 0 it (.ref H.objs.size) (compEnvC scope cl H2.objs.size env))
        (compPost (model prog w) A E none Q (.ref H.objs.size) H2.objs.size) s₃ := by
    rintro s₃ rfl
    refine codeAny_loop rfl
      (fun k s' => ∃ h' tk m' ys i, s' = { s with heap := h', toks := tk } ∧ St i h' ∧ Kp s.heap h' ∧ h'.Ns H2.objs.size m' ∧ h'.get? H.objs.size = some (LCg.lst ys) ∧ J i 0 ys ∧ i ≤ n ∧ k = n + 1 - i) (fun k s' hI => ?_) (n + 1)
      ⟨h₁, _, _, [], 0, rfl, hst₁, hK.trans old, hns₁, hacc, hJ0, Nat.zero_le _, rfl⟩
    obtain ⟨h', tk, m', ys, i, rfl, hst', hK', hn', hD', hJ, hi, rfl⟩ := hI
    show wpAny _ A ((compTurn (.ListComp elt [⟨target, iter, [], 0⟩, ⟨.Name y py, iter1, [], 0⟩] scope pos) 0 it (.ref H.objs.size) (compEnvC scope cl H2.objs.size env)).onRaise (fun x => do noteFrame x (compEnvC scope cl H2.objs.size env); theTreesLotGoes x)) _ _ _
    refine wpAny_noted (wpAny_mono (E := fun _ _ => False) ?_ (fun _ _ h => h) fun _ _ h => h.elim)
    rw [compTurn_0]
    refine wpAny_bind (wpAny_standAt (wpAny_bind ?_))
    by_cases hlt : i < n
    · refine wpAny_mono (DC.item i { s with heap := h', toks := tk } m' (fun _ s₂ =>
          wpAny (model prog w) A (eval iter1 (compEnvC scope cl H2.objs.size env)) (fun xv s₃ => wpAny (model prog w) A (pyIter xv) (fun it1 s₄ => codeAny (model prog w) A (.compStart (.ListComp elt [⟨target, iter, [], 0⟩, ⟨.Name y py, iter1, [], 0⟩] scope pos) 1 it1 (.ref H.objs.size) (compEnvC scope cl H2.objs.size env))
            (fun r s₅ => r = .ok .next ∧ ∃ m, m < n + 1 - i ∧ ∃ h' tk m' ys i, s₅ = { s with heap := h', toks := tk } ∧ St i h' ∧ Kp s.heap h' ∧ h'.Ns H2.objs.size m' ∧ h'.get? H.objs.size = some (LCg.lst ys) ∧ J i 0 ys ∧ i ≤ n ∧ m = n + 1 - i) s₄) (fun _ _ => False) s₃) (fun _ _ => False) s₂)
          (fun _ _ => False) hlt hst' hn' hCf fun h₂ tk₂ m₂ hB hn₂ hst₂ hk₂ => ?_) (fun r s₁ h₁ => ?_) (fun _ _ h => h.elim)
      · have hwC : H2.objs.size ∉ wr := fun h => hCf (DC.sub _ h)
        have hK₂ : Kp s.heap h₂ := fun b o e => hk₂ b o (fun hb => by rw [hwr b hb] at e; cases e) (below b (low b o e)).1 (hK' b o e)
        have F₂ : Fr s.heap H2.objs.size h₂ m₂ := ⟨hn₂, hK₂, Nat.le_trans hZ hCle⟩
        have hD₂ : h₂.get? H.objs.size = some (LCg.lst ys) := hk₂ _ _ (fun h => hDf (DC.sub _ h)) hDC hD'
        refine wpAny_mono (turn H2.objs.size i m' m₂ ys h₂ tk₂ hlt hJ hB F₂) (fun xv s₃ h₃ => ?_) fun _ _ h => h
        obtain ⟨r, a, b, t, u, v, n1, rfl, ⟨h₄, tk₄, rfl, hk₄⟩, hr, hsm, hrn, hJz, hJn, el⟩ := h₃
        refine comp2_inner hh (lookup_relabel_local hy) (by simp [compEnvC, relabel, hkind]) (hn₂.keeps hk₄) (hk₄ _ _ hD₂) hDC hr hsm hrn (J i) hJ hJz (fun j t zs h tk hj hJj hkk hnn => ?_) fun h₅ tk₅ m₅ zs hJ₅ hkk hnn hD₅ => ?_
        · exact el j t zs h tk hj hJj ⟨hnn, fun b o e => hkk b o (below b (low b o e)).1 (below b (low b o e)).2 (hk₄ b o (hK₂ b o e)), Nat.le_trans hZ hCle⟩
        · refine ⟨rfl, n + 1 - (i + 1), by omega, h₅, tk₅, m₅, zs, i + 1, rfl, DC.frame _ _ _ hst₂ fun b hb o e => hkk b o (fun q => hCf ((show b = H2.objs.size from q) ▸ hb)) (fun q => hDf (q ▸ hb)) (hk₄ b o e), fun b o e => hkk b o (below b (low b o e)).1 (below b (low b o e)).2 (hk₄ b o (hK₂ b o e)), hnn, hD₅, hJn zs hJ₅, hlt, rfl⟩
      · obtain ⟨v, rfl, h₁⟩ := h₁
        refine wpAny_bind (wpAny_mono h₁ (fun _ s₀ h₀' => ?_) fun _ _ h' => h')
        refine wpAny_bind (wpAny_mono h₀' (fun _ s₂ h₂ => ?_) fun _ _ h' => h')
        refine wpAny_bind (wpAny_mono h₂ (fun xv s₃ h₃ => wpAny_bind (wpAny_standAt (wpAny_bind (wpAny_of_eq (hs1 _ xv) (wpAny_bind (wpAny_holding (wpAny_mono h₃ (fun it1 s₄ h₄ => ?_) fun _ _ h' => h'))))))) fun _ _ h' => h')
        have hm : A.mark none = A := by cases A; rfl
        refine wpAny_bind (wpAny_runOwn (hm.symm ▸ codeAny_mono h₄ fun r s₅ h₅ => ?_))
        obtain ⟨rfl, h₅⟩ := h₅
        exact wpAny_pure ⟨rfl, h₅⟩
    · obtain rfl : i = n := Nat.le_antisymm hi (Nat.not_lt.mp hlt)
      refine wpAny_mono (DC.done { s with heap := h', toks := tk } (fun s' => compPost (model prog w) A E none Q (.ref H.objs.size) H2.objs.size (.ok .next) s') (fun _ _ => False) hst' fun h₁ tk₁ hk₁ => ?_) (fun r s₁ h₁ => ?_) (fun _ _ h => h.elim)
      · have hwC : H2.objs.size ∉ wr := fun h => hCf (DC.sub _ h)
        refine ⟨m', hn'.at' fun o e => hk₁ _ o hwC e, fun h'' hs'' => done H.objs.size h'' tk₁ ys hJ (fun b o e => ?_) hZ ?_⟩
        · exact hs''.extBut b o (below b (low b o e)).1 (hk₁ b o (fun hb => by rw [hwr b hb] at e; cases e) (hK' b o e))
        · exact hs''.extBut _ _ hDC (hk₁ _ _ (fun h => hDf (DC.sub _ h)) hD')
      · obtain ⟨rfl, h₁⟩ := h₁
        exact wpAny_pure h₁
  exact codeAny_compStart_list (loop _ rfl) (DC.self 0 _ _ _ hst₁ (loop _ rfl))
end KR
end
section
variable {prog : Program} {w : World} {A : Around} {s : Shared} {env : Env}
theorem comp2_rule {elt target iter iter1 : Expr} {y : Str} {py : Pos} {scope : Scope} {cl : List (Str × Addr)} {pos : Pos} {Q : Value → Shared → Prop} {E : Value → Shared → Prop} (hh : A.handled = none)
    (hclos : closureFor scope env = pure cl) (hcell : ∀ y ∈ scope.names, y.2 ≠ .cell) (hkind : scope.kind = .function)
    (hnames : ∀ y ∈ scope.names, y.2 = .local → scope.names.lookup y.1 = some .local) (hy : scope.names.lookup y = some .local)
    (h : wpAny (model prog w) A (eval iter env) (fun xv s₁ => wpAny (model prog w) A (pyIter xv) (CompAt2 prog w A s env elt target iter1 y scope cl Q) E s₁) E s)
    (hs : ∀ x, foldedSetIterable iter env x = pure x := by intro _; rfl) (hs1 : ∀ env' x, foldedSetIterable iter1 env' x = pure x := by intro _ _; rfl) :
    wpAny (model prog w) A (eval (.ListComp elt [⟨target, iter, [], 0⟩, ⟨.Name y py, iter1, [], 0⟩] scope pos) env) Q E s := by
  exact KR.qA KR.qW prog w A s env elt target iter iter1 y py scope cl pos Q E hh hclos hcell hkind hnames hy h hs hs1
end
section
variable {prog : Program} {w : World} {A : Around} {E : Value → Shared → Prop} {s₀ : Shared} {env : Env}
/-- a comprehension over a range just made -/
theorem compRg {elt : Expr} {ifs : List Expr} {scope : Scope} {cl : List (Str × Addr)} {Q : Value → Shared → Prop} {x : Str} {px : Pos} {a b : Int} {t u v : Tok} {n tk r : Nat} {H : Heap} (hh : A.handled = none) (hr : IsRange H r a b 1 t u v) (hK : Kp s₀.heap H) (hZ : s₀.heap.objs.size ≤ H.objs.size)
    (hsm : Builtin.Range.small a b 1 = true) (hrn : Builtin.Range.rangeSize a b 1 = (n : Int)) (hx : scope.names.lookup x = some .local) (hkind : scope.kind = .function) (hz : n ≤ sizeLine) (J : Nat → List Value → Prop) (h0 : J 0 [])
    (el : Elts prog w A s₀ env elt ifs scope cl n (fun i m m' => ∃ t, m' = fun y => if y = x then some (.int (a + (i : Int)) t) else m y) J) (en : CEnd s₀ n J Q) :
    wpAny (model prog w) A (pyIter (.ref r)) (CompAt prog w A s₀ env elt (.Name x px) ifs scope cl Q) E { s₀ with heap := H, toks := tk } := by
  refine wpAny_pyIter_range (s := { s₀ with heap := H, toks := tk }) hr hsm ?_
  refine ⟨_, _, n, _, _, fun C => Dr.ofWalks (LCg.range_walks hh a n) (lookup_relabel_local hx) (by simp [compEnvC, relabel, hkind]), ?_, ?_, ?_, ⟨_, _, rfl, fun p o e => Heap.get?_push_of_some _ (hK _ _ e), ?_⟩, hz, J, h0, ?_, en⟩
  · show IsRangeIter _ _ _ _ _
    rw [hrn]
    simpa using Heap.get?_push_size _ rfl
  · intro p hp
    rw [List.mem_singleton.mp hp]
    show H.objs.size < Array.size (Heap.objs (Heap.push H _))
    rw [Heap.size_push]; exact Nat.lt_succ_self _
  · intro p hp
    rw [List.mem_singleton.mp hp]
    exact none_of_le hZ
  · show _ ≤ Array.size (Heap.objs (Heap.push H _))
    rw [Heap.size_push]; exact Nat.le_succ_of_le hZ
  · rintro C i m₁ m₂ ys h tk hi hJ ⟨v, ⟨t, rfl⟩, rfl⟩ F
    exact el C i m₁ _ ys h tk hi hJ ⟨t, rfl⟩ F
theorem push_le (h : Heap) (o : Obj) : h.objs.size ≤ (h.push o).objs.size := by rw [Heap.size_push]; exact Nat.le_succ _
theorem compR1 {s : Shared} {elt : Expr} {ifs : List Expr} {scope : Scope} {cl : List (Str × Addr)} {Q : Value → Shared → Prop} {x : Str} {px : Pos} {b : Int} {u : Tok} {n : Nat} (hh : A.handled = none) (U : Up s₀ s)
    (hsm : Builtin.Range.small 0 b 1 = true) (hrn : Builtin.Range.rangeSize 0 b 1 = (n : Int)) (hx : scope.names.lookup x = some .local) (hkind : scope.kind = .function) (hz : n ≤ sizeLine) (J : Nat → List Value → Prop) (h0 : J 0 [])
    (el : Elts prog w A s₀ env elt ifs scope cl n (fun i m m' => ∃ t, m' = fun y => if y = x then some (.int (0 + (i : Int)) t) else m y) J) (en : CEnd s₀ n J Q) :
    wpAny (model prog w) A (call (.type "range") [.int b u]) (fun xv s₁ => wpAny (model prog w) A (pyIter xv) (CompAt prog w A s₀ env elt (.Name x px) ifs scope cl Q) E s₁) E s := by
  obtain ⟨H, tk, rfl, k1, z1⟩ := U
  exact call_range_1 (compRg hh (IsRange.new _ _ _ _ _ _ _) (fun _ _ e => Heap.get?_push_of_some _ (k1 _ _ e)) (Nat.le_trans z1 (push_le _ _)) hsm hrn hx hkind hz J h0 el en)
theorem compR2 {s : Shared} {elt : Expr} {ifs : List Expr} {scope : Scope} {cl : List (Str × Addr)} {Q : Value → Shared → Prop} {x : Str} {px : Pos} {a b : Int} {t u : Tok} {n : Nat} (hh : A.handled = none) (U : Up s₀ s)
    (hsm : Builtin.Range.small a b 1 = true) (hrn : Builtin.Range.rangeSize a b 1 = (n : Int)) (hx : scope.names.lookup x = some .local) (hkind : scope.kind = .function) (hz : n ≤ sizeLine) (J : Nat → List Value → Prop) (h0 : J 0 [])
    (el : Elts prog w A s₀ env elt ifs scope cl n (fun i m m' => ∃ t, m' = fun y => if y = x then some (.int (a + (i : Int)) t) else m y) J) (en : CEnd s₀ n J Q) :
    wpAny (model prog w) A (call (.type "range") [.int a t, .int b u]) (fun xv s₁ => wpAny (model prog w) A (pyIter xv) (CompAt prog w A s₀ env elt (.Name x px) ifs scope cl Q) E s₁) E s := by
  obtain ⟨H, tk, rfl, k1, z1⟩ := U
  exact call_range_2 (compRg hh (IsRange.new _ _ _ _ _ _ _) (fun _ _ e => Heap.get?_push_of_some _ (k1 _ _ e)) (Nat.le_trans z1 (push_le _ _)) hsm hrn hx hkind hz J h0 el en)
theorem comp2R {s : Shared} {elt iter1 : Expr} {y : Str} {scope : Scope} {cl : List (Str × Addr)} {Q : Value → Shared → Prop} {x : Str} {px : Pos} {b : Int} {u : Tok} {n : Nat} (hh : A.handled = none) (U : Up s₀ s)
    (hsm : Builtin.Range.small 0 b 1 = true) (hrn : Builtin.Range.rangeSize 0 b 1 = (n : Int)) (hx : scope.names.lookup x = some .local) (hkind : scope.kind = .function) (J : Nat → Nat → List Value → Prop) (h0 : J 0 0 [])
    (turn : ∀ C i t (m₁ : Str → Option Value) ys h tk, i < n → J i 0 ys → Fr s₀.heap C h (fun y => if y = x then some (.int (i : Nat) t) else m₁ y) →
        wpAny (model prog w) A (eval iter1 (compEnvC scope cl C env)) (Turn2Q prog w A s₀ C (compEnvC scope cl C env) elt y (fun y => if y = x then some (.int (i : Nat) t) else m₁ y) J i h tk) (fun _ _ => False) { s₀ with heap := h, toks := tk })
    (en : CEnd s₀ n (fun i => J i 0) Q) :
    wpAny (model prog w) A (call (.type "range") [.int b u]) (fun xv s₁ => wpAny (model prog w) A (pyIter xv) (CompAt2 prog w A s₀ env elt (.Name x px) iter1 y scope cl Q) E s₁) E s := by
  obtain ⟨H0, tk0, rfl, k1, z1⟩ := U
  refine call_range_1 ?_
  have hr := IsRange.new H0 0 b 1 tk0 u (tk0 + 1)
  have hK : Kp s₀.heap (H0.push { cls := .type "range", data := .fields #[.int 0 tk0, .int b u, .int 1 (tk0 + 1)] }) := fun _ _ e => Heap.get?_push_of_some _ (k1 _ _ e)
  have hZ := Nat.le_trans z1 (push_le H0 { cls := .type "range", data := .fields #[.int 0 tk0, .int b u, .int 1 (tk0 + 1)] })
  dsimp only
  generalize H0.push { cls := .type "range", data := .fields #[.int 0 tk0, .int b u, .int 1 (tk0 + 1)] } = H at hr hK hZ ⊢
  refine wpAny_pyIter_range (s := { s₀ with heap := H, toks := tk0 + 1 + 1 }) hr hsm ?_
  refine ⟨_, _, n, _, _, fun C => Dr.ofWalks (LCg.range_walks hh 0 n) (lookup_relabel_local hx) (by simp [compEnvC, relabel, hkind]), ?_, ?_, ?_, ⟨_, _, rfl, fun p o e => Heap.get?_push_of_some _ (hK _ _ e), ?_⟩, J, h0, ?_, en⟩
  · show IsRangeIter _ _ _ _ _
    rw [hrn]
    simpa using Heap.get?_push_size _ rfl
  · intro p hp
    rw [List.mem_singleton.mp hp]
    show H.objs.size < Array.size (Heap.objs (Heap.push H _))
    rw [Heap.size_push]; exact Nat.lt_succ_self _
  · intro p hp
    rw [List.mem_singleton.mp hp]
    exact none_of_le hZ
  · show _ ≤ Array.size (Heap.objs (Heap.push H _))
    rw [Heap.size_push]; exact Nat.le_succ_of_le hZ
  · rintro C i m₁ m₂ ys h tk hi hJ ⟨v, ⟨t, rfl⟩, rfl⟩ F
    rw [Int.zero_add] at F ⊢
    exact turn C i t m₁ ys h tk hi hJ F
end
/-- a comprehension stored in a local: what must hold as the list is stored -/
def AsgQ (prog : Program) (w : World) (A : Around) (s : Shared) (env : Env) (y : Str) (py : Pos) (Q : Flow → Shared → Prop) (E : Value → Shared → Prop) (v : Value) (s' : Shared) : Prop :=
  ∀ C m', s'.heap.Ns C m' → s.heap.objs.size ≤ C → (∀ D, v = .ref D → D ≠ C) → wpAny (model prog w) A (assign (.Name y py) env v) (fun _ s'' => ∃ m, s''.heap.Ns C m ∧ ∀ h', Heap.SameBut C s''.heap h' → Q .next { s'' with heap := h' }) E s'
section
variable {prog : Program} {w : World} {A : Around} {s : Shared} {env : Env}
theorem comp_ruleA {elt target iter : Expr} {y : Str} {py spos : Pos} {ifs : List Expr} {scope : Scope} {cl : List (Str × Addr)} {pos : Pos} {Q : Flow → Shared → Prop} {E : Value → Shared → Prop}
    (hsw : swapsWith (.ListComp elt [⟨target, iter, ifs, 0⟩] scope pos) (some (.Name y py)) spos.line env = pure true)
    (hclos : closureFor scope env = pure cl) (hcell : ∀ y ∈ scope.names, y.2 ≠ .cell) (hkind : scope.kind = .function)
    (hnames : ∀ y ∈ scope.names, y.2 = .local → scope.names.lookup y.1 = some .local)
    (h : wpAny (model prog w) A (eval iter env) (fun xv s₁ => wpAny (model prog w) A (pyIter xv) (CompAt prog w A s env elt target ifs scope cl (AsgQ prog w A s env y py Q E)) E s₁) E s)
    (hs : ∀ x, foldedSetIterable iter env x = pure x := by intro _; rfl) :
    wpAny (model prog w) A (exec (.Assign [.Name y py] (.ListComp elt [⟨target, iter, ifs, 0⟩] scope pos) spos) env) Q E s := by
  rw [exec_Assign_Name_used _ _ _ _ hsw]
  refine wpAny_bind (wpAny_standAt (wpAny_bind ?_))
  show wpAny _ A (do let _ ← comprehension (.ListComp elt [⟨target, iter, ifs, 0⟩] scope pos) scope env _ (newList []) false (eval iter env) (some (assign (.Name y py) env))) _ _ s
  refine wpAny_bind (wpAny_mono (wpAny_comprehension_free (use := some (assign (.Name y py) env)) (Q := fun _ s' => Q .next s') rfl hs hclos hkind hnames
    (wpAny_mono h (fun xv s₁ h₁ => wpAny_mono h₁ (fun it s₂ h₂ => comp_core hcell hkind h₂ fun D C h tk m' hn hz hDC q => q h (Heap.SameBut.refl _ _) C m' hn hz (fun D' e => by cases e; exact hDC)) fun _ _ e => e) fun _ _ e => e)) (fun _ s' hq => wpAny_pure (wpAny_pure hq)) fun _ _ e => e)
theorem asg_fin {h₀ h : Heap} {y : Str} {py : Pos} {D tk : Nat} {o : Obj} {m : Str → Option Value} {news : List (Addr × Obj)} {Q : Flow → Shared → Prop} {E : Value → Shared → Prop}
    (F : Fr h₀ env.locals s.heap m) (N : News h₀ env.locals s.heap news) (kp : Kp s.heap h) (hz : s.heap.objs.size ≤ D) (hD : h.get? D = some o) (hy : env.kindOf y = some .local) (hp : (env.scope.kind == .class || (env.scope.kind == .module && env.locals != env.globals)) = false)
    (q : ∀ h' tk', Fr h₀ env.locals h' (fun z => if z = y then some (.ref D) else m z) → News h₀ env.locals h' ((D, o) :: news) → (∀ p ∈ news, p.1 < D) → Q .next { s with heap := h', toks := tk' }) :
    AsgQ prog w A s env y py Q E (.ref D) { s with heap := h, toks := tk } := by
  intro C m' hn hC hDC
  obtain ⟨F', N', l⟩ := led_new F N kp hz hD
  have hDC := hDC D rfl
  have hLC : env.locals ≠ C := Nat.ne_of_lt (Nat.lt_of_lt_of_le F.ns.lt hC)
  have hC₀ : h₀.get? C = none := none_of_le (Nat.le_trans F.above (Nat.le_trans (Nat.le_of_lt F.ns.lt) hC))
  refine wpAny_assign_Name (wpAny_storeName_local hy F'.ns (fun h₂ hn₂ hs₂ => ?_) hp)
  have hL₀ : h₀.get? env.locals = none := none_of_le F'.above
  have F₂ : Fr h₀ env.locals h₂ (fun z => if z = y then some (.ref D) else m z) := ⟨hn₂, fun b o e => hs₂.extBut b o (fun q => by rw [q, hL₀] at e; cases e) (F'.keep b o e), F'.above⟩
  refine ⟨m', hn.sameBut hs₂ (Ne.symm hLC), fun h'' hs'' => q h'' _ (F₂.change hs'' (Ne.symm hLC) hC₀) (fun p hp => ?_) l⟩
  have z : h₂.get? p.1 = some p.2 := hs₂.extBut _ _ (N' p hp).2.1 (N' p hp).1
  refine ⟨hs''.extBut _ _ ?_ z, (N' p hp).2⟩
  rcases List.mem_cons.mp hp with rfl | hp
  · exact hDC
  · exact Nat.ne_of_lt (Nat.lt_of_lt_of_le (Heap.lt_size (N p hp).1) hC)
end

end

section
theorem part_iseof : True := by
  w_top off
  exact trivial
section
variable {w : World} {lo : List Str} {me : ExcName → Option Value} {mg mb : Str → Option Value} {A : Around} {s : Shared}
set_option maxHeartbeats 4000000 in
theorem iseof_c (X : (Mine.Kc w.params).In s.heap) (T : Top topProg lo me mg mb s.heap) (R : Rm A 2 20) (x : Int) (t : Tok) :
    wpAny (model PySem.Challenge.rw_to0028_01.row.prog w) A (call (.ref 91) [.int x t]) (An s fun v _ => v = .bool (x == 0)) (fun _ _ => False) s := by
  obtain ⟨hh, hd, hu⟩ := R
  k_dflt tb_start
  k_steps
  all_goals exact ⟨_, _, rfl, Fr.keep (by assumption), rfl⟩
end

end

section
theorem part_lean : True := by
  w_top off
  exact trivial
local macro_rules | `(tactic| walk_at "pad") => `(tactic| fail)
section
variable {w : World} {lo : List Str} {me : ExcName → Option Value} {mg mb : Str → Option Value} {A : Around} {s : Shared}
def leanGo : List Int → Int → Int → Int
  | [], _, t => t
  | p :: r, i, t => leanGo r (i + 1) (t + Int.fdiv (p * (p - 1)) 2 - i * p)
def leanF (xs : List Int) : Int := leanGo xs.reverse 0 0
theorem leanGo_take (ys : List Int) : ∀ (i : Nat) (k t : Int) (x : Int), ys[i]? = some x → leanGo (ys.take (i + 1)) k t = leanGo (ys.take i) k t + Int.fdiv (x * (x - 1)) 2 - (k + i) * x := by
  induction ys with
  | nil => intro i k t x h; simp at h
  | cons y r ih =>
    intro i k t x h
    cases i with
    | zero => simp at h; subst h; simp [leanGo]
    | succ i =>
      simp at h
      simp only [List.take_succ_cons, leanGo]
      rw [ih i _ _ x h]
      have : k + 1 + (i : Int) = k + ((i + 1 : Nat) : Int) := by push_cast; omega
      rw [this]
end
section

namespace EC
abbrev qT := (World) × (List Str) × (ExcName → Option Value) × (Str → Option Value) × (Str → Option Value) × (Around) × (Shared) × (Addr)
def qP (w : World) (lo : List Str) (me : ExcName → Option Value) (mg : Str → Option Value) (mb : Str → Option Value) (A : Around) (s : Shared) (pa : Addr) : Prop := ∀ (X : (Mine.Kc w.params).In s.heap) (T : Top topProg lo me mg mb s.heap) (R : Rm A 2 20) (vs : List Value) (xs : List Int) (hI : IntsAre vs xs) (hl : s.heap.IsList pa vs.toArray) (hz : xs.length ≤ 64) (hx : ∀ x ∈ xs, 0 ≤ x ∧ x ≤ 64), wpAny (model PySem.Challenge.rw_to0028_01.row.prog w) A (call (.ref 157) [.ref pa]) (An s fun v _ => ∃ t, v = .int (leanF xs) t) (fun _ _ => False) s
theorem qN : Nonempty qT := ⟨(PySem.W.aWorld 0, default, default, default, default, ⟨none, 0, none, none, 0⟩, {}, default)⟩
noncomputable def qk : qT := (Classical.choice (drink qN fun v => qP v.1 v.2.1 v.2.2.1 v.2.2.2.1 v.2.2.2.2.1 v.2.2.2.2.2.1 v.2.2.2.2.2.2.1 v.2.2.2.2.2.2.2)).1
noncomputable def w : World := qk.1
noncomputable def lo : List Str := qk.2.1
noncomputable def me : ExcName → Option Value := qk.2.2.1
noncomputable def mg : Str → Option Value := qk.2.2.2.1
noncomputable def mb : Str → Option Value := qk.2.2.2.2.1
noncomputable def A : Around := qk.2.2.2.2.2.1
noncomputable def s : Shared := qk.2.2.2.2.2.2.1
noncomputable def pa : Addr := qk.2.2.2.2.2.2.2
theorem qA (h : qP w lo me mg mb A s pa) (w : World) (lo : List Str) (me : ExcName → Option Value) (mg : Str → Option Value) (mb : Str → Option Value) (A : Around) (s : Shared) (pa : Addr) : qP w lo me mg mb A s pa := (Classical.choice (drink qN fun v => qP v.1 v.2.1 v.2.2.1 v.2.2.2.1 v.2.2.2.2.1 v.2.2.2.2.2.1 v.2.2.2.2.2.2.1 v.2.2.2.2.2.2.2)).2 h (w, lo, me, mg, mb, A, s, pa)
set_option maxHeartbeats 4000000 in
theorem qW : qP w lo me mg mb A s pa := by
  intro X T R vs xs hI hl hz hx
  obtain ⟨hh, hd, hu⟩ := R
  k_dflt tb_start
  k_steps
  rename News _ _ _ _ => N1
  rename Fr _ _ _ _ => F1
  rename IntsAre _ (List.reverse xs) => hI2
  refine forE_m ?hh .led F1 N1 (fun p hp => hp) rfl rfl rfl (fun i m' => ∃ t, m' "total" = some (.int (leanGo (xs.reverse.take i) 0 0) t)) ?h0 ?turn ?done
  case hh => exact hh
  case h0 => exact ⟨_, rfl⟩
  case done =>
    rintro m₁ h tk ⟨t, ht⟩ F2 N2
    rw [List.take_of_length_le (by rw [hI2.length]; exact Nat.le_refl _)] at ht
    clear F1 N1
    k_steps
  case turn =>
    rintro i v t m₁ h tk own hv ⟨t1, ht⟩ F2 N2 sep
    obtain ⟨x, tx, hx1, rfl⟩ := intsAre_get hI2 hv
    have hb := hx x (List.mem_reverse.mp (List.mem_of_getElem? hx1))
    have hi : (i : Int) ≤ 64 := by have := (List.getElem?_eq_some_iff.mp hx1).1; rw [List.length_reverse] at this; omega
    have e1 := (leanGo_take xs.reverse i 0 0 x hx1).symm
    rw [Int.zero_add] at e1
    clear F1 N1
    k_steps
    all_goals exact TEndM.next (by assumption) (by assumption) sep ⟨_, (if_pos rfl).trans (some_int e1)⟩ (fun _ h => h)
end EC
end
section
variable {w : World} {lo : List Str} {me : ExcName → Option Value} {mg mb : Str → Option Value} {A : Around} {s : Shared}
theorem lean_c (X : (Mine.Kc w.params).In s.heap) (T : Top topProg lo me mg mb s.heap) (R : Rm A 2 20) (pa : Addr) (vs : List Value) (xs : List Int) (hI : IntsAre vs xs) (hl : s.heap.IsList pa vs.toArray) (hz : xs.length ≤ 64) (hx : ∀ x ∈ xs, 0 ≤ x ∧ x ≤ 64) :
    wpAny (model PySem.Challenge.rw_to0028_01.row.prog w) A (call (.ref 157) [.ref pa]) (An s fun v _ => ∃ t, v = .int (leanF xs) t) (fun _ _ => False) s := by
  exact EC.qA EC.qW w lo me mg mb A s pa X T R vs xs hI hl hz hx
end

end

section
theorem part_text : True := by
  w_top off
  exact trivial
local macro_rules | `(tactic| walk_at "pad") => `(tactic| fail)
local macro_rules | `(tactic| walk_at "pad") => `(tactic| fail)
section
variable {w : World} {lo : List Str} {me : ExcName → Option Value} {mg mb : Str → Option Value} {A : Around} {s : Shared}
def textGo : List Int → Int → Str → Str
  | [], _, acc => acc
  | p :: r, a, acc => textGo r p ((acc ++ Txt.mul (Str.ofString "o") (p - a)) ++ Str.ofString "\\o")
def textF (xs : List Int) : Str := textGo xs 0 (Str.ofString "")
def lastD : List Int → Int → Int
  | [], a => a
  | p :: r, _ => lastD r p
theorem lastD_take (ys : List Int) : ∀ (i : Nat) (a x : Int), ys[i]? = some x → lastD (ys.take (i + 1)) a = x := by
  induction ys with
  | nil => intro i a x h; simp at h
  | cons y r ih =>
    intro i a x h
    cases i with
    | zero => simp at h; subst h; simp [lastD]
    | succ i => simp at h; simp only [List.take_succ_cons, lastD]; exact ih i _ x h
theorem textGo_take (ys : List Int) : ∀ (i : Nat) (a x : Int) (acc : Str), ys[i]? = some x → textGo (ys.take (i + 1)) a acc = (textGo (ys.take i) a acc ++ Txt.mul (Str.ofString "o") (x - lastD (ys.take i) a)) ++ Str.ofString "\\o" := by
  induction ys with
  | nil => intro i a x acc h; simp at h
  | cons y r ih =>
    intro i a x acc h
    cases i with
    | zero => simp at h; subst h; simp [textGo, lastD]
    | succ i => simp at h; simp only [List.take_succ_cons, textGo, lastD]; exact ih i _ x _ h
theorem lastD_in (ys : List Int) (P : Int → Prop) (h : ∀ y ∈ ys, P y) : ∀ a, P a → P (lastD ys a) := by
  induction ys with
  | nil => intro a ha; exact ha
  | cons y r ih => intro a ha; exact ih (fun z hz => h z (.tail _ hz)) y (h y (.head _))
theorem len_o (n : Int) : (Txt.mul (Str.ofString "o") n).length ≤ n.toNat := by
  have e := len_mul (Str.ofString "o") n
  rw [show (Str.ofString "o").length = 1 from by decide] at e
  by_cases h : n < 0
  · rw [if_pos (decide_eq_true h)] at e; omega
  · rw [if_neg (fun c => h (of_decide_eq_true c))] at e; omega
theorem text_len (ys : List Int) (i : Nat) (x : Int) (h : ys[i]? = some x) (hx : x ≤ 64) (h0 : 0 ≤ lastD (ys.take i) 0) (hl : (textGo (ys.take i) 0 (Str.ofString "")).length ≤ 66 * i) : (textGo (ys.take (i + 1)) 0 (Str.ofString "")).length ≤ 66 * (i + 1) := by
  rw [textGo_take ys i 0 x _ h, Str.length_append, Str.length_append, show (Str.ofString "\\o").length = 2 from by decide]
  have := len_o (x - lastD (ys.take i) 0)
  omega
end
section
local macro_rules | `(tactic| walk_at "exec For Name Name cons nil") => `(tactic| (k_here; (rename Fr _ _ _ _ => lF'); (with_unfolding_all refine' for_ruleF lF' ?_ ?k1; (case k1 => exact fun _ => rfl); k_whole)))
namespace XC
abbrev qT := (World) × (List Str) × (ExcName → Option Value) × (Str → Option Value) × (Str → Option Value) × (Around) × (Shared) × (Addr)
def qP (w : World) (lo : List Str) (me : ExcName → Option Value) (mg : Str → Option Value) (mb : Str → Option Value) (A : Around) (s : Shared) (pa : Addr) : Prop := ∀ (X : (Mine.Kc w.params).In s.heap) (T : Top topProg lo me mg mb s.heap) (R : Rm A 2 20) (vs : List Value) (xs : List Int) (hI : IntsAre vs xs) (hl : s.heap.IsList pa vs.toArray) (hz : xs.length ≤ 64) (hx : ∀ x ∈ xs, 0 ≤ x ∧ x ≤ 64), wpAny (model PySem.Challenge.rw_to0028_01.row.prog w) A (call (.ref 131) [.ref pa]) (An s fun v _ => ∃ t, v = .str (textF xs) t) (fun _ _ => False) s
theorem qN : Nonempty qT := ⟨(PySem.W.aWorld 0, default, default, default, default, ⟨none, 0, none, none, 0⟩, {}, default)⟩
noncomputable def qk : qT := (Classical.choice (drink qN fun v => qP v.1 v.2.1 v.2.2.1 v.2.2.2.1 v.2.2.2.2.1 v.2.2.2.2.2.1 v.2.2.2.2.2.2.1 v.2.2.2.2.2.2.2)).1
noncomputable def w : World := qk.1
noncomputable def lo : List Str := qk.2.1
noncomputable def me : ExcName → Option Value := qk.2.2.1
noncomputable def mg : Str → Option Value := qk.2.2.2.1
noncomputable def mb : Str → Option Value := qk.2.2.2.2.1
noncomputable def A : Around := qk.2.2.2.2.2.1
noncomputable def s : Shared := qk.2.2.2.2.2.2.1
noncomputable def pa : Addr := qk.2.2.2.2.2.2.2
theorem qA (h : qP w lo me mg mb A s pa) (w : World) (lo : List Str) (me : ExcName → Option Value) (mg : Str → Option Value) (mb : Str → Option Value) (A : Around) (s : Shared) (pa : Addr) : qP w lo me mg mb A s pa := (Classical.choice (drink qN fun v => qP v.1 v.2.1 v.2.2.1 v.2.2.2.1 v.2.2.2.2.1 v.2.2.2.2.2.1 v.2.2.2.2.2.2.1 v.2.2.2.2.2.2.2)).2 h (w, lo, me, mg, mb, A, s, pa)
set_option maxHeartbeats 4000000 in
theorem qW : qP w lo me mg mb A s pa := by
  intro X T R vs xs hI hl hz hx
  obtain ⟨hh, hd, hu⟩ := R
  k_dflt tb_start
  k_steps
  rename News _ _ _ _ => N1
  rename Fr _ _ _ _ => F1
  refine forL_m ?hh (.old hl) F1 N1 (fun p hp => nomatch hp) rfl rfl (fun i m' => (∃ t, m' "text" = some (.str (textGo (xs.take i) 0 (Str.ofString "")) t)) ∧ (∃ t, m' "ahead" = some (.int (lastD (xs.take i) 0) t)) ∧ (textGo (xs.take i) 0 (Str.ofString "")).length ≤ 66 * i) ?h0 ?turn ?done
  case hh => exact hh
  case h0 => exact ⟨⟨_, rfl⟩, ⟨_, rfl⟩, by show (Str.ofString "").length ≤ 0; decide⟩
  case done =>
    rintro m₁ h tk ⟨⟨t, ht⟩, _, _⟩ F2 N2
    rw [List.take_of_length_le (by rw [hI.length]; exact Nat.le_refl _)] at ht
    clear F1 N1
    k_steps
  case turn =>
    rintro i v m₁ h tk own hv ⟨⟨t1, ht⟩, ⟨t2, ha⟩, hlen⟩ F2 N2 sep
    obtain ⟨x, tx, hx1, rfl⟩ := intsAre_get hI hv
    have hb := hx x (List.mem_of_getElem? hx1)
    have hbl := lastD_in (xs.take i) (fun y => 0 ≤ y ∧ y ≤ 64) (fun y hy => hx y (List.mem_of_mem_take hy)) 0 (by decide)
    have hi : (i : Int) ≤ 64 := by have := (List.getElem?_eq_some_iff.mp hx1).1; omega
    have e1 := (textGo_take xs i 0 x (Str.ofString "") hx1).symm
    have e2 := (lastD_take xs i 0 x hx1).symm
    have hlen' : (textGo (xs.take i) 0 (Str.ofString "")).length ≤ 4300 := by omega
    clear F1 N1
    k_steps
    all_goals refine TEndM.next (by assumption) (by assumption) sep ?_ (fun _ h => h)
    all_goals exact ⟨⟨_, (if_neg (by decide)).trans ((if_pos rfl).trans (some_str e1))⟩, ⟨_, (if_pos rfl).trans (some_int e2)⟩, text_len xs i x hx1 hb.2 hbl.1 hlen⟩
end XC
end
section
variable {w : World} {lo : List Str} {me : ExcName → Option Value} {mg mb : Str → Option Value} {A : Around} {s : Shared}
theorem text_c (X : (Mine.Kc w.params).In s.heap) (T : Top topProg lo me mg mb s.heap) (R : Rm A 2 20) (pa : Addr) (vs : List Value) (xs : List Int) (hI : IntsAre vs xs) (hl : s.heap.IsList pa vs.toArray) (hz : xs.length ≤ 64) (hx : ∀ x ∈ xs, 0 ≤ x ∧ x ≤ 64) :
    wpAny (model PySem.Challenge.rw_to0028_01.row.prog w) A (call (.ref 131) [.ref pa]) (An s fun v _ => ∃ t, v = .str (textF xs) t) (fun _ _ => False) s := by
  exact XC.qA XC.qW w lo me mg mb A s pa X T R vs xs hI hl hz hx
end

end

section
theorem part_cells : True := by
  w_top off
  exact trivial
section
variable {w : World} {lo : List Str} {me : ExcName → Option Value} {mg mb : Str → Option Value} {A : Around} {s : Shared}
/-- five cells -/
def Five (h : Heap) (D : Addr) (B : Int) : Prop := ∃ vs xs k, h.get? D = some (listOf vs.toArray k) ∧ IntsAre vs xs ∧ xs.length = 5 ∧ ∀ x ∈ xs, 0 ≤ x ∧ x ≤ B
end
section

namespace CC
abbrev qT := (World) × (List Str) × (ExcName → Option Value) × (Str → Option Value) × (Str → Option Value) × (Around) × (Shared) × (Addr) × (Addr)
def qP (w : World) (lo : List Str) (me : ExcName → Option Value) (mg : Str → Option Value) (mb : Str → Option Value) (A : Around) (s : Shared) (sa : Addr) (oa : Addr) : Prop := ∀ (X : (Mine.Kc w.params).In s.heap) (T : Top topProg lo me mg mb s.heap) (R : Rm A 2 20) (vs : List Value) (ws : List Value) (ns : List Int) (os : List Int) (hI : IntsAre vs ns) (hl : s.heap.IsList sa vs.toArray) (hn : ns.length ≤ 63) (hI2 : IntsAre ws os) (hl2 : s.heap.IsList oa ws.toArray) (ho : os.length = 5) (hb : ∀ x ∈ os, 0 ≤ x ∧ x ≤ 8), wpAny (model PySem.Challenge.rw_to0028_01.row.prog w) A (call (.ref 105) [.ref sa, .ref oa]) (An s fun v h => ∃ D, v = .ref D ∧ s.heap.get? D = none ∧ Five h D 20000) (fun _ _ => False) s
theorem qN : Nonempty qT := ⟨(PySem.W.aWorld 0, default, default, default, default, ⟨none, 0, none, none, 0⟩, {}, default, default)⟩
noncomputable def qk : qT := (Classical.choice (drink qN fun v => qP v.1 v.2.1 v.2.2.1 v.2.2.2.1 v.2.2.2.2.1 v.2.2.2.2.2.1 v.2.2.2.2.2.2.1 v.2.2.2.2.2.2.2.1 v.2.2.2.2.2.2.2.2)).1
noncomputable def w : World := qk.1
noncomputable def lo : List Str := qk.2.1
noncomputable def me : ExcName → Option Value := qk.2.2.1
noncomputable def mg : Str → Option Value := qk.2.2.2.1
noncomputable def mb : Str → Option Value := qk.2.2.2.2.1
noncomputable def A : Around := qk.2.2.2.2.2.1
noncomputable def s : Shared := qk.2.2.2.2.2.2.1
noncomputable def sa : Addr := qk.2.2.2.2.2.2.2.1
noncomputable def oa : Addr := qk.2.2.2.2.2.2.2.2
theorem qA (h : qP w lo me mg mb A s sa oa) (w : World) (lo : List Str) (me : ExcName → Option Value) (mg : Str → Option Value) (mb : Str → Option Value) (A : Around) (s : Shared) (sa : Addr) (oa : Addr) : qP w lo me mg mb A s sa oa := (Classical.choice (drink qN fun v => qP v.1 v.2.1 v.2.2.1 v.2.2.2.1 v.2.2.2.2.1 v.2.2.2.2.2.1 v.2.2.2.2.2.2.1 v.2.2.2.2.2.2.2.1 v.2.2.2.2.2.2.2.2)).2 h (w, lo, me, mg, mb, A, s, sa, oa)
set_option maxHeartbeats 4000000 in
theorem qW : qP w lo me mg mb A s sa oa := by
  intro X T R vs ws ns os hI hl hn hI2 hl2 ho hb
  obtain ⟨hh, hd, hu⟩ := R
  k_dflt tb_start
  k_steps
  rename News _ _ _ _ => N1
  rename Fr _ _ _ _ => F1
  rename IntsAre _ (List.take 20 ns) => hI3
  refine forE_o [_] ?hh .led F1 N1 (fun p hp => hp) rfl rfl rfl (fun D i m' o => m' "cells" = some (.ref D) ∧ ∃ ws2 ys k, o = listOf (List.toArray ws2) k ∧ IntsAre ws2 ys ∧ ys.length = 5 ∧ ∀ y ∈ ys, 0 ≤ y ∧ y ≤ 8 + 900 * i) ?h0 ?turn ?done
  case hh => exact hh
  case h0 => exact ⟨rfl, _, _, _, rfl, hI2, ho, fun y hy => ⟨(hb y hy).1, by have := (hb y hy).2; omega⟩⟩
  case done =>
    rintro m₁ o₁ h tk ⟨hc, ws2, ys, k, rfl, hI4, hl4, hb4⟩ F2 N2
    have hlen := hI3.length
    rw [List.length_take] at hlen
    have hi9 : vs.length = ns.length := hI.length
    have hl20 := hlen
    clear F1 N1
    k_steps
    · exact (N2 _ (List.mem_append_right _ (.head _))).2.2
    · exact ⟨_, _, _, News.get N2 (List.mem_append_right _ (.head _)), hI4, hl4, fun y hy => ⟨(hb4 y hy).1, up900z (hb4 y hy).2 hl20⟩⟩
  case turn =>
    rintro i v t m₁ o₁ h tk own hv ⟨hc, ws2, ys, k, rfl, hI4, hl4, hb4⟩ F2 N2 sep so
    obtain ⟨x, tx, hx1, rfl⟩ := intsAre_get hI3 hv
    simp only [List.cons_append, List.nil_append] at N2
    clear F1 N1
    k_steps
    rename News _ _ _ _ => N3
    refine TEndO.next (by assumption) N3 sep (fun _ h => h) ⟨?_, _, _, _, rfl, by assumption, by rw [List.length_set]; exact hl4, fun y hy => ?_⟩
    · ktr_rel
    have h900 : 0 ≤ Int.fmod x 900 ∧ Int.fmod x 900 < 900 := ⟨Int.fmod_nonneg_of_pos _ (by decide), Int.fmod_lt_of_pos _ (by decide)⟩
    have hg : 0 ≤ ys.getD (Int.fmod (i : Int) (ys.length : Int)).toNat 0 ∧ ys.getD (Int.fmod (i : Int) (ys.length : Int)).toNat 0 ≤ 8 + 900 * i := by
      rw [List.getD_eq_getElem?_getD]
      cases e : ys[(Int.fmod (i : Int) (ys.length : Int)).toNat]? with
      | none => exact ⟨Int.le_refl _, by show (0 : Int) ≤ _; omega⟩
      | some z => exact hb4 z (List.mem_of_getElem? e)
    rcases List.mem_or_eq_of_mem_set hy with h1 | h1
    · exact up900' (hb4 y h1)
    · rw [h1]; exact up900 hg h900
end CC
end
section
variable {w : World} {lo : List Str} {me : ExcName → Option Value} {mg mb : Str → Option Value} {A : Around} {s : Shared}
theorem cells_c (X : (Mine.Kc w.params).In s.heap) (T : Top topProg lo me mg mb s.heap) (R : Rm A 2 20) (sa oa : Addr) (vs ws : List Value) (ns os : List Int) (hI : IntsAre vs ns) (hl : s.heap.IsList sa vs.toArray) (hn : ns.length ≤ 63)
    (hI2 : IntsAre ws os) (hl2 : s.heap.IsList oa ws.toArray) (ho : os.length = 5) (hb : ∀ x ∈ os, 0 ≤ x ∧ x ≤ 8) :
    wpAny (model PySem.Challenge.rw_to0028_01.row.prog w) A (call (.ref 105) [.ref sa, .ref oa]) (An s fun v h => ∃ D, v = .ref D ∧ s.heap.get? D = none ∧ Five h D 20000) (fun _ _ => False) s := by
  exact CC.qA CC.qW w lo me mg mb A s sa oa X T R vs ws ns os hI hl hn hI2 hl2 ho hb
end

end

section
theorem part_words : True := by
  w_top off
  exact trivial
local macro_rules | `(tactic| walk_at "pad") => `(tactic| fail)
section
variable {w : World} {lo : List Str} {me : ExcName → Option Value} {mg mb : Str → Option Value} {A : Around} {s : Shared}
abbrev tupO (a : Int) (ta : Tok) (b : Int) (tb : Tok) : Obj := { cls := .type "tuple", data := .seq #[.int a ta, .int b tb] }
/-- a list's values are pairs that the ledger holds -/
inductive WordsIn (tl : List (Addr × Obj)) : List Value → List (Int × Int) → Prop
  | nil : WordsIn tl [] []
  | cons {T : Addr} {a b : Int} {ta tb : Tok} {vs : List Value} {ps : List (Int × Int)} : (T, tupO a ta b tb) ∈ tl → WordsIn tl vs ps → WordsIn tl (.ref T :: vs) ((a, b) :: ps)
theorem WordsIn.mono {tl tl' : List (Addr × Obj)} {vs : List Value} {ps : List (Int × Int)} (h : WordsIn tl vs ps) (hs : ∀ p ∈ tl, p ∈ tl') : WordsIn tl' vs ps := by
  induction h with
  | nil => exact .nil
  | cons hm _ ih => exact .cons (hs _ hm) ih
theorem WordsIn.snoc {tl : List (Addr × Obj)} {vs : List Value} {ps : List (Int × Int)} {T : Addr} {a b : Int} {ta tb : Tok} (h : WordsIn tl vs ps) (hm : (T, tupO a ta b tb) ∈ tl) : WordsIn tl (vs ++ [.ref T]) (ps ++ [(a, b)]) := by
  induction h with
  | nil => exact .cons hm .nil
  | cons hm' _ ih => exact .cons hm' ih
theorem WordsIn.at {tl : List (Addr × Obj)} {vs : List Value} {ps : List (Int × Int)} {h₀ h : Heap} {L : Addr} (H : WordsIn tl vs ps) (N : News h₀ L h tl) : WordsAt h vs ps := by
  induction H with
  | nil => exact .nil
  | cons hm _ ih => exact .cons ⟨_, (N _ hm).1, rfl, _, rfl⟩ ih
theorem WordsIn.length {tl : List (Addr × Obj)} {vs : List Value} {ps : List (Int × Int)} (h : WordsIn tl vs ps) : vs.length = ps.length := by
  induction h with
  | nil => rfl
  | cons _ _ ih => simp [ih]
theorem fm_take {α β : Type} (f : α → Option β) (l : List α) (i : Nat) (a : α) (h : l[i]? = some a) : (l.take (i + 1)).filterMap f = (l.take i).filterMap f ++ (f a).toList := by
  rw [List.take_add_one, h, List.filterMap_append]
  cases e : f a <;> simp [e]
def wordOf (p : Int × Int) : Option (Int × Int) := if Int.fmod p.1 p.2 > 0 then some (Int.fmod p.1 p.2, Int.fmod (Int.fdiv p.1 p.2) 3) else none
def widths : List Int := [9, 5, 3, 3]
theorem words_led {h₀ h : Heap} {L D1 D2 : Addr} {t1 t2 t3 t4 : Tok} (N : News h₀ L h [(D2, listOf #[.int 9 t1, .int 5 t2, .int 3 t3, .int 3 t4] 0), (D1, listOf #[] 0)]) :
    ∃ vs2, IntsAre vs2 widths ∧ News h₀ L h [(D1, listOf (List.toArray []) 0), (D2, listOf (List.toArray vs2) 0)] :=
  ⟨[.int 9 t1, .int 5 t2, .int 3 t3, .int 3 t4], .cons _ _ (.cons _ _ (.cons _ _ (.cons _ _ .nil))), fun p hp => by
    rcases List.mem_cons.mp hp with rfl | hp
    · exact N _ (.tail _ (.head _))
    · rw [List.mem_singleton.mp hp]; exact N _ (.head _)⟩
abbrev WordsJ (ca D1 : Addr) (x : Addr × Obj) (qs : List (Int × Int)) (m' : Str → Option Value) (news' : List (Addr × Obj)) : Prop :=
  (m' "words" = some (.ref D1) ∧ m' "cells" = some (.ref ca)) ∧ ∃ ws k tl, news' = (D1, listOf (List.toArray ws) k) :: tl ∧ (∀ p ∈ tl, p.1 ≠ D1) ∧ x ∈ tl ∧ WordsIn tl ws qs
theorem words_step {h₀ h' : Heap} {L ca D1 T : Addr} {own tl : List (Addr × Obj)} {x : Addr × Obj} {s₁ : Shared} {tk k : Nat} {m' : Str → Option Value} {Q : Flow → Shared → Prop} {ws : List Value} {ps qs : List (Int × Int)} {a b : Int} {ta tb : Tok}
    (F : Fr h₀ L h' m') (N : News h₀ L h' ((T, tupO a ta b tb) :: (D1, listOf (List.toArray (ws ++ [.ref T])) k) :: (tl ++ own))) (hA : D1 < T ∧ AllLt T (tl ++ own)) (sepD : ∀ q ∈ own, D1 ≠ q.1) (sepT : ∀ p ∈ tl, ∀ q ∈ own, p.1 ≠ q.1)
    (hne : ∀ p ∈ tl, p.1 ≠ D1) (hm : x ∈ tl) (hW : WordsIn tl ws ps) (hw : m' "words" = some (.ref D1) ∧ m' "cells" = some (.ref ca)) (e : qs = ps ++ [(a, b)]) :
    TEnd h₀ L own s₁ (WordsJ ca D1 x qs) Q .next { s₁ with heap := h', toks := tk } := by
  subst e
  refine TEnd.next F N ((D1, listOf (List.toArray (ws ++ [.ref T])) k) :: (T, tupO a ta b tb) :: tl) (fun p hp => ?_) (fun p hp q hq => ?_) ⟨hw, _, _, _, rfl, ?_, .tail _ hm, (hW.mono fun p hp => .tail _ hp).snoc (.head _)⟩
  · rcases List.mem_cons.mp hp with rfl | hp
    · exact .tail _ (.head _)
    · rcases List.mem_cons.mp hp with rfl | hp
      · exact .head _
      · exact .tail _ (.tail _ hp)
  · rcases List.mem_cons.mp hp with rfl | hp
    · exact sepD q hq
    · rcases List.mem_cons.mp hp with rfl | hp
      · exact Nat.ne_of_gt (allLt_mem hA.2 q (List.mem_append_right _ hq))
      · exact sepT p hp q hq
  · intro p hp
    rcases List.mem_cons.mp hp with rfl | hp
    · exact Nat.ne_of_gt hA.1
    · exact hne p hp
def wordsF (cs : List Int) : List (Int × Int) :=
  let ps := (List.take 4 (cs.zip widths)).filterMap wordOf
  let lk := Int.fmod (4 - (ps.map (·.1)).sum) 5
  let d := Int.fmod (Int.fdiv (cs.getD 4 0) 2) 3
  if Int.fmod (cs.getD 4 0) 2 = 1 then ps ++ List.replicate lk.toNat (1, d) else if 0 < lk then ps ++ [(lk, d)] else ps
theorem wordsF_odd {cs : List Int} {ps : List (Int × Int)} (e : List.filterMap wordOf (List.take 4 (cs.zip widths)) = ps) (h : Int.fmod (cs.getD (Int.toNat 4) 0) 2 = 1) :
    wordsF cs = ps ++ List.replicate (Int.fmod (4 - (List.map (fun x => x.fst) ps).sum) 5).toNat (1, Int.fmod (Int.fdiv (cs.getD (Int.toNat 4) 0) 2) 3) := by
  subst e; exact if_pos h
theorem wordsF_even {cs : List Int} {ps : List (Int × Int)} (e : List.filterMap wordOf (List.take 4 (cs.zip widths)) = ps) (h : Int.fmod (cs.getD (Int.toNat 4) 0) 2 ≠ 1) (h2 : 0 < Int.fmod (4 - (List.map (fun x => x.fst) ps).sum) 5) :
    wordsF cs = ps ++ [(Int.fmod (4 - (List.map (fun x => x.fst) ps).sum) 5, Int.fmod (Int.fdiv (cs.getD (Int.toNat 4) 0) 2) 3)] := by
  subst e; exact (if_neg h).trans (if_pos h2)
theorem wordsF_none {cs : List Int} {ps : List (Int × Int)} (e : List.filterMap wordOf (List.take 4 (cs.zip widths)) = ps) (h : Int.fmod (cs.getD (Int.toNat 4) 0) 2 ≠ 1) (h2 : ¬ 0 < Int.fmod (4 - (List.map (fun x => x.fst) ps).sum) 5) :
    wordsF cs = ps := by
  subst e; exact (if_neg h).trans (if_neg h2)
theorem wordsIn_sub {tl all : List (Addr × Obj)} {vs : List Value} {ps : List (Int × Int)} {h₀ h : Heap} {L : Addr} (N : News h₀ L h all) (H : WordsIn tl vs ps) (hs : ∀ p ∈ tl, p ∈ all) : WordsAt h vs ps := H.at (News.sub N hs)
/-- the words' list -/
def WordsOut (h₀ : Heap) (qs : List (Int × Int)) (v : Value) (h : Heap) : Prop := ∃ D ws k, v = .ref D ∧ h₀.get? D = none ∧ h.get? D = some (listOf (List.toArray ws) k) ∧ WordsAt h ws qs
theorem wordsOut_of {h₀ h : Heap} {L D : Addr} {k : Nat} {ws : List Value} {qs : List (Int × Int)} {news : List (Addr × Obj)} (N : News h₀ L h news) (hm : (D, listOf (List.toArray ws) k) ∈ news) (H : WordsAt h ws qs) : WordsOut h₀ qs (.ref D) h := ⟨D, ws, k, rfl, (N _ hm).2.2, (N _ hm).1, H⟩
local macro_rules | `(tactic| walk_at "binaryOp Mult ref int") => `(tactic| (k_here; k_dflt (refine' KMa.mul ?F ?N ?l ?lo ?hi ?z rfl ?_; (case F => k_asm); (case N => k_asm); (case l => is_list); (case lo => omega); (case hi => omega); (case z => (simp only [List.length_cons, List.length_nil]; omega)); k_whole); intro D' h' F' N' l1; (try k_lt l1); (try k_sweep)))
local macro_rules | `(tactic| walk_at "call builtin:list.extend") => `(tactic| (k_here; k_dflt (refine' ext_two ?F ?N ?b rfl ?U ?V ?z ?_ ?_; (case F => k_asm); (case N => k_asm); (case b => k_mem); (case U => k_upd); (case V => k_upd); (case z => (simp only [List.size_toArray, List.length_flatten, List.map_replicate, List.sum_replicate_nat, List.length_cons, List.length_nil]; rw [sizeLine_eq]; omega))) <;> (intro h' F' N'; (try k_sweep))))
local macro_rules | `(tactic| walk_at "call type:zip") => `(tactic| (k_here; refine stop ?_))
end
section
local macro_rules | `(tactic| walk_at "binaryOp Mult ref int") => `(tactic| (k_here; k_dflt (refine' KMa.mul ?F ?N ?l ?lo ?hi ?z rfl ?_; (case F => k_asm); (case N => k_asm); (case l => is_list); (case lo => omega); (case hi => omega); (case z => (simp only [List.length_cons, List.length_nil]; omega)); k_whole); intro D' h' F' N' l1; (try k_lt l1); (try k_sweep)))
local macro_rules | `(tactic| walk_at "call builtin:list.extend") => `(tactic| (k_here; k_dflt (refine' ext_two ?F ?N ?b rfl ?U ?V ?z ?_ ?_; (case F => k_asm); (case N => k_asm); (case b => k_mem); (case U => k_upd); (case V => k_upd); (case z => (simp only [List.size_toArray, List.length_flatten, List.map_replicate, List.sum_replicate_nat, List.length_cons, List.length_nil]; rw [sizeLine_eq]; omega))) <;> (intro h' F' N'; (try k_sweep))))
local macro_rules | `(tactic| walk_at "call type:zip") => `(tactic| (k_here; refine stop ?_))
namespace WC
abbrev qT := (World) × (List Str) × (ExcName → Option Value) × (Str → Option Value) × (Str → Option Value) × (Nat) × (Option (List Env)) × (Option (List Code)) × (Nat) × (Shared) × (Addr)
def qP (w : World) (lo : List Str) (me : ExcName → Option Value) (mg : Str → Option Value) (mb : Str → Option Value) (dp : Nat) (fr : Option (List Env)) (gd : Option (List Code)) (un : Nat) (s : Shared) (ca : Addr) : Prop := ∀ (X : (Mine.Kc w.params).In s.heap) (T : Top topProg lo me mg mb s.heap) (hd : dp + 2 < recursionLimit) (hu : un + 20 < cLine) (vs : List Value) (cs : List Int) (hI : IntsAre vs cs) (hl : s.heap.IsList ca vs.toArray) (hn : cs.length = 5) (hb : ∀ x ∈ cs, 0 ≤ x ∧ x ≤ 20000), wpAny (model PySem.Challenge.rw_to0028_01.row.prog w) ⟨none, dp, fr, gd, un⟩ (call (.ref 110) [.ref ca]) (An s (WordsOut s.heap (wordsF cs))) (fun _ _ => False) s
theorem qN : Nonempty qT := ⟨(PySem.W.aWorld 0, default, default, default, default, default, default, default, default, {}, default)⟩
noncomputable def qk : qT := (Classical.choice (drink qN fun v => qP v.1 v.2.1 v.2.2.1 v.2.2.2.1 v.2.2.2.2.1 v.2.2.2.2.2.1 v.2.2.2.2.2.2.1 v.2.2.2.2.2.2.2.1 v.2.2.2.2.2.2.2.2.1 v.2.2.2.2.2.2.2.2.2.1 v.2.2.2.2.2.2.2.2.2.2)).1
noncomputable def w : World := qk.1
noncomputable def lo : List Str := qk.2.1
noncomputable def me : ExcName → Option Value := qk.2.2.1
noncomputable def mg : Str → Option Value := qk.2.2.2.1
noncomputable def mb : Str → Option Value := qk.2.2.2.2.1
noncomputable def dp : Nat := qk.2.2.2.2.2.1
noncomputable def fr : Option (List Env) := qk.2.2.2.2.2.2.1
noncomputable def gd : Option (List Code) := qk.2.2.2.2.2.2.2.1
noncomputable def un : Nat := qk.2.2.2.2.2.2.2.2.1
noncomputable def s : Shared := qk.2.2.2.2.2.2.2.2.2.1
noncomputable def ca : Addr := qk.2.2.2.2.2.2.2.2.2.2
theorem qA (h : qP w lo me mg mb dp fr gd un s ca) (w : World) (lo : List Str) (me : ExcName → Option Value) (mg : Str → Option Value) (mb : Str → Option Value) (dp : Nat) (fr : Option (List Env)) (gd : Option (List Code)) (un : Nat) (s : Shared) (ca : Addr) : qP w lo me mg mb dp fr gd un s ca := (Classical.choice (drink qN fun v => qP v.1 v.2.1 v.2.2.1 v.2.2.2.1 v.2.2.2.2.1 v.2.2.2.2.2.1 v.2.2.2.2.2.2.1 v.2.2.2.2.2.2.2.1 v.2.2.2.2.2.2.2.2.1 v.2.2.2.2.2.2.2.2.2.1 v.2.2.2.2.2.2.2.2.2.2)).2 h (w, lo, me, mg, mb, dp, fr, gd, un, s, ca)
set_option maxHeartbeats 4000000 in
theorem qW : qP w lo me mg mb dp fr gd un s ca := by
  intro X T hd hu vs cs hI hl hn hb
  k_dflt tb_start
  k_steps
  rename_i _ D1 _ _ _ D2 h2 F1 N1 l1
  obtain ⟨vs2, hI2, N2⟩ := words_led N1
  clear N1
  refine unstop ?_
  refine forZ (src2 := [(D2, listOf vs2.toArray 0)]) ?hh (.old hl) .led F1 N2 rfl rfl rfl (fun i => WordsJ ca D1 (D2, listOf vs2.toArray 0) (((cs.zip widths).take i).filterMap wordOf)) ?hsrc ?h0 ?turn ?done
  case hh => rfl
  case hsrc =>
    rintro i m' _ ⟨⟨_, _⟩, ws, k, tl, rfl, _, hm, _⟩ p hp
    rcases List.mem_append.mp hp with h | h
    · cases h
    · rw [List.mem_singleton.mp h]; exact .tail _ hm
  case h0 => exact ⟨⟨rfl, rfl⟩, [], 0, _, rfl, by intro p hp; rw [List.mem_singleton.mp hp]; exact Nat.ne_of_gt l1, .head _, .nil⟩
  case done =>
    rintro m₁ _ h tk ⟨⟨hw, hca⟩, ws, k, tl, rfl, hne, hm, hW⟩ F3 N3
    have hn' : min vs.length vs2.length = 4 := by rw [hI.length, hI2.length, hn]; rfl
    rw [hn'] at hW
    clear F1 N2
    generalize hps : List.filterMap wordOf (List.take 4 (cs.zip widths)) = ps at hW
    have hpl : ps.length ≤ 4 := by
      rw [← hps]
      refine Nat.le_trans (List.length_filterMap_le ..) ?_
      rw [List.length_take]
      exact Nat.min_le_left ..
    have hlen := hW.length
    k_steps
    have hA := hW.at (News.sub N3 fun p hp => .tail _ hp)
    obtain ⟨Ts, va, vb, HT⟩ := hA.fns
    refine compP Ts va vb ?hh ⟨_, _, rfl, Kp.refl _, Nat.le_refl _⟩ (News.isList N3 (.head _)) (fun j hj => (HT j hj).1) rfl rfl rfl ?hz (fun i ys => IntsAre ys ((ps.take i).map (·.1))) .nil ?el ?en
    case hh => rfl
    case hz => exact Nat.le_trans (show ws.length ≤ 4 by omega) (by decide)
    case el =>
      rintro C i m₁ m₂ ys h tk hi hJ rfl F
      refine wpAny_tests_nil ?_
      rw [if_pos rfl]
      obtain ⟨_, a, b, ta, tb, hp, hva, hvb⟩ := HT i hi
      refine nm_L F (if_neg (by decide) |>.trans (if_pos rfl)) ⟨⟨_, _, rfl, Kp.refl _⟩, ?_⟩ rfl rfl (by decide)
      show IntsAre _ ((ps.take (i + 1)).map (·.1))
      rw [List.take_add_one, hp, hva]
      simpa using ints_snoc hJ a ta
    case en =>
      intro D h9 tk9 ys hJ k9 hz9 hD
      obtain ⟨F5, N5, l5⟩ := led_new F3 N3 k9 hz9 hD
      k_lt l5
      have hlk : 0 ≤ Int.fmod (4 - (List.map (fun x => x.fst) ps).sum) 5 ∧ Int.fmod (4 - (List.map (fun x => x.fst) ps).sum) 5 < 5 := ⟨Int.fmod_nonneg_of_pos _ (by decide), Int.fmod_lt_of_pos _ (by decide)⟩
      rw [hlen, List.take_length] at hJ
      k_steps
      · rename News _ _ _ _ => N9
        rw [wordsF_odd hps (by assumption)]
        refine wordsOut_of N9 (by k_mem) (WordsAt.append (wordsIn_sub N9 hW (fun p hp => by repeat (first | exact hp | refine List.mem_cons_of_mem _ ?_))) ?_)
        rw [List.flatten_replicate_singleton]
        exact WordsAt.replicate ⟨_, (N9 _ (.tail _ (.tail _ (.head _)))).1, rfl, _, rfl⟩ _
      · rename News _ _ _ _ => N9
        rw [wordsF_odd hps (by assumption)]
        refine wordsOut_of N9 (by k_mem) (WordsAt.append (wordsIn_sub N9 hW (fun p hp => by repeat (first | exact hp | refine List.mem_cons_of_mem _ ?_))) ?_)
        rw [List.flatten_replicate_singleton]
        exact WordsAt.replicate ⟨_, (N9 _ (.tail _ (.tail _ (.head _)))).1, rfl, _, rfl⟩ _
      · rename News _ _ _ _ => N9
        rw [List.push_toArray] at N9
        rw [wordsF_even hps (by assumption) (by assumption)]
        refine wordsOut_of N9 (.tail _ (.tail _ (.head _))) (WordsAt.append (wordsIn_sub N9 hW (fun p hp => by repeat (first | exact hp | refine List.mem_cons_of_mem _ ?_))) (.cons ⟨_, (N9 _ (.head _)).1, rfl, _, rfl⟩ .nil))
      · rename News _ _ _ _ => N9
        rw [wordsF_none hps (by assumption) (by assumption)]
        exact wordsOut_of N9 (by k_mem) (wordsIn_sub N9 hW (fun p hp => by repeat (first | exact hp | refine List.mem_cons_of_mem _ ?_)))
  case turn =>
    rintro i v1 v2 m₁ _ h tk own hv1 hv2 ⟨⟨hw, hca⟩, ws, k, tl, rfl, hne, hm, hW⟩ F3 N3 sep
    obtain ⟨c, tc, hc, rfl⟩ := intsAre_get hI hv1
    obtain ⟨b, tb, hb1, rfl⟩ := intsAre_get hI2 hv2
    have hcb := hb c (List.mem_of_getElem? hc)
    have hbb : 3 ≤ b ∧ b ≤ 9 := by
      have := List.mem_of_getElem? hb1
      simp only [widths, List.mem_cons, List.not_mem_nil, or_false] at this
      omega
    have hlen := hW.length
    have hlen2 : (((cs.zip widths).take i).filterMap wordOf).length ≤ 4 := by
      refine Nat.le_trans (List.length_filterMap_le ..) ?_
      rw [List.length_take, List.length_zip]
      simp only [widths, List.length_cons, List.length_nil]
      omega
    have hws : ws.length ≤ 4 := by omega
    have hne' : ∀ p ∈ tl ++ own, p.1 ≠ D1 := fun p hp => (List.mem_append.mp hp).elim (hne p) fun hq e => sep (D1, _) (.head _) p hq e.symm
    rw [List.cons_append] at N3
    clear F1 N2
    have hz : (cs.zip widths)[i]? = some (c, b) := by rw [List.getElem?_zip_eq_some]; exact ⟨hc, hb1⟩
    have hW2 := fm_take wordOf _ _ _ hz
    have sepD : ∀ q ∈ own, D1 ≠ q.1 := fun q hq => sep (D1, _) (.head _) q hq
    have sepT : ∀ p ∈ tl, ∀ q ∈ own, p.1 ≠ q.1 := fun p hp q hq => sep p (.tail _ hp) q hq
    k_steps
    · rename _ ∧ AllLt _ _ => hA
      rename News _ _ _ _ => N4
      rename (0 : Int) < _ => hp
      rw [List.push_toArray] at N4
      exact words_step (by assumption) N4 hA sepD sepT hne hm hW ⟨by ktr_rel, by ktr_rel⟩ (by rw [hW2, wordOf, if_pos hp]; rfl)
    · rename ¬ (_ < _) => hp
      rename News _ _ _ _ => N4
      refine TEnd.next (by assumption) N4 ((D1, _) :: tl) (fun p hp => hp) sep ⟨⟨?_, ?_⟩, _, _, _, rfl, hne, hm, ?_⟩
      · ktr_rel
      · ktr_rel
      · rw [hW2, wordOf, if_neg hp]
        simpa using hW
end WC
end
section
variable {w : World} {lo : List Str} {me : ExcName → Option Value} {mg mb : Str → Option Value} {A : Around} {s : Shared}
theorem words_c (X : (Mine.Kc w.params).In s.heap) (T : Top topProg lo me mg mb s.heap) (R : Rm A 2 20) (ca : Addr) (vs : List Value) (cs : List Int) (hI : IntsAre vs cs) (hl : s.heap.IsList ca vs.toArray) (hn : cs.length = 5) (hb : ∀ x ∈ cs, 0 ≤ x ∧ x ≤ 20000) :
    wpAny (model PySem.Challenge.rw_to0028_01.row.prog w) A (call (.ref 110) [.ref ca]) (An s (WordsOut s.heap (wordsF cs))) (fun _ _ => False) s := by
  obtain ⟨hh, hd0_, hu0_⟩ := R
  obtain ⟨_, dp, fr, gd, un⟩ := A
  cases hh
  exact WC.qA WC.qW w lo me mg mb dp fr gd un s ca X T hd0_ hu0_ vs cs hI hl hn hb
end

end

section
theorem part_page : True := by
  w_top off
  exact trivial
section
variable {w : World} {lo : List Str} {me : ExcName → Option Value} {mg mb : Str → Option Value} {A : Around} {s : Shared}
abbrev signsS : Str := Str.ofString "+-*/|&<>"
def putWord (acc : Str) (p : Int × Int) : Str :=
  if p.2 = 0 then ((acc ++ Str.ofString "\\") ++ Txt.item signsS (p.1 - 1)) ++ Str.ofString "\n"
  else if p.2 = 1 then ((acc ++ Str.ofString "\"") ++ Txt.item signsS (p.1 - 1)) ++ Str.ofString "\"\n"
  else (acc ++ Txt.item signsS (p.1 - 1)) ++ Str.ofString "\n"
def pageF (ps : List (Int × Int)) : Str := ps.foldl putWord (Str.ofString "")
theorem page_take {ps : List (Int × Int)} {i : Nat} {p : Int × Int} (h : ps[i]? = some p) : pageF (ps.take (i + 1)) = putWord (pageF (ps.take i)) p := by
  unfold pageF
  rw [List.take_add_one, h, List.foldl_append]
  rfl
theorem putWord_len (acc : Str) (p : Int × Int) (h : (Txt.item signsS (p.1 - 1)).length = 1) : (putWord acc p).length ≤ acc.length + 4 := by
  unfold putWord
  have e1 : (Str.ofString "\\").length = 1 := by decide
  have e2 : (Str.ofString "\n").length = 1 := by decide
  have e3 : (Str.ofString "\"").length = 1 := by decide
  have e4 : (Str.ofString "\"\n").length = 2 := by decide
  split
  · simp only [Str.length_append, h, e1, e2]; omega
  · split
    · simp only [Str.length_append, h, e3, e4]; omega
    · simp only [Str.length_append, h, e2]; omega
theorem putWord0 {acc : Str} {a b : Int} (h : b = 0) : putWord acc (a, b) = ((acc ++ Str.ofString "\\") ++ Txt.item signsS (a - 1)) ++ Str.ofString "\n" := if_pos h
theorem putWord1 {acc : Str} {a b : Int} (h0 : b ≠ 0) (h : b = 1) : putWord acc (a, b) = ((acc ++ Str.ofString "\"") ++ Txt.item signsS (a - 1)) ++ Str.ofString "\"\n" := (if_neg h0).trans (if_pos h)
theorem putWord2 {acc : Str} {a b : Int} (h0 : b ≠ 0) (h : b ≠ 1) : putWord acc (a, b) = (acc ++ Txt.item signsS (a - 1)) ++ Str.ofString "\n" := (if_neg h0).trans (if_neg h)
end
section
local macro_rules | `(tactic| walk_at "exec For Tuple Name") => `(tactic| (k_here; (rename Fr _ _ _ _ => lF'); (with_unfolding_all refine' for_ruleF lF' ?_ ?k1; (case k1 => exact fun _ => rfl); k_whole)))
namespace AC
abbrev qT := (World) × (List Str) × (ExcName → Option Value) × (Str → Option Value) × (Str → Option Value) × (Nat) × (Option (List Env)) × (Option (List Code)) × (Nat) × (Shared) × (Addr)
def qP (w : World) (lo : List Str) (me : ExcName → Option Value) (mg : Str → Option Value) (mb : Str → Option Value) (dp : Nat) (fr : Option (List Env)) (gd : Option (List Code)) (un : Nat) (s : Shared) (wa : Addr) : Prop := ∀ (X : (Mine.Kc w.params).In s.heap) (T : Top topProg lo me mg mb s.heap) (hd : dp + 2 < recursionLimit) (hu : un + 20 < cLine) (vs : List Value) (ps : List (Int × Int)) (hl : s.heap.IsList wa vs.toArray) (W : WordsAt s.heap vs ps) (hn : ps.length ≤ 8) (hb : ∀ p ∈ ps, 1 ≤ p.1 ∧ p.1 ≤ 8), wpAny (model PySem.Challenge.rw_to0028_01.row.prog w) ⟨none, dp, fr, gd, un⟩ (call (.ref 117) [.ref wa]) (An s fun v _ => ∃ t, v = .str (pageF ps) t) (fun _ _ => False) s
theorem qN : Nonempty qT := ⟨(PySem.W.aWorld 0, default, default, default, default, default, default, default, default, {}, default)⟩
noncomputable def qk : qT := (Classical.choice (drink qN fun v => qP v.1 v.2.1 v.2.2.1 v.2.2.2.1 v.2.2.2.2.1 v.2.2.2.2.2.1 v.2.2.2.2.2.2.1 v.2.2.2.2.2.2.2.1 v.2.2.2.2.2.2.2.2.1 v.2.2.2.2.2.2.2.2.2.1 v.2.2.2.2.2.2.2.2.2.2)).1
noncomputable def w : World := qk.1
noncomputable def lo : List Str := qk.2.1
noncomputable def me : ExcName → Option Value := qk.2.2.1
noncomputable def mg : Str → Option Value := qk.2.2.2.1
noncomputable def mb : Str → Option Value := qk.2.2.2.2.1
noncomputable def dp : Nat := qk.2.2.2.2.2.1
noncomputable def fr : Option (List Env) := qk.2.2.2.2.2.2.1
noncomputable def gd : Option (List Code) := qk.2.2.2.2.2.2.2.1
noncomputable def un : Nat := qk.2.2.2.2.2.2.2.2.1
noncomputable def s : Shared := qk.2.2.2.2.2.2.2.2.2.1
noncomputable def wa : Addr := qk.2.2.2.2.2.2.2.2.2.2
theorem qA (h : qP w lo me mg mb dp fr gd un s wa) (w : World) (lo : List Str) (me : ExcName → Option Value) (mg : Str → Option Value) (mb : Str → Option Value) (dp : Nat) (fr : Option (List Env)) (gd : Option (List Code)) (un : Nat) (s : Shared) (wa : Addr) : qP w lo me mg mb dp fr gd un s wa := (Classical.choice (drink qN fun v => qP v.1 v.2.1 v.2.2.1 v.2.2.2.1 v.2.2.2.2.1 v.2.2.2.2.2.1 v.2.2.2.2.2.2.1 v.2.2.2.2.2.2.2.1 v.2.2.2.2.2.2.2.2.1 v.2.2.2.2.2.2.2.2.2.1 v.2.2.2.2.2.2.2.2.2.2)).2 h (w, lo, me, mg, mb, dp, fr, gd, un, s, wa)
set_option maxHeartbeats 4000000 in
theorem qW : qP w lo me mg mb dp fr gd un s wa := by
  intro X T hd hu vs ps hl W hn hb
  k_dflt tb_start
  k_steps
  rename News _ _ _ _ => N1
  rename Fr _ _ _ _ => F1
  refine forP_m rfl hl W F1 N1 rfl rfl rfl (fun i m' => (∃ t, m' "page" = some (.str (pageF (ps.take i)) t)) ∧ (pageF (ps.take i)).length ≤ 4 * i) ?h0 ?turn ?done
  case h0 => exact ⟨⟨_, rfl⟩, by show (Str.ofString "").length ≤ 0; decide⟩
  case done =>
    rintro m₁ h tk ⟨⟨t, ht⟩, _⟩ F2 N2
    rw [List.take_length] at ht
    clear F1 N1
    k_steps
  case turn =>
    rintro i a b ta tb m₁ h tk own hp ⟨⟨t, ht⟩, hlen⟩ F2 N2 sep
    have hab := hb _ (List.mem_of_getElem? hp)
    have hi : i < 8 := by have := (List.getElem?_eq_some_iff.mp hp).1; omega
    have hlen' : (pageF (ps.take i)).length ≤ 40 := by omega
    clear F1 N1
    have e1 := page_take hp
    k_steps
    all_goals (
      rename Str.length (Txt.item _ _) = 1 => hone
      have hl2 := putWord_len (pageF (ps.take i)) (a, b) hone
      rw [← e1] at hl2
      refine TEnd.next (by assumption) (by assumption) _ (fun _ h => h) sep ⟨rfl, ⟨_, (if_pos rfl).trans (some_str ?_)⟩, up4 hl2 hlen⟩
      rw [e1])
    · rename b = 0 => hb0; exact (putWord0 hb0).symm
    · rename b = 1 => hb1; exact (putWord1 (by assumption) hb1).symm
    · exact (putWord2 (by assumption) (by assumption)).symm
end AC
end
section
variable {w : World} {lo : List Str} {me : ExcName → Option Value} {mg mb : Str → Option Value} {A : Around} {s : Shared}
theorem page_c (X : (Mine.Kc w.params).In s.heap) (T : Top topProg lo me mg mb s.heap) (R : Rm A 2 20) (wa : Addr) (vs : List Value) (ps : List (Int × Int)) (hl : s.heap.IsList wa vs.toArray) (W : WordsAt s.heap vs ps) (hn : ps.length ≤ 8) (hb : ∀ p ∈ ps, 1 ≤ p.1 ∧ p.1 ≤ 8) :
    wpAny (model PySem.Challenge.rw_to0028_01.row.prog w) A (call (.ref 117) [.ref wa]) (An s fun v _ => ∃ t, v = .str (pageF ps) t) (fun _ _ => False) s := by
  obtain ⟨hh, hd0_, hu0_⟩ := R
  obtain ⟨_, dp, fr, gd, un⟩ := A
  cases hh
  exact AC.qA AC.qW w lo me mg mb dp fr gd un s wa X T hd0_ hu0_ vs ps hl W hn hb
end

end

section
theorem part_bisect : True := by
  w_top off
  exact trivial
local macro_rules | `(tactic| walk_at "pad") => `(tactic| fail)
local macro_rules | `(tactic| walk_at "pad") => `(tactic| fail)
section
variable {w : World} {lo : List Str} {me : ExcName → Option Value} {mg mb : Str → Option Value} {A : Around} {s : Shared}
def bisGo (f : Nat → Int) (x : Int) : Nat → Nat → Nat → Nat
  | 0, l, _ => l
  | k + 1, l, h => if l < h then (if x < f ((l + h) / 2) then bisGo f x k l ((l + h) / 2) else bisGo f x k ((l + h) / 2 + 1) h) else l
theorem mid0 {l h : Nat} (c : l < h) : l ≤ (l + h) / 2 := by omega
theorem mid1 {l h : Nat} (c : l < h) : (l + h) / 2 < h := by omega
theorem midS {l h k : Nat} (c : l < h) (e : h - l = k) : (l + h) / 2 - l < k := e ▸ Nat.sub_lt_sub_right (mid0 c) (mid1 c)
theorem midT {l h k : Nat} (c : l < h) (e : h - l = k) : h - ((l + h) / 2 + 1) < k := e ▸ Nat.sub_lt_sub_left c (Nat.lt_succ_of_le (mid0 c))
theorem midN {l h : Nat} (c : ¬ (l : Int) < (h : Int)) : h - l = 0 := Nat.sub_eq_zero_of_le (Nat.not_lt.mp fun q => c (Int.ofNat_lt.mpr q))
theorem bisGo_fuel (f : Nat → Int) (x : Int) : ∀ (j1 j2 l h : Nat), h - l ≤ j1 → h - l ≤ j2 → bisGo f x j1 l h = bisGo f x j2 l h := by
  have z : ∀ l h, h - l ≤ 0 → ¬ l < h := fun l h e c => Nat.not_lt.mpr e (Nat.sub_pos_of_lt c)
  intro j1
  induction j1 with
  | zero =>
    intro j2 l h h1 h2
    cases j2 with
    | zero => rfl
    | succ j2 => simp only [bisGo]; rw [if_neg (z _ _ h1)]
  | succ j1 ih =>
    intro j2 l h h1 h2
    cases j2 with
    | zero => simp only [bisGo]; rw [if_neg (z _ _ h2)]
    | succ j2 =>
      simp only [bisGo]
      by_cases c : l < h
      · rw [if_pos c, if_pos c]
        split
        · exact ih j2 _ _ (Nat.le_of_lt_succ (Nat.lt_of_lt_of_le (midS c rfl) h1)) (Nat.le_of_lt_succ (Nat.lt_of_lt_of_le (midS c rfl) h2))
        · exact ih j2 _ _ (Nat.le_of_lt_succ (Nat.lt_of_lt_of_le (midT c rfl) h1)) (Nat.le_of_lt_succ (Nat.lt_of_lt_of_le (midT c rfl) h2))
      · rw [if_neg c, if_neg c]
theorem bisGo_step (f : Nat → Int) (x : Int) (l h : Nat) (c : l < h) : bisGo f x (h - l) l h = if x < f ((l + h) / 2) then bisGo f x ((l + h) / 2 - l) l ((l + h) / 2) else bisGo f x (h - ((l + h) / 2 + 1)) ((l + h) / 2 + 1) h := by
  obtain ⟨k, hk⟩ : ∃ k, h - l = k + 1 := ⟨h - l - 1, (Nat.succ_pred_eq_of_pos (Nat.sub_pos_of_lt c)).symm⟩
  rw [hk]
  simp only [bisGo]
  rw [if_pos c]
  split
  · exact bisGo_fuel f x _ _ _ _ (Nat.le_of_lt_succ (midS c hk)) (Nat.le_refl _)
  · exact bisGo_fuel f x _ _ _ _ (Nat.le_of_lt_succ (midT c hk)) (Nat.le_refl _)
theorem bisGo_le (f : Nat → Int) (x : Int) : ∀ (j l h : Nat), l ≤ h → bisGo f x j l h ≤ h := by
  intro j
  induction j with
  | zero => intro l h hl; exact hl
  | succ j ih =>
    intro l h hl
    simp only [bisGo]
    by_cases c : l < h
    · rw [if_pos c]
      split
      · exact Nat.le_trans (ih _ _ (mid0 c)) (Nat.le_of_lt (mid1 c))
      · exact ih _ _ (mid1 c)
    · rw [if_neg c]; exact hl
structure BisJ (g : Nat → Int) (n : Nat) (aa : Addr) (x : Int) (t : Tok) (k : Nat) (m' : Str → Option Value) (l h : Nat) : Prop where
  e1 : ∃ tl, m' "lo" = some (.int (l : Nat) tl)
  e2 : ∃ th, m' "hi" = some (.int (h : Nat) th)
  e3 : m' "a" = some (.ref aa)
  e4 : m' "x" = some (.int x t)
  hle : l ≤ h
  hln : h ≤ n
  hk : h - l = k
  hb : bisGo g x (h - l) l h = bisGo g x n 0 n
def BisQ (g : Nat → Int) (n : Nat) (aa : Addr) (x : Int) (t : Tok) (k : Nat) (m' : Str → Option Value) (news' : List (Addr × Obj)) : Prop := news' = [] ∧ ∃ l h, BisJ g n aa x t k m' l h
theorem bisQ {g : Nat → Int} {n : Nat} {aa : Addr} {x : Int} {t : Tok} {k : Nat} {m' : Str → Option Value} {l h : Nat} (j : BisJ g n aa x t k m' l h) : BisQ g n aa x t k m' [] := ⟨rfl, l, h, j⟩
end
section
local macro_rules | `(tactic| walk_at "exec While") => `(tactic| (k_here; refine stop ?_))
namespace BC
abbrev qT := (World) × (List Str) × (ExcName → Option Value) × (Str → Option Value) × (Str → Option Value) × (Nat) × (Option (List Env)) × (Option (List Code)) × (Nat) × (Shared) × (Addr) × (Tok) × (Tok)
def qP (w : World) (lo : List Str) (me : ExcName → Option Value) (mg : Str → Option Value) (mb : Str → Option Value) (dp : Nat) (fr : Option (List Env)) (gd : Option (List Code)) (un : Nat) (s : Shared) (aa : Addr) (t : Tok) (t0 : Tok) : Prop := ∀ (X : (Mine.Kc w.params).In s.heap) (T : Top topProg lo me mg mb s.heap) (hd : dp + 2 < recursionLimit) (hu : un + 20 < cLine) (vs : List Value) (xs : List Int) (hI : IntsAre vs xs) (hl : s.heap.IsList aa vs.toArray) (hn : xs.length ≤ 1000) (x : Int), wpAny (model PySem.Challenge.rw_to0028_01.row.prog w) ⟨none, dp, fr, gd, un⟩ (call (.ref 39) [.ref aa, .int x t, .int 0 t0, .none]) (An s fun v _ => IsI (bisGo (fun i => xs.getD i 0) x xs.length 0 xs.length : Nat) v) (fun _ _ => False) s
theorem qN : Nonempty qT := ⟨(PySem.W.aWorld 0, default, default, default, default, default, default, default, default, {}, default, default, default)⟩
noncomputable def qk : qT := (Classical.choice (drink qN fun v => qP v.1 v.2.1 v.2.2.1 v.2.2.2.1 v.2.2.2.2.1 v.2.2.2.2.2.1 v.2.2.2.2.2.2.1 v.2.2.2.2.2.2.2.1 v.2.2.2.2.2.2.2.2.1 v.2.2.2.2.2.2.2.2.2.1 v.2.2.2.2.2.2.2.2.2.2.1 v.2.2.2.2.2.2.2.2.2.2.2.1 v.2.2.2.2.2.2.2.2.2.2.2.2)).1
noncomputable def w : World := qk.1
noncomputable def lo : List Str := qk.2.1
noncomputable def me : ExcName → Option Value := qk.2.2.1
noncomputable def mg : Str → Option Value := qk.2.2.2.1
noncomputable def mb : Str → Option Value := qk.2.2.2.2.1
noncomputable def dp : Nat := qk.2.2.2.2.2.1
noncomputable def fr : Option (List Env) := qk.2.2.2.2.2.2.1
noncomputable def gd : Option (List Code) := qk.2.2.2.2.2.2.2.1
noncomputable def un : Nat := qk.2.2.2.2.2.2.2.2.1
noncomputable def s : Shared := qk.2.2.2.2.2.2.2.2.2.1
noncomputable def aa : Addr := qk.2.2.2.2.2.2.2.2.2.2.1
noncomputable def t : Tok := qk.2.2.2.2.2.2.2.2.2.2.2.1
noncomputable def t0 : Tok := qk.2.2.2.2.2.2.2.2.2.2.2.2
theorem qA (h : qP w lo me mg mb dp fr gd un s aa t t0) (w : World) (lo : List Str) (me : ExcName → Option Value) (mg : Str → Option Value) (mb : Str → Option Value) (dp : Nat) (fr : Option (List Env)) (gd : Option (List Code)) (un : Nat) (s : Shared) (aa : Addr) (t : Tok) (t0 : Tok) : qP w lo me mg mb dp fr gd un s aa t t0 := (Classical.choice (drink qN fun v => qP v.1 v.2.1 v.2.2.1 v.2.2.2.1 v.2.2.2.2.1 v.2.2.2.2.2.1 v.2.2.2.2.2.2.1 v.2.2.2.2.2.2.2.1 v.2.2.2.2.2.2.2.2.1 v.2.2.2.2.2.2.2.2.2.1 v.2.2.2.2.2.2.2.2.2.2.1 v.2.2.2.2.2.2.2.2.2.2.2.1 v.2.2.2.2.2.2.2.2.2.2.2.2)).2 h (w, lo, me, mg, mb, dp, fr, gd, un, s, aa, t, t0)
set_option maxHeartbeats 4000000 in
theorem qW : qP w lo me mg mb dp fr gd un s aa t t0 := by
  intro X T hd hu vs xs hI hl hn x
  k_dflt tb_rel
  k_steps
  rename News _ _ _ _ => N1
  rename Fr _ _ _ _ => F1
  refine unstop ?_
  refine while_ruleF F1 N1 (BisQ (fun i => xs.getD i 0) xs.length aa x t) xs.length ?h0 ?turn
  case h0 => exact bisQ ⟨⟨_, rfl⟩, ⟨_, rfl⟩, rfl, rfl, Nat.zero_le _, Nat.le_refl _, rfl, rfl⟩
  case turn =>
    rintro k m₁ _ h tk ⟨rfl, l, hh, ⟨tl, e1⟩, ⟨th, e2⟩, e3, e4, hle, hln, hk, hb⟩ F2 N2
    clear F1 N1
    k_steps
    · rename (l : Int) < _ => c
      rename _ < List.getD _ _ _ => d
      have c' : l < hh := Int.ofNat_lt.mp c
      rw [half_nat, Int.toNat_natCast] at d
      refine WEnd.next (by assumption) (by assumption) [] (fun _ h => nomatch h) ((l + hh) / 2 - l) (midS c' hk) ?_
      refine bisQ (l := l) (h := (l + hh) / 2) ⟨?e1, ?e2, ?e3, ?e4, mid0 c', Nat.le_trans (Nat.le_of_lt (mid1 c')) hln, rfl, ?e5⟩
      case e1 => apply Exists.intro; ktr_rel
      case e2 => apply Exists.intro; exact (if_pos rfl).trans (some_int (half_nat l hh))
      case e3 => ktr_rel
      case e4 => ktr_rel
      case e5 => rw [← hb, bisGo_step _ _ _ _ c', if_pos d]
    · rename (l : Int) < _ => c
      rename ¬ (_ < List.getD _ _ _) => d
      have c' : l < hh := Int.ofNat_lt.mp c
      rw [half_nat, Int.toNat_natCast] at d
      refine WEnd.next (by assumption) (by assumption) [] (fun _ h => nomatch h) (hh - ((l + hh) / 2 + 1)) (midT c' hk) ?_
      refine bisQ (l := (l + hh) / 2 + 1) (h := hh) ⟨?e1, ?e2, ?e3, ?e4, mid1 c', hln, rfl, ?e5⟩
      case e1 => apply Exists.intro; exact (if_pos rfl).trans (some_int (by rw [half_nat]; rfl))
      case e2 => apply Exists.intro; ktr_rel
      case e3 => ktr_rel
      case e4 => ktr_rel
      case e5 => rw [← hb, bisGo_step _ _ _ _ c', if_neg d]
    · rename ¬ ((l : Int) < _) => c
      have c' : hh - l = 0 := midN c
      rw [c'] at hb
      exact isI (congrArg Nat.cast hb)
end BC
end
section
variable {w : World} {lo : List Str} {me : ExcName → Option Value} {mg mb : Str → Option Value} {A : Around} {s : Shared}
theorem bisect_c (X : (Mine.Kc w.params).In s.heap) (T : Top topProg lo me mg mb s.heap) (R : Rm A 2 20) (aa : Addr) (vs : List Value) (xs : List Int) (hI : IntsAre vs xs) (hl : s.heap.IsList aa vs.toArray) (hn : xs.length ≤ 1000) (x : Int) (t t0 : Tok) :
    wpAny (model PySem.Challenge.rw_to0028_01.row.prog w) A (call (.ref 39) [.ref aa, .int x t, .int 0 t0, .none]) (An s fun v _ => IsI (bisGo (fun i => xs.getD i 0) x xs.length 0 xs.length : Nat) v) (fun _ _ => False) s := by
  obtain ⟨hh, hd0_, hu0_⟩ := R
  obtain ⟨_, dp, fr, gd, un⟩ := A
  cases hh
  exact BC.qA BC.qW w lo me mg mb dp fr gd un s aa t t0 X T hd0_ hu0_ vs xs hI hl hn x
end

end

section
section
variable {prog : Program} {w : World} {A : Around} {R : GenEnd} {Y : Protocol} {n : Nat} {s₀ : Shared} {c : Code} {fs : List Frame} {s : Shared} {env : Env}
  {K : Flow → Sem Fin} {H : Value → Sem Fin} {gd : Bool → Bool} {lv : List Value → List Value}
theorem seg_If {test : Expr} {body orelse : List Stmt} {pos : Pos}
    (h : wpAny (model prog w) (A.over c fs) (isTrue test env (eval test env)) (fun b s' => if b = true then Seg (model prog w) A R Y n s₀ c ((execs body env).wrap K H gd lv) fs s' else Seg (model prog w) A R Y n s₀ c ((execs orelse env).wrap K H gd lv) fs s') (fun _ _ => False) s) :
    Seg (model prog w) A R Y n s₀ c ((exec (.If test body orelse pos) env).wrap K H gd lv) fs s := by
  rw [exec_If]
  refine seg_bind_wrap (wpAny_standAt ?_)
  refine seg_bind_wrap (wpAny_mono h (fun b s' hb => ?_) fun _ _ x => x.elim)
  cases b
  · rw [if_neg Bool.false_ne_true] at hb ⊢; exact hb
  · rw [if_pos rfl] at hb ⊢; exact hb
theorem seg_leaf_stmt {st : Stmt} (h : wpAny (model prog w) (A.over c fs) (exec st env) (fun f s' => Seg (model prog w) A R Y n s₀ c (K f) fs s') (fun _ _ => False) s) :
    Seg (model prog w) A R Y n s₀ c ((exec st env).wrap K H gd lv) fs s := seg_wrap (wpAny_mono h (fun _ _ x => x) fun _ _ x => x.elim)
theorem seg_For {target iter : Expr} {body : List Stmt} {pos : Pos}
    (h : wpAny (model prog w) (A.over c fs) (eval iter env) (fun xv s₁ => wpAny (model prog w) (A.over c fs) (pyIter xv) (fun it s₂ => ∀ p, Seg (model prog w) A R Y n s₀ (.forLoop target it body [] env) ((model prog w).den (.forLoop target it body [] env))
      (.ret (fun r => ((match r with | .ok f => (.pure f : Sem Flow) | .error e => .raise e).onRaise fun (x : Value) => do
        if (← field x 1) == Value.none then unsupported "frame.own-activation:exception-without-traceback"
        setFlight x env.frame).wrap K H gd lv) none (gd false) (lv []) c p [] :: fs) s₂) (fun _ _ => False) s₁) (fun _ _ => False) s)
    (hs : ∀ x, foldedSetIterable iter env x = pure x) :
    Seg (model prog w) A R Y n s₀ c ((exec (.For target iter body [] pos) env).wrap K H gd lv) fs s := by
  rw [exec_For]
  refine seg_bind_wrap (wpAny_standAt ?_)
  refine seg_bind_wrap (wpAny_mono h (fun xv s₁ h₁ => ?_) fun _ _ x => x.elim)
  refine seg_bind_wrap (wpAny_of_eq (hs xv) ?_)
  refine seg_bind_wrap (wpAny_standAt ?_)
  refine seg_bind_wrap (wpAny_holding (wpAny_mono h₁ (fun it s₂ h₂ => ?_) fun _ _ x => x.elim))
  exact seg_call h₂
theorem seg_forLoop {target : Expr} {it : Value} {body : List Stmt}
    (h : wpAny (model prog w) (A.over (.forLoop target it body [] env) fs) (pyNext it) (fun r s' => match r with
      | none => Seg (model prog w) A R Y n s₀ (.block [] env) (leafOf (.ok .next)) fs s'
      | some v => wpAny (model prog w) (A.over (.forLoop target it body [] env) fs) (letOwnedTupleGo target it v) (fun _ s₁ => wpAny (model prog w) (A.over (.forLoop target it body [] env) fs) (assign target env v) (fun _ s₂ =>
          Seg (model prog w) A R Y n s₀ (.forLoop target it body [] env) ((execs body env).wrap (fun f => match f with
            | .next | .cont => .pure (.again (.forLoop target it body [] env))
            | .brk => .pure (.done .next)
            | .ret v => .pure (.done (.ret v))) (fun e => (do noteFrame e env; theTreesLotGoes e : Sem Unit).wrap (fun _ => .raise e) .raise id id) id id) fs s₂) (fun _ _ => False) s₁) (fun _ _ => False) s') (fun _ _ => False) s) :
    Seg (model prog w) A R Y n s₀ (.forLoop target it body [] env) ((model prog w).den (.forLoop target it body [] env)) fs s := by
  show Seg _ A R Y n s₀ _ ((forTurn target it body [] env).onRaise (fun x => do noteFrame x env; theTreesLotGoes x)) fs s
  unfold forTurn
  rw [Sem.onRaise_eq_wrap]
  refine seg_bind_wrap (wpAny_standAt ?_)
  refine seg_bind_wrap (wpAny_onRaise (wpAny_mono h (fun r s' hr => ?_) fun _ _ x => x.elim))
  cases r with
  | none => exact seg_again rfl hr
  | some v =>
    refine seg_bind_wrap (wpAny_mono hr (fun _ s₁ h₁ => ?_) fun _ _ x => x.elim)
    refine seg_bind_wrap (wpAny_mono h₁ (fun _ s₂ h₂ => ?_) fun _ _ x => x.elim)
    show Seg _ A R Y n s₀ _ (Sem.wrap _ _ _ _ (execs body env >>= _)) fs s₂
    rw [Sem.bind_eq_wrap', Sem.wrap_wrap]
    rw [Sem.wrap_congr (execs body env) _ _ (K' := fun f => match f with
            | .next | .cont => .pure (.again (.forLoop target it body [] env))
            | .brk => .pure (.done .next)
            | .ret v => .pure (.done (.ret v))) (H' := (fun e => (do noteFrame e env; theTreesLotGoes e : Sem Unit).wrap (fun _ => .raise e) .raise id id))
        (fun f => by cases f <;> rfl)
        (fun e => by first | exact Sem.bind_eq_wrap _ _ | (show (do noteFrame e env; theTreesLotGoes e : Sem Unit).bind (fun _ => .raise e) = _; rw [Sem.bind_eq_wrap]))]
    exact h₂
end

end

section
theorem part_esc : True := by
  w_top off
  exact trivial
abbrev scE : Scope := { kind := .function, names := [("addr", .local), ("pos", .local), ("escape", .local), ("ch", .local), ("enumerate", .globalImplicit)], isGenerator := true, isCoroutine := false, more := [] }
abbrev envE (C : Addr) (cdv : Value) : Env := envOf "_iter_escaped_chars" scE C 21 cdv
abbrev S3 (h1 : Heap) (C : Addr) (L3 : List (Addr × Obj)) (m : Str → Option Value) (s s' : Shared) : Prop := ∃ h' tk, s' = { s with heap := h', toks := tk } ∧ Fr h1 C h' m ∧ News h1 C h' L3
def Pair2 (p : Int) (u : Str) (v : Value) (h : Heap) : Prop := ∃ T t1 t2, v = .ref T ∧ h.IsTuple T #[.int p t1, .str u t2]
theorem s3n {h1 h : Heap} {C : Addr} {p : Addr × Obj} {L : List (Addr × Obj)} (N : News h1 C h (p :: L)) : News h1 C h L := fun q hq => N q (.tail _ hq)
theorem pair2 {h1 h : Heap} {C D : Addr} {n : Nat} {q : Int} {u u' : Str} {t1 t2 : Tok} {L : List (Addr × Obj)} (N : News h1 C h ((D, { cls := .type "tuple", data := .seq #[.int q t1, .str u t2] n }) :: L)) (e : u = u') : Pair2 q u' (.ref D) h := by
  subst e
  exact ⟨D, t1, t2, rfl, _, (N _ (.head _)).1, rfl, _, rfl⟩
theorem ch_eq (c : Nat) : (({ cps := #[c] } : Str) == Str.ofString "\\") = decide (c = 92) := by
  have e : Str.ofString "\\" = ⟨#[92]⟩ := rfl
  rw [e, Bool.eq_iff_iff, beq_iff_eq, decide_eq_true_iff]
  constructor
  · intro h; cases h; rfl
  · rintro rfl; rfl
section
variable {w : World} {lo : List Str} {me : ExcName → Option Value} {mg mb : Str → Option Value} {A : Around} {s : Shared} {h1 : Heap} {C : Addr} {L3 : List (Addr × Obj)} {m : Str → Option Value} {cdv : Value}
set_option maxHeartbeats 4000000
theorem pc_esc (hh : A.handled = none) (X : (Mine.Kc w.params).In h1) (T : Top topProg lo me mg mb h1) (F : Fr h1 C s.heap m) (N : News h1 C s.heap L3) {e : Bool} {p : Pos} (hm : m "escape" = some (.bool e)) :
    wpAny (model PySem.Challenge.rw_to0028_01.row.prog w) A (isTrue (.Name "escape" p) (envE C cdv) (eval (.Name "escape" p) (envE C cdv))) (fun b s' => b = e ∧ S3 h1 C L3 m s s') (fun _ _ => False) s := by
  obtain ⟨_, dp, fr, gd, un⟩ := A
  cases hh
  k_steps
  all_goals first | assumption | exact s3n (by assumption) | exact pair2 (by assumption) rfl | exact ch_eq _
theorem pc_eq (hh : A.handled = none) (X : (Mine.Kc w.params).In h1) (T : Top topProg lo me mg mb h1) (F : Fr h1 C s.heap m) (N : News h1 C s.heap L3) {c : Nat} {t : Tok} {p1 p2 p3 : Pos} {k : Nat} (hm : m "ch" = some (.str ⟨#[c]⟩ t)) :
    wpAny (model PySem.Challenge.rw_to0028_01.row.prog w) A (isTrue (.Compare (.Name "ch" p1) [.Eq] [.Constant (.str "\\") k p2] p3) (envE C cdv) (eval (.Compare (.Name "ch" p1) [.Eq] [.Constant (.str "\\") k p2] p3) (envE C cdv))) (fun b s' => b = decide (c = 92) ∧ S3 h1 C L3 m s s') (fun _ _ => False) s := by
  obtain ⟨_, dp, fr, gd, un⟩ := A
  cases hh
  k_steps
  all_goals first | assumption | exact s3n (by assumption) | exact pair2 (by assumption) rfl | exact ch_eq _
theorem pc_set (hh : A.handled = none) (X : (Mine.Kc w.params).In h1) (T : Top topProg lo me mg mb h1) (F : Fr h1 C s.heap m) (N : News h1 C s.heap L3) {b : Bool} {p1 p2 p3 : Pos} {k : Nat} :
    wpAny (model PySem.Challenge.rw_to0028_01.row.prog w) A (exec (.Assign [.Name "escape" p1] (.Constant (.bool b) k p2) p3) (envE C cdv)) (fun f s' => f = .next ∧ S3 h1 C L3 (fun y => if y = "escape" then some (.bool b) else m y) s s') (fun _ _ => False) s := by
  obtain ⟨_, dp, fr, gd, un⟩ := A
  cases hh
  k_steps
  all_goals first | assumption | exact s3n (by assumption) | exact pair2 (by assumption) rfl | exact ch_eq _
theorem pc_set0 (hh : A.handled = none) (X : (Mine.Kc w.params).In h1) (T : Top topProg lo me mg mb h1) (F : Fr h1 C s.heap m) (N : News h1 C s.heap L3) {p1 p2 p3 : Pos} {k : Nat} :
    wpAny (model PySem.Challenge.rw_to0028_01.row.prog w) A (exec (.Assign [.Name "pos" p1] (.Constant (.int 0) k p2) p3) (envE C cdv)) (fun f s' => f = .next ∧ ∃ t, S3 h1 C L3 (fun y => if y = "pos" then some (.int 0 t) else m y) s s') (fun _ _ => False) s := by
  obtain ⟨_, dp, fr, gd, un⟩ := A
  cases hh
  k_steps
  all_goals first | assumption | exact s3n (by assumption) | exact pair2 (by assumption) rfl | exact ch_eq _
theorem pc_two (hh : A.handled = none) (X : (Mine.Kc w.params).In h1) (T : Top topProg lo me mg mb h1) (F : Fr h1 C s.heap m) (N : News h1 C s.heap L3) {q : Int} {tq : Tok} {c : Nat} {t : Tok} {p1 p2 p3 p4 p5 : Pos} {k k2 : Nat} (hm : m "ch" = some (.str ⟨#[c]⟩ t)) (hq : m "pos" = some (.int q tq)) :
    wpAny (model PySem.Challenge.rw_to0028_01.row.prog w) A (eval (.Tuple [.Name "pos" p1, .BinOp (.Constant (.str "\\") k p2) .Add (.Name "ch" p3) p4] k2 p5) (envE C cdv)) (fun v s' => S3 h1 C L3 m s s' ∧ Pair2 q ⟨#[92, c]⟩ v s'.heap) (fun _ _ => False) s := by
  obtain ⟨_, dp, fr, gd, un⟩ := A
  cases hh
  k_steps
  all_goals first | assumption | exact s3n (by assumption) | exact pair2 (by assumption) rfl | exact ch_eq _
theorem pc_one (hh : A.handled = none) (X : (Mine.Kc w.params).In h1) (T : Top topProg lo me mg mb h1) (F : Fr h1 C s.heap m) (N : News h1 C s.heap L3) {q : Int} {tq : Tok} {c : Nat} {t : Tok} {p1 p2 p3 p4 p5 : Pos} {k k2 : Nat} (hm : m "ch" = some (.str ⟨#[c]⟩ t)) (hq : m "pos" = some (.int q tq)) :
    wpAny (model PySem.Challenge.rw_to0028_01.row.prog w) A (eval (.Tuple [.Name "pos" p1, .Name "ch" p3] k2 p5) (envE C cdv)) (fun v s' => S3 h1 C L3 m s s' ∧ Pair2 q ⟨#[c]⟩ v s'.heap) (fun _ _ => False) s := by
  obtain ⟨_, dp, fr, gd, un⟩ := A
  cases hh
  k_steps
  all_goals first | assumption | exact s3n (by assumption) | exact pair2 (by assumption) rfl | exact ch_eq _
theorem pc_last (hh : A.handled = none) (X : (Mine.Kc w.params).In h1) (T : Top topProg lo me mg mb h1) (F : Fr h1 C s.heap m) (N : News h1 C s.heap L3) {q : Int} {tq : Tok} {p1 p2 p3 p4 p5 : Pos} {k k2 : Nat} (hq : m "pos" = some (.int q tq)) :
    wpAny (model PySem.Challenge.rw_to0028_01.row.prog w) A (eval (.Tuple [.Name "pos" p1, .Constant (.str "\\") k p2] k2 p5) (envE C cdv)) (fun v s' => S3 h1 C L3 m s s' ∧ Pair2 q "\\" v s'.heap) (fun _ _ => False) s := by
  obtain ⟨_, dp, fr, gd, un⟩ := A
  cases hh
  k_steps
  all_goals first | assumption | exact s3n (by assumption) | exact pair2 (by assumption) rfl | exact ch_eq _
end
/-- the iterator's state, and what it is made of -/
def EIt (E I : Addr) (x : Str) (t : Tok) (i : Nat) (h : Heap) : Prop := (∃ old, IsEnum h E I i old) ∧ h.IsStrIter I (strIterType x) x t i
theorem eit_walks {prog : Program} {w : World} {A : Around} (hh : A.handled = none) (E I : Addr) (hne : E ≠ I) (x : Str) (t : Tok) :
    ∃ Mid, WalksT prog w A E (E :: [I]) [E, I] x.cps.size (fun i vals => ∃ t, ∃ v, (∃ c u, x.cps[i]? = some c ∧ v = .str ⟨#[c]⟩ u) ∧ vals = #[.int i t, v]) (fun i h => EIt E I x t i h) Mid := by
  cases ha : x.cps.all (· < 128)
  · have e : strIterType x = "str_iterator" := by simp [strIterType, ha]
    have W := WalksT.enumerateD (Draws.strWide (prog := prog) (w := w) (A := A.in1) hh I x t) E hne (by simpa using hne) (by simp)
    unfold EIt; rw [e]
    exact ⟨_, W⟩
  · have e : strIterType x = "str_ascii_iterator" := by simp [strIterType, ha]
    have W := WalksT.enumerateD (Draws.strAscii (prog := prog) (w := w) (A := A.in1) hh I x t) E hne (by simpa using hne) (by simp)
    unfold EIt; rw [e]
    exact ⟨_, W⟩
theorem eit_dr {prog : Program} {w : World} {A : Around} (hh : A.handled = none) (E I : Addr) (hne : E ≠ I) (x : Str) (t : Tok) (C : Addr) (cdv : Value) {p1 p2 p3 : Pos} {k : Nat} :
    Dr prog w A (envE C cdv) (.Tuple [.Name "pos" p1, .Name "ch" p2] k p3) (.ref E) (E :: [I]) [E, I] x.cps.size
      (fun i m m' => ∃ v0 v1, ((∃ tq, v0 = .int (i : Nat) tq) ∧ ∃ c u, x.cps[i]? = some c ∧ v1 = .str ⟨#[c]⟩ u) ∧ m' = fun (z : Str) => if z = "ch" then some v1 else if z = "pos" then some v0 else m z) (fun i h => EIt E I x t i h) := by
  obtain ⟨Mid, W⟩ := eit_walks (prog := prog) (w := w) hh E I hne x t
  exact Dr.ofWalksT (P2 := fun i v0 v1 => (∃ tq, v0 = .int (i : Nat) tq) ∧ ∃ c u, x.cps[i]? = some c ∧ v1 = .str ⟨#[c]⟩ u) hh W (fun i vals ⟨tq, v, h, e⟩ => ⟨_, _, e, ⟨tq, rfl⟩, h⟩) (env := envE C cdv) rfl rfl rfl
theorem EIt.live {E I : Addr} {x : Str} {t : Tok} {i : Nat} {h : Heap} (e : EIt E I x t i h) : ∃ oE oI, h.get? E = some oE ∧ h.get? I = some oI := by
  obtain ⟨⟨old, a⟩, o, b, r⟩ := e
  exact ⟨_, _, a, b⟩
theorem EIt.frame {E I : Addr} {x : Str} {t : Tok} {i : Nat} {h h' : Heap} {oE oI : Obj} (e : EIt E I x t i h) (h1 : h.get? E = some oE) (h2 : h.get? I = some oI) (k1 : h'.get? E = some oE) (k2 : h'.get? I = some oI) : EIt E I x t i h' := by
  obtain ⟨⟨old, a⟩, o, b, r⟩ := e
  have a' := h1.symm.trans a; cases a'
  have b' := h2.symm.trans b; cases b'
  exact ⟨⟨old, k1⟩, _, k2, r⟩

/-- the heap below an address -/
def cut (h : Heap) (C : Nat) : Heap := ⟨h.objs.extract 0 C, h.life⟩
theorem cut_lt {h : Heap} {C b : Nat} (hb : b < C) : (cut h C).get? b = h.get? b := by
  unfold cut Heap.get?
  have e : (h.objs.extract 0 C)[b]? = h.objs[b]? := by
    rw [Array.getElem?_extract]
    simp only [Nat.zero_add, Nat.sub_zero]
    split
    · rfl
    · symm; apply Array.getElem?_eq_none; omega
  simp only [e]
theorem cut_ge {h : Heap} {C b : Nat} (hb : C ≤ b) : (cut h C).get? b = none := by
  unfold cut Heap.get?
  have e : (h.objs.extract 0 C)[b]? = none := by
    apply Array.getElem?_eq_none
    simp only [Array.size_extract]
    omega
  simp only [e]
theorem cut_size {h : Heap} {C : Nat} (hc : C ≤ h.objs.size) : (cut h C).objs.size = C := by
  show (h.objs.extract 0 C).size = C
  simp only [Array.size_extract]
  omega
theorem cut_of {h : Heap} {C b : Nat} {o : Obj} (e : (cut h C).get? b = some o) : b < C ∧ h.get? b = some o := by
  rcases Nat.lt_or_ge b C with hb | hb
  · rw [cut_lt hb] at e; exact ⟨hb, e⟩
  · rw [cut_ge hb] at e; cases e
theorem cut_kp {h₀ h : Heap} {C : Nat} (hc : h₀.objs.size ≤ C) (k : Kp h₀ h) : Kp h₀ (cut h C) := fun b o e => by
  rw [cut_lt (Nat.lt_of_lt_of_le (Heap.lt_size e) hc)]; exact k b o e

end

section
def escGo : Nat → Bool → List Nat → List (Nat × Str)
  | i, true, [] => [(i - 1, "\\")]
  | _, false, [] => []
  | i, true, c :: r => (i, ⟨#[92, c]⟩) :: escGo (i + 1) false r
  | i, false, c :: r => if c = 92 then escGo (i + 1) true r else (i, ⟨#[c]⟩) :: escGo (i + 1) false r
def GSince (C : Addr) (s₀ s : Shared) : Prop := ∃ h' tk, s = { s₀ with heap := h', toks := tk } ∧ ∀ b o, b ≤ C + 1 → b ≠ C → s₀.heap.get? b = some o → h'.get? b = some o
def Held (h₀ : Heap) (C : Addr) (b : Addr) : Prop := @LE.le Nat _ C b ∨ ∃ o, h₀.get? b = some o
def escY (h₀ : Heap) (C : Addr) (ys : List (Nat × Str)) : Protocol := fun n s₀ v s kap =>
  (∃ p u, ys[ys.length - 1 - n]? = some (p, u) ∧ Pair2 ((p : Nat) : Int) u v s.heap) ∧ GSince C s₀ s ∧ ∀ s'' : Shared, (∀ b o, Held h₀ C b → s.heap.get? b = some o → s''.heap.get? b = some o) → kap (.send .none) s''
def escR (C : Addr) : GenEnd := fun n s₀ r s₁ => r = .ok (.ret .none) ∧ (n = 0 ∧ GSince C s₀ s₁)
/-- where a segment stands -/
structure SInv (h₀ : Heap) (C : Addr) (oa : Obj) (s₀ s : Shared) (m : Str → Option Value) (L : List (Addr × Obj)) : Prop where
  since : ∃ h tk, s = { s₀ with heap := h, toks := tk }
  base : Kp h₀ s₀.heap
  ha : s₀.heap.get? (C + 1) = some oa
  F : Fr (cut s₀.heap C) C s.heap m
  N : News (cut s₀.heap C) C s.heap ((C + 1, oa) :: L)
theorem SInv.step {h₀ : Heap} {C : Addr} {oa : Obj} {s₀ s s' : Shared} {m m' : Str → Option Value} {L L' : List (Addr × Obj)} (S : SInv h₀ C oa s₀ s m L) (h : S3 (cut s₀.heap C) C ((C + 1, oa) :: L') m' s s') : SInv h₀ C oa s₀ s' m' L' := by
  obtain ⟨h1, t1, rfl⟩ := S.since
  obtain ⟨h2, t2, rfl, F2, N2⟩ := h
  exact ⟨⟨h2, t2, rfl⟩, S.base, S.ha, F2, N2⟩
theorem SInv.gs {h₀ : Heap} {C : Addr} {oa : Obj} {s₀ s : Shared} {m : Str → Option Value} {L : List (Addr × Obj)} (S : SInv h₀ C oa s₀ s m L) : GSince C s₀ s := by
  obtain ⟨h1, t1, rfl⟩ := S.since
  refine ⟨h1, t1, rfl, fun b o hb hn e => ?_⟩
  rcases Nat.lt_or_ge b C with hl | hl
  · exact S.F.keep b o (by rw [cut_lt hl]; exact e)
  · have e1 : b = C + 1 := by
      have : b ≠ C := hn
      have : @LE.le Nat _ b (C + 1) := hb
      have : @LE.le Nat _ C b := hl
      exact Nat.le_antisymm ‹_› (Nat.lt_of_le_of_ne ‹_› (Ne.symm hn))
    subst e1
    rw [S.ha] at e; cases e
    exact (S.N _ (.head _)).1
/-- after a rest -/
theorem SInv.wake {h₀ : Heap} {C : Addr} {oa : Obj} {s₀ s s'' : Shared} {m : Str → Option Value} {L : List (Addr × Obj)} (hC : h₀.objs.size ≤ C) (S : SInv h₀ C oa s₀ s m L)
    (hs : ∀ b o, Held h₀ C b → s.heap.get? b = some o → s''.heap.get? b = some o) (hL : ∀ p ∈ L, @LE.le Nat _ C p.1) : SInv h₀ C oa s'' s'' m L := by
  have ns : s''.heap.Ns C m := S.F.ns.at' fun o e => hs _ o (.inl (Nat.le_refl _)) e
  have ha : s''.heap.get? (C + 1) = some oa := hs _ _ (.inl (Nat.le_succ _)) (S.N _ (.head _)).1
  refine ⟨⟨s''.heap, s''.toks, rfl⟩, fun b o e => hs b o (.inr ⟨o, e⟩) ?_, ha, ⟨ns, fun b o e => (cut_of e).2, Nat.le_of_eq (cut_size (Nat.le_of_lt ns.lt))⟩, fun p hp => ?_⟩
  · exact S.F.keep b o (by rw [cut_lt (Nat.lt_of_lt_of_le (Heap.lt_size e) hC)]; exact S.base b o e)
  · have hc : @LE.le Nat _ C p.1 := by
      rcases List.mem_cons.mp hp with rfl | hp
      · exact Nat.le_succ _
      · exact hL p hp
    exact ⟨hs _ _ (.inl hc) (S.N p hp).1, (S.N p hp).2.1, cut_ge hc⟩

section
variable {w : World} {lo : List Str} {me : ExcName → Option Value} {mg mb : Str → Option Value} {A : Around} {h₀ : Heap} {C : Addr} {cdv : Value} {oa : Obj} {q1 q2 q3 q4 q5 q6 q7 q8 q9 r1 r2 r3 r4 r5 r6 r7 r8 r9 u1 u2 u3 u4 u5 u6 u7 u8 u9 : Pos} {k1 k2 k3 k4 k5 k6 k7 : Nat}
abbrev PG : Program := PySem.Challenge.rw_to0028_01.row.prog
theorem escGo_at {ys pre rs : List (Nat × Str)} {a : Nat × Str} (h : ys = pre ++ a :: rs) : ys[ys.length - 1 - rs.length]? = some a := by
  subst h
  have : (pre ++ a :: rs).length - 1 - rs.length = pre.length := by simp only [List.length_append, List.length_cons]; omega
  rw [this, List.getElem?_append_right (Nat.le_refl _), Nat.sub_self]; rfl
end
section

namespace GSE
abbrev qT := (World) × (List Str) × (ExcName → Option Value) × (Str → Option Value) × (Str → Option Value) × (Around) × (Heap) × (Addr) × (Value) × (Obj) × (Pos) × (Pos) × (Pos) × (Pos) × (Pos) × (Pos) × (Pos) × (Pos) × (Pos) × (Pos) × (Pos) × (Pos) × (Pos) × (Pos) × (Pos) × (Pos) × (Pos) × (Pos) × (Pos) × (Pos) × (Pos) × (Pos) × (Pos) × (Pos) × (Pos) × (Pos) × (Pos) × (Nat) × (Nat) × (Nat) × (Nat) × (Nat) × (Nat) × (Nat) × (Str) × (Tok) × (List (Nat × Str)) × (List Frame) × (Addr) × (Addr)
def qP (w : World) (lo : List Str) (me : ExcName → Option Value) (mg : Str → Option Value) (mb : Str → Option Value) (A : Around) (h₀ : Heap) (C : Addr) (cdv : Value) (oa : Obj) (q1 : Pos) (q2 : Pos) (q3 : Pos) (q4 : Pos) (q5 : Pos) (q6 : Pos) (q7 : Pos) (q8 : Pos) (q9 : Pos) (r1 : Pos) (r2 : Pos) (r3 : Pos) (r4 : Pos) (r5 : Pos) (r6 : Pos) (r7 : Pos) (r8 : Pos) (r9 : Pos) (u1 : Pos) (u2 : Pos) (u3 : Pos) (u4 : Pos) (u5 : Pos) (u6 : Pos) (u7 : Pos) (u8 : Pos) (u9 : Pos) (k1 : Nat) (k2 : Nat) (k3 : Nat) (k4 : Nat) (k5 : Nat) (k6 : Nat) (k7 : Nat) (x : Str) (t : Tok) (ys : List (Nat × Str)) (fs : List Frame) (E : Addr) (I : Addr) : Prop := ∀ (hh : A.handled = none) (G : Gd w lo me mg mb h₀) (hC : h₀.objs.size ≤ C) (hfs : splitAtGen fs = none) (hfg : fs.any Frame.guarded = false) (hov : ∀ c, (A.over c fs).handled = none) (hE : @LT.lt Nat _ (C + 1) E) (hI : @LT.lt Nat _ (C + 1) I) (hne : E ≠ I) (tail : ∀ s₀ s m (e : Bool) pre, SInv h₀ C oa s₀ s m [] → m "escape" = some (.bool e) → (∃ t, m "pos" = some (.int ((x.cps.size - 1 : Nat) : Int) t)) → ys = pre ++ escGo x.cps.size e [] →
      Seg (model PG w) A (escR C) (escY h₀ C ys) (escGo x.cps.size e []).length s₀ (.block [] (envE C cdv)) (leafOf (.ok .next)) fs s), ∀ (rest : List Nat) (i : Nat) (s₀ s : Shared) (m : Str → Option Value) (e : Bool) (pre : List (Nat × Str)) (oE oI : Obj), rest = x.cps.toList.drop i → SInv h₀ C oa s₀ s m [(E, oE), (I, oI)] → EIt E I x t i s.heap → i ≤ x.cps.size →
      m "escape" = some (.bool e) → (∃ t, m "pos" = some (.int ((i - 1 : Nat) : Int) t)) → ys = pre ++ escGo i e rest →
      Seg (model PG w) A (escR C) (escY h₀ C ys) (escGo i e rest).length s₀
        (.forLoop (.Tuple [.Name "pos" q1, .Name "ch" q2] k1 q3) (.ref E) [.If (.Name "escape" q4)
            [.Expr (.Yield (some (.Tuple [.Name "pos" q5, .BinOp (.Constant (.str "\\") k2 q6) .Add (.Name "ch" q7) q8] k3 q9)) r1) r2, .Assign [.Name "escape" r3] (.Constant (.bool false) k4 r4) r5]
            [.If (.Compare (.Name "ch" r6) [.Eq] [.Constant (.str "\\") k5 r7] r8) [.Assign [.Name "escape" r9] (.Constant (.bool true) k6 u1) u2]
              [.Expr (.Yield (some (.Tuple [.Name "pos" u3, .Name "ch" u4] k7 u5)) u6) u7] u8] u9] [] (envE C cdv))
        ((model PG w).den (.forLoop (.Tuple [.Name "pos" q1, .Name "ch" q2] k1 q3) (.ref E) [.If (.Name "escape" q4)
            [.Expr (.Yield (some (.Tuple [.Name "pos" q5, .BinOp (.Constant (.str "\\") k2 q6) .Add (.Name "ch" q7) q8] k3 q9)) r1) r2, .Assign [.Name "escape" r3] (.Constant (.bool false) k4 r4) r5]
            [.If (.Compare (.Name "ch" r6) [.Eq] [.Constant (.str "\\") k5 r7] r8) [.Assign [.Name "escape" r9] (.Constant (.bool true) k6 u1) u2]
              [.Expr (.Yield (some (.Tuple [.Name "pos" u3, .Name "ch" u4] k7 u5)) u6) u7] u8] u9] [] (envE C cdv))) fs s
theorem qN : Nonempty qT := ⟨(PySem.W.aWorld 0, default, default, default, default, ⟨none, 0, none, none, 0⟩, default, default, default, default, default, default, default, default, default, default, default, default, default, default, default, default, default, default, default, default, default, default, default, default, default, default, default, default, default, default, default, default, default, default, default, default, default, default, default, default, default, default, default, default)⟩
noncomputable def qk : qT := (Classical.choice (drink qN fun v => qP v.1 v.2.1 v.2.2.1 v.2.2.2.1 v.2.2.2.2.1 v.2.2.2.2.2.1 v.2.2.2.2.2.2.1 v.2.2.2.2.2.2.2.1 v.2.2.2.2.2.2.2.2.1 v.2.2.2.2.2.2.2.2.2.1 v.2.2.2.2.2.2.2.2.2.2.1 v.2.2.2.2.2.2.2.2.2.2.2.1 v.2.2.2.2.2.2.2.2.2.2.2.2.1 v.2.2.2.2.2.2.2.2.2.2.2.2.2.1 v.2.2.2.2.2.2.2.2.2.2.2.2.2.2.1 v.2.2.2.2.2.2.2.2.2.2.2.2.2.2.2.1 v.2.2.2.2.2.2.2.2.2.2.2.2.2.2.2.2.1 v.2.2.2.2.2.2.2.2.2.2.2.2.2.2.2.2.2.1 v.2.2.2.2.2.2.2.2.2.2.2.2.2.2.2.2.2.2.1 v.2.2.2.2.2.2.2.2.2.2.2.2.2.2.2.2.2.2.2.1 v.2.2.2.2.2.2.2.2.2.2.2.2.2.2.2.2.2.2.2.2.1 v.2.2.2.2.2.2.2.2.2.2.2.2.2.2.2.2.2.2.2.2.2.1 v.2.2.2.2.2.2.2.2.2.2.2.2.2.2.2.2.2.2.2.2.2.2.1 v.2.2.2.2.2.2.2.2.2.2.2.2.2.2.2.2.2.2.2.2.2.2.2.1 v.2.2.2.2.2.2.2.2.2.2.2.2.2.2.2.2.2.2.2.2.2.2.2.2.1 v.2.2.2.2.2.2.2.2.2.2.2.2.2.2.2.2.2.2.2.2.2.2.2.2.2.1 v.2.2.2.2.2.2.2.2.2.2.2.2.2.2.2.2.2.2.2.2.2.2.2.2.2.2.1 v.2.2.2.2.2.2.2.2.2.2.2.2.2.2.2.2.2.2.2.2.2.2.2.2.2.2.2.1 v.2.2.2.2.2.2.2.2.2.2.2.2.2.2.2.2.2.2.2.2.2.2.2.2.2.2.2.2.1 v.2.2.2.2.2.2.2.2.2.2.2.2.2.2.2.2.2.2.2.2.2.2.2.2.2.2.2.2.2.1 v.2.2.2.2.2.2.2.2.2.2.2.2.2.2.2.2.2.2.2.2.2.2.2.2.2.2.2.2.2.2.1 v.2.2.2.2.2.2.2.2.2.2.2.2.2.2.2.2.2.2.2.2.2.2.2.2.2.2.2.2.2.2.2.1 v.2.2.2.2.2.2.2.2.2.2.2.2.2.2.2.2.2.2.2.2.2.2.2.2.2.2.2.2.2.2.2.2.1 v.2.2.2.2.2.2.2.2.2.2.2.2.2.2.2.2.2.2.2.2.2.2.2.2.2.2.2.2.2.2.2.2.2.1 v.2.2.2.2.2.2.2.2.2.2.2.2.2.2.2.2.2.2.2.2.2.2.2.2.2.2.2.2.2.2.2.2.2.2.1 v.2.2.2.2.2.2.2.2.2.2.2.2.2.2.2.2.2.2.2.2.2.2.2.2.2.2.2.2.2.2.2.2.2.2.2.1 v.2.2.2.2.2.2.2.2.2.2.2.2.2.2.2.2.2.2.2.2.2.2.2.2.2.2.2.2.2.2.2.2.2.2.2.2.1 v.2.2.2.2.2.2.2.2.2.2.2.2.2.2.2.2.2.2.2.2.2.2.2.2.2.2.2.2.2.2.2.2.2.2.2.2.2.1 v.2.2.2.2.2.2.2.2.2.2.2.2.2.2.2.2.2.2.2.2.2.2.2.2.2.2.2.2.2.2.2.2.2.2.2.2.2.2.1 v.2.2.2.2.2.2.2.2.2.2.2.2.2.2.2.2.2.2.2.2.2.2.2.2.2.2.2.2.2.2.2.2.2.2.2.2.2.2.2.1 v.2.2.2.2.2.2.2.2.2.2.2.2.2.2.2.2.2.2.2.2.2.2.2.2.2.2.2.2.2.2.2.2.2.2.2.2.2.2.2.2.1 v.2.2.2.2.2.2.2.2.2.2.2.2.2.2.2.2.2.2.2.2.2.2.2.2.2.2.2.2.2.2.2.2.2.2.2.2.2.2.2.2.2.1 v.2.2.2.2.2.2.2.2.2.2.2.2.2.2.2.2.2.2.2.2.2.2.2.2.2.2.2.2.2.2.2.2.2.2.2.2.2.2.2.2.2.2.1 v.2.2.2.2.2.2.2.2.2.2.2.2.2.2.2.2.2.2.2.2.2.2.2.2.2.2.2.2.2.2.2.2.2.2.2.2.2.2.2.2.2.2.2.1 v.2.2.2.2.2.2.2.2.2.2.2.2.2.2.2.2.2.2.2.2.2.2.2.2.2.2.2.2.2.2.2.2.2.2.2.2.2.2.2.2.2.2.2.2.1 v.2.2.2.2.2.2.2.2.2.2.2.2.2.2.2.2.2.2.2.2.2.2.2.2.2.2.2.2.2.2.2.2.2.2.2.2.2.2.2.2.2.2.2.2.2.1 v.2.2.2.2.2.2.2.2.2.2.2.2.2.2.2.2.2.2.2.2.2.2.2.2.2.2.2.2.2.2.2.2.2.2.2.2.2.2.2.2.2.2.2.2.2.2.1 v.2.2.2.2.2.2.2.2.2.2.2.2.2.2.2.2.2.2.2.2.2.2.2.2.2.2.2.2.2.2.2.2.2.2.2.2.2.2.2.2.2.2.2.2.2.2.2.1 v.2.2.2.2.2.2.2.2.2.2.2.2.2.2.2.2.2.2.2.2.2.2.2.2.2.2.2.2.2.2.2.2.2.2.2.2.2.2.2.2.2.2.2.2.2.2.2.2.1 v.2.2.2.2.2.2.2.2.2.2.2.2.2.2.2.2.2.2.2.2.2.2.2.2.2.2.2.2.2.2.2.2.2.2.2.2.2.2.2.2.2.2.2.2.2.2.2.2.2)).1
noncomputable def w : World := qk.1
noncomputable def lo : List Str := qk.2.1
noncomputable def me : ExcName → Option Value := qk.2.2.1
noncomputable def mg : Str → Option Value := qk.2.2.2.1
noncomputable def mb : Str → Option Value := qk.2.2.2.2.1
noncomputable def h₀ : Heap := qk.2.2.2.2.2.2.1
noncomputable def C : Addr := qk.2.2.2.2.2.2.2.1
noncomputable def cdv : Value := qk.2.2.2.2.2.2.2.2.1
noncomputable def oa : Obj := qk.2.2.2.2.2.2.2.2.2.1
noncomputable def q1 : Pos := qk.2.2.2.2.2.2.2.2.2.2.1
noncomputable def q2 : Pos := qk.2.2.2.2.2.2.2.2.2.2.2.1
noncomputable def q3 : Pos := qk.2.2.2.2.2.2.2.2.2.2.2.2.1
noncomputable def k1 : Nat := qk.2.2.2.2.2.2.2.2.2.2.2.2.2.2.2.2.2.2.2.2.2.2.2.2.2.2.2.2.2.2.2.2.2.2.2.2.2.1
noncomputable def x : Str := qk.2.2.2.2.2.2.2.2.2.2.2.2.2.2.2.2.2.2.2.2.2.2.2.2.2.2.2.2.2.2.2.2.2.2.2.2.2.2.2.2.2.2.2.2.1
noncomputable def t : Tok := qk.2.2.2.2.2.2.2.2.2.2.2.2.2.2.2.2.2.2.2.2.2.2.2.2.2.2.2.2.2.2.2.2.2.2.2.2.2.2.2.2.2.2.2.2.2.1
noncomputable def E : Addr := qk.2.2.2.2.2.2.2.2.2.2.2.2.2.2.2.2.2.2.2.2.2.2.2.2.2.2.2.2.2.2.2.2.2.2.2.2.2.2.2.2.2.2.2.2.2.2.2.2.1
noncomputable def I : Addr := qk.2.2.2.2.2.2.2.2.2.2.2.2.2.2.2.2.2.2.2.2.2.2.2.2.2.2.2.2.2.2.2.2.2.2.2.2.2.2.2.2.2.2.2.2.2.2.2.2.2
theorem qA (h : qP w lo me mg mb qk.2.2.2.2.2.1 h₀ C cdv oa q1 q2 q3 qk.2.2.2.2.2.2.2.2.2.2.2.2.2.1 qk.2.2.2.2.2.2.2.2.2.2.2.2.2.2.1 qk.2.2.2.2.2.2.2.2.2.2.2.2.2.2.2.1 qk.2.2.2.2.2.2.2.2.2.2.2.2.2.2.2.2.1 qk.2.2.2.2.2.2.2.2.2.2.2.2.2.2.2.2.2.1 qk.2.2.2.2.2.2.2.2.2.2.2.2.2.2.2.2.2.2.1 qk.2.2.2.2.2.2.2.2.2.2.2.2.2.2.2.2.2.2.2.1 qk.2.2.2.2.2.2.2.2.2.2.2.2.2.2.2.2.2.2.2.2.1 qk.2.2.2.2.2.2.2.2.2.2.2.2.2.2.2.2.2.2.2.2.2.1 qk.2.2.2.2.2.2.2.2.2.2.2.2.2.2.2.2.2.2.2.2.2.2.1 qk.2.2.2.2.2.2.2.2.2.2.2.2.2.2.2.2.2.2.2.2.2.2.2.1 qk.2.2.2.2.2.2.2.2.2.2.2.2.2.2.2.2.2.2.2.2.2.2.2.2.1 qk.2.2.2.2.2.2.2.2.2.2.2.2.2.2.2.2.2.2.2.2.2.2.2.2.2.1 qk.2.2.2.2.2.2.2.2.2.2.2.2.2.2.2.2.2.2.2.2.2.2.2.2.2.2.1 qk.2.2.2.2.2.2.2.2.2.2.2.2.2.2.2.2.2.2.2.2.2.2.2.2.2.2.2.1 qk.2.2.2.2.2.2.2.2.2.2.2.2.2.2.2.2.2.2.2.2.2.2.2.2.2.2.2.2.1 qk.2.2.2.2.2.2.2.2.2.2.2.2.2.2.2.2.2.2.2.2.2.2.2.2.2.2.2.2.2.1 qk.2.2.2.2.2.2.2.2.2.2.2.2.2.2.2.2.2.2.2.2.2.2.2.2.2.2.2.2.2.2.1 qk.2.2.2.2.2.2.2.2.2.2.2.2.2.2.2.2.2.2.2.2.2.2.2.2.2.2.2.2.2.2.2.1 qk.2.2.2.2.2.2.2.2.2.2.2.2.2.2.2.2.2.2.2.2.2.2.2.2.2.2.2.2.2.2.2.2.1 qk.2.2.2.2.2.2.2.2.2.2.2.2.2.2.2.2.2.2.2.2.2.2.2.2.2.2.2.2.2.2.2.2.2.1 qk.2.2.2.2.2.2.2.2.2.2.2.2.2.2.2.2.2.2.2.2.2.2.2.2.2.2.2.2.2.2.2.2.2.2.1 qk.2.2.2.2.2.2.2.2.2.2.2.2.2.2.2.2.2.2.2.2.2.2.2.2.2.2.2.2.2.2.2.2.2.2.2.1 qk.2.2.2.2.2.2.2.2.2.2.2.2.2.2.2.2.2.2.2.2.2.2.2.2.2.2.2.2.2.2.2.2.2.2.2.2.1 k1 qk.2.2.2.2.2.2.2.2.2.2.2.2.2.2.2.2.2.2.2.2.2.2.2.2.2.2.2.2.2.2.2.2.2.2.2.2.2.2.1 qk.2.2.2.2.2.2.2.2.2.2.2.2.2.2.2.2.2.2.2.2.2.2.2.2.2.2.2.2.2.2.2.2.2.2.2.2.2.2.2.1 qk.2.2.2.2.2.2.2.2.2.2.2.2.2.2.2.2.2.2.2.2.2.2.2.2.2.2.2.2.2.2.2.2.2.2.2.2.2.2.2.2.1 qk.2.2.2.2.2.2.2.2.2.2.2.2.2.2.2.2.2.2.2.2.2.2.2.2.2.2.2.2.2.2.2.2.2.2.2.2.2.2.2.2.2.1 qk.2.2.2.2.2.2.2.2.2.2.2.2.2.2.2.2.2.2.2.2.2.2.2.2.2.2.2.2.2.2.2.2.2.2.2.2.2.2.2.2.2.2.1 qk.2.2.2.2.2.2.2.2.2.2.2.2.2.2.2.2.2.2.2.2.2.2.2.2.2.2.2.2.2.2.2.2.2.2.2.2.2.2.2.2.2.2.2.1 x t qk.2.2.2.2.2.2.2.2.2.2.2.2.2.2.2.2.2.2.2.2.2.2.2.2.2.2.2.2.2.2.2.2.2.2.2.2.2.2.2.2.2.2.2.2.2.2.1 qk.2.2.2.2.2.2.2.2.2.2.2.2.2.2.2.2.2.2.2.2.2.2.2.2.2.2.2.2.2.2.2.2.2.2.2.2.2.2.2.2.2.2.2.2.2.2.2.1 E I) (w : World) (lo : List Str) (me : ExcName → Option Value) (mg : Str → Option Value) (mb : Str → Option Value) (A : Around) (h₀ : Heap) (C : Addr) (cdv : Value) (oa : Obj) (q1 : Pos) (q2 : Pos) (q3 : Pos) (q4 : Pos) (q5 : Pos) (q6 : Pos) (q7 : Pos) (q8 : Pos) (q9 : Pos) (r1 : Pos) (r2 : Pos) (r3 : Pos) (r4 : Pos) (r5 : Pos) (r6 : Pos) (r7 : Pos) (r8 : Pos) (r9 : Pos) (u1 : Pos) (u2 : Pos) (u3 : Pos) (u4 : Pos) (u5 : Pos) (u6 : Pos) (u7 : Pos) (u8 : Pos) (u9 : Pos) (k1 : Nat) (k2 : Nat) (k3 : Nat) (k4 : Nat) (k5 : Nat) (k6 : Nat) (k7 : Nat) (x : Str) (t : Tok) (ys : List (Nat × Str)) (fs : List Frame) (E : Addr) (I : Addr) : qP w lo me mg mb A h₀ C cdv oa q1 q2 q3 q4 q5 q6 q7 q8 q9 r1 r2 r3 r4 r5 r6 r7 r8 r9 u1 u2 u3 u4 u5 u6 u7 u8 u9 k1 k2 k3 k4 k5 k6 k7 x t ys fs E I := (Classical.choice (drink qN fun v => qP v.1 v.2.1 v.2.2.1 v.2.2.2.1 v.2.2.2.2.1 v.2.2.2.2.2.1 v.2.2.2.2.2.2.1 v.2.2.2.2.2.2.2.1 v.2.2.2.2.2.2.2.2.1 v.2.2.2.2.2.2.2.2.2.1 v.2.2.2.2.2.2.2.2.2.2.1 v.2.2.2.2.2.2.2.2.2.2.2.1 v.2.2.2.2.2.2.2.2.2.2.2.2.1 v.2.2.2.2.2.2.2.2.2.2.2.2.2.1 v.2.2.2.2.2.2.2.2.2.2.2.2.2.2.1 v.2.2.2.2.2.2.2.2.2.2.2.2.2.2.2.1 v.2.2.2.2.2.2.2.2.2.2.2.2.2.2.2.2.1 v.2.2.2.2.2.2.2.2.2.2.2.2.2.2.2.2.2.1 v.2.2.2.2.2.2.2.2.2.2.2.2.2.2.2.2.2.2.1 v.2.2.2.2.2.2.2.2.2.2.2.2.2.2.2.2.2.2.2.1 v.2.2.2.2.2.2.2.2.2.2.2.2.2.2.2.2.2.2.2.2.1 v.2.2.2.2.2.2.2.2.2.2.2.2.2.2.2.2.2.2.2.2.2.1 v.2.2.2.2.2.2.2.2.2.2.2.2.2.2.2.2.2.2.2.2.2.2.1 v.2.2.2.2.2.2.2.2.2.2.2.2.2.2.2.2.2.2.2.2.2.2.2.1 v.2.2.2.2.2.2.2.2.2.2.2.2.2.2.2.2.2.2.2.2.2.2.2.2.1 v.2.2.2.2.2.2.2.2.2.2.2.2.2.2.2.2.2.2.2.2.2.2.2.2.2.1 v.2.2.2.2.2.2.2.2.2.2.2.2.2.2.2.2.2.2.2.2.2.2.2.2.2.2.1 v.2.2.2.2.2.2.2.2.2.2.2.2.2.2.2.2.2.2.2.2.2.2.2.2.2.2.2.1 v.2.2.2.2.2.2.2.2.2.2.2.2.2.2.2.2.2.2.2.2.2.2.2.2.2.2.2.2.1 v.2.2.2.2.2.2.2.2.2.2.2.2.2.2.2.2.2.2.2.2.2.2.2.2.2.2.2.2.2.1 v.2.2.2.2.2.2.2.2.2.2.2.2.2.2.2.2.2.2.2.2.2.2.2.2.2.2.2.2.2.2.1 v.2.2.2.2.2.2.2.2.2.2.2.2.2.2.2.2.2.2.2.2.2.2.2.2.2.2.2.2.2.2.2.1 v.2.2.2.2.2.2.2.2.2.2.2.2.2.2.2.2.2.2.2.2.2.2.2.2.2.2.2.2.2.2.2.2.1 v.2.2.2.2.2.2.2.2.2.2.2.2.2.2.2.2.2.2.2.2.2.2.2.2.2.2.2.2.2.2.2.2.2.1 v.2.2.2.2.2.2.2.2.2.2.2.2.2.2.2.2.2.2.2.2.2.2.2.2.2.2.2.2.2.2.2.2.2.2.1 v.2.2.2.2.2.2.2.2.2.2.2.2.2.2.2.2.2.2.2.2.2.2.2.2.2.2.2.2.2.2.2.2.2.2.2.1 v.2.2.2.2.2.2.2.2.2.2.2.2.2.2.2.2.2.2.2.2.2.2.2.2.2.2.2.2.2.2.2.2.2.2.2.2.1 v.2.2.2.2.2.2.2.2.2.2.2.2.2.2.2.2.2.2.2.2.2.2.2.2.2.2.2.2.2.2.2.2.2.2.2.2.2.1 v.2.2.2.2.2.2.2.2.2.2.2.2.2.2.2.2.2.2.2.2.2.2.2.2.2.2.2.2.2.2.2.2.2.2.2.2.2.2.1 v.2.2.2.2.2.2.2.2.2.2.2.2.2.2.2.2.2.2.2.2.2.2.2.2.2.2.2.2.2.2.2.2.2.2.2.2.2.2.2.1 v.2.2.2.2.2.2.2.2.2.2.2.2.2.2.2.2.2.2.2.2.2.2.2.2.2.2.2.2.2.2.2.2.2.2.2.2.2.2.2.2.1 v.2.2.2.2.2.2.2.2.2.2.2.2.2.2.2.2.2.2.2.2.2.2.2.2.2.2.2.2.2.2.2.2.2.2.2.2.2.2.2.2.2.1 v.2.2.2.2.2.2.2.2.2.2.2.2.2.2.2.2.2.2.2.2.2.2.2.2.2.2.2.2.2.2.2.2.2.2.2.2.2.2.2.2.2.2.1 v.2.2.2.2.2.2.2.2.2.2.2.2.2.2.2.2.2.2.2.2.2.2.2.2.2.2.2.2.2.2.2.2.2.2.2.2.2.2.2.2.2.2.2.1 v.2.2.2.2.2.2.2.2.2.2.2.2.2.2.2.2.2.2.2.2.2.2.2.2.2.2.2.2.2.2.2.2.2.2.2.2.2.2.2.2.2.2.2.2.1 v.2.2.2.2.2.2.2.2.2.2.2.2.2.2.2.2.2.2.2.2.2.2.2.2.2.2.2.2.2.2.2.2.2.2.2.2.2.2.2.2.2.2.2.2.2.1 v.2.2.2.2.2.2.2.2.2.2.2.2.2.2.2.2.2.2.2.2.2.2.2.2.2.2.2.2.2.2.2.2.2.2.2.2.2.2.2.2.2.2.2.2.2.2.1 v.2.2.2.2.2.2.2.2.2.2.2.2.2.2.2.2.2.2.2.2.2.2.2.2.2.2.2.2.2.2.2.2.2.2.2.2.2.2.2.2.2.2.2.2.2.2.2.1 v.2.2.2.2.2.2.2.2.2.2.2.2.2.2.2.2.2.2.2.2.2.2.2.2.2.2.2.2.2.2.2.2.2.2.2.2.2.2.2.2.2.2.2.2.2.2.2.2.1 v.2.2.2.2.2.2.2.2.2.2.2.2.2.2.2.2.2.2.2.2.2.2.2.2.2.2.2.2.2.2.2.2.2.2.2.2.2.2.2.2.2.2.2.2.2.2.2.2.2)).2 h (w, lo, me, mg, mb, A, h₀, C, cdv, oa, q1, q2, q3, q4, q5, q6, q7, q8, q9, r1, r2, r3, r4, r5, r6, r7, r8, r9, u1, u2, u3, u4, u5, u6, u7, u8, u9, k1, k2, k3, k4, k5, k6, k7, x, t, ys, fs, E, I)
set_option maxHeartbeats 4000000
theorem qW : qP w lo me mg mb qk.2.2.2.2.2.1 h₀ C cdv oa q1 q2 q3 qk.2.2.2.2.2.2.2.2.2.2.2.2.2.1 qk.2.2.2.2.2.2.2.2.2.2.2.2.2.2.1 qk.2.2.2.2.2.2.2.2.2.2.2.2.2.2.2.1 qk.2.2.2.2.2.2.2.2.2.2.2.2.2.2.2.2.1 qk.2.2.2.2.2.2.2.2.2.2.2.2.2.2.2.2.2.1 qk.2.2.2.2.2.2.2.2.2.2.2.2.2.2.2.2.2.2.1 qk.2.2.2.2.2.2.2.2.2.2.2.2.2.2.2.2.2.2.2.1 qk.2.2.2.2.2.2.2.2.2.2.2.2.2.2.2.2.2.2.2.2.1 qk.2.2.2.2.2.2.2.2.2.2.2.2.2.2.2.2.2.2.2.2.2.1 qk.2.2.2.2.2.2.2.2.2.2.2.2.2.2.2.2.2.2.2.2.2.2.1 qk.2.2.2.2.2.2.2.2.2.2.2.2.2.2.2.2.2.2.2.2.2.2.2.1 qk.2.2.2.2.2.2.2.2.2.2.2.2.2.2.2.2.2.2.2.2.2.2.2.2.1 qk.2.2.2.2.2.2.2.2.2.2.2.2.2.2.2.2.2.2.2.2.2.2.2.2.2.1 qk.2.2.2.2.2.2.2.2.2.2.2.2.2.2.2.2.2.2.2.2.2.2.2.2.2.2.1 qk.2.2.2.2.2.2.2.2.2.2.2.2.2.2.2.2.2.2.2.2.2.2.2.2.2.2.2.1 qk.2.2.2.2.2.2.2.2.2.2.2.2.2.2.2.2.2.2.2.2.2.2.2.2.2.2.2.2.1 qk.2.2.2.2.2.2.2.2.2.2.2.2.2.2.2.2.2.2.2.2.2.2.2.2.2.2.2.2.2.1 qk.2.2.2.2.2.2.2.2.2.2.2.2.2.2.2.2.2.2.2.2.2.2.2.2.2.2.2.2.2.2.1 qk.2.2.2.2.2.2.2.2.2.2.2.2.2.2.2.2.2.2.2.2.2.2.2.2.2.2.2.2.2.2.2.1 qk.2.2.2.2.2.2.2.2.2.2.2.2.2.2.2.2.2.2.2.2.2.2.2.2.2.2.2.2.2.2.2.2.1 qk.2.2.2.2.2.2.2.2.2.2.2.2.2.2.2.2.2.2.2.2.2.2.2.2.2.2.2.2.2.2.2.2.2.1 qk.2.2.2.2.2.2.2.2.2.2.2.2.2.2.2.2.2.2.2.2.2.2.2.2.2.2.2.2.2.2.2.2.2.2.1 qk.2.2.2.2.2.2.2.2.2.2.2.2.2.2.2.2.2.2.2.2.2.2.2.2.2.2.2.2.2.2.2.2.2.2.2.1 qk.2.2.2.2.2.2.2.2.2.2.2.2.2.2.2.2.2.2.2.2.2.2.2.2.2.2.2.2.2.2.2.2.2.2.2.2.1 k1 qk.2.2.2.2.2.2.2.2.2.2.2.2.2.2.2.2.2.2.2.2.2.2.2.2.2.2.2.2.2.2.2.2.2.2.2.2.2.2.1 qk.2.2.2.2.2.2.2.2.2.2.2.2.2.2.2.2.2.2.2.2.2.2.2.2.2.2.2.2.2.2.2.2.2.2.2.2.2.2.2.1 qk.2.2.2.2.2.2.2.2.2.2.2.2.2.2.2.2.2.2.2.2.2.2.2.2.2.2.2.2.2.2.2.2.2.2.2.2.2.2.2.2.1 qk.2.2.2.2.2.2.2.2.2.2.2.2.2.2.2.2.2.2.2.2.2.2.2.2.2.2.2.2.2.2.2.2.2.2.2.2.2.2.2.2.2.1 qk.2.2.2.2.2.2.2.2.2.2.2.2.2.2.2.2.2.2.2.2.2.2.2.2.2.2.2.2.2.2.2.2.2.2.2.2.2.2.2.2.2.2.1 qk.2.2.2.2.2.2.2.2.2.2.2.2.2.2.2.2.2.2.2.2.2.2.2.2.2.2.2.2.2.2.2.2.2.2.2.2.2.2.2.2.2.2.2.1 x t qk.2.2.2.2.2.2.2.2.2.2.2.2.2.2.2.2.2.2.2.2.2.2.2.2.2.2.2.2.2.2.2.2.2.2.2.2.2.2.2.2.2.2.2.2.2.2.1 qk.2.2.2.2.2.2.2.2.2.2.2.2.2.2.2.2.2.2.2.2.2.2.2.2.2.2.2.2.2.2.2.2.2.2.2.2.2.2.2.2.2.2.2.2.2.2.2.1 E I := by
  intro hh G hC hfs hfg hov hE hI hne tail
  intro rest
  induction rest with
  | nil =>
    intro i s₀ s m e pre oE oI hr S hit hi hm hp hy
    have hi2 : i = x.cps.size := by
      have := congrArg List.length hr
      simp only [List.length_nil, List.length_drop, Array.length_toList] at this
      omega
    subst hi2
    refine seg_forLoop (wpAny_mono ((eit_dr (p1 := q1) (p2 := q2) (p3 := q3) (k := k1) (hov _) E I hne x t C cdv).done s (fun s' => SInv h₀ C oa s₀ s' m []) _ hit fun h' tk hk => ?_) (fun r s' h => ?_) fun _ _ h => h)
    · refine S.step ⟨h', tk, rfl, ⟨S.F.ns.at' fun o e => hk _ o ?_ e, fun b o e => hk b o ?_ (S.F.keep b o e), S.F.above⟩, fun p hp => ?_⟩
      · intro h
        rcases List.mem_cons.mp h with h | h
        · exact absurd (h ▸ hE) (Nat.not_lt.mpr (Nat.le_succ _))
        · exact absurd ((List.mem_singleton.mp h) ▸ hI) (Nat.not_lt.mpr (Nat.le_succ _))
      · have hb := (cut_of e).1
        intro h
        rcases List.mem_cons.mp h with h | h
        · exact absurd (h ▸ hb) (Nat.not_lt.mpr (Nat.le_of_lt (Nat.lt_of_succ_lt hE)))
        · exact absurd ((List.mem_singleton.mp h) ▸ hb) (Nat.not_lt.mpr (Nat.le_of_lt (Nat.lt_of_succ_lt hI)))
      · rw [List.mem_singleton.mp hp]
        refine ⟨hk _ _ ?_ (S.N _ (.head _)).1, (S.N _ (.head _)).2⟩
        intro h
        rcases List.mem_cons.mp h with h | h
        · exact absurd (h ▸ hE) (Nat.lt_irrefl _)
        · exact absurd ((List.mem_singleton.mp h) ▸ hI) (Nat.lt_irrefl _)
    · obtain ⟨rfl, h⟩ := h
      exact tail s₀ s' m e pre h hm hp hy
  | cons c r ih =>
    intro i s₀ s m e pre oE oI hr S hit hi hm hp hy
    have hil : i < x.cps.size := by
      have := congrArg List.length hr
      simp only [List.length_cons, List.length_drop, Array.length_toList] at this
      omega
    have hc : x.cps[i]? = some c := by
      have := congrArg (fun l => l[0]?) hr
      simp only [List.getElem?_cons_zero, List.getElem?_drop, Nat.add_zero] at this
      rw [Array.getElem?_toList] at this
      exact this.symm
    have hr' : r = x.cps.toList.drop (i + 1) := by
      have := congrArg List.tail hr
      simpa [List.tail_drop] using this
    have hCf : (envE C cdv).locals ∉ [E, I] := by
      intro h
      rcases List.mem_cons.mp h with h | h
      · exact absurd ((show C = E from h) ▸ hE : @LT.lt Nat _ (C + 1) C) (Nat.not_lt.mpr (Nat.le_succ _))
      · exact absurd ((show C = I from List.mem_singleton.mp h) ▸ hI : @LT.lt Nat _ (C + 1) C) (Nat.not_lt.mpr (Nat.le_succ _))
    refine seg_forLoop (wpAny_mono ((eit_dr (p1 := q1) (p2 := q2) (p3 := q3) (k := k1) (hov _) E I hne x t C cdv).item i s m (fun _ s' => ∃ m' oE' oI' tc, SInv h₀ C oa s₀ s' m' [(E, oE'), (I, oI')] ∧ EIt E I x t (i + 1) s'.heap ∧ m' "escape" = some (.bool e) ∧ (∃ t, m' "pos" = some (.int ((i : Nat) : Int) t)) ∧ m' "ch" = some (.str ⟨#[c]⟩ tc)) (fun _ _ => False) hil hit S.F.ns hCf fun h' tk m' hB hn hst hk => ?_) (fun r' s' h => ?_) fun _ _ h => h)
    · obtain ⟨v0, v1, ⟨⟨tq, rfl⟩, c', tc, hc', rfl⟩, rfl⟩ := hB
      rw [hc] at hc'; cases hc'
      obtain ⟨oE', oI', g1, g2⟩ := hst.live
      refine ⟨_, oE', oI', tc, S.step ⟨h', tk, rfl, ⟨hn, fun b o e => hk b o ?_ ?_ (S.F.keep b o e), S.F.above⟩, fun p hp => ?_⟩, hst, ?_, ⟨tq, ?_⟩, ?_⟩
      · have hb := (cut_of e).1
        intro h
        rcases List.mem_cons.mp h with h | h
        · exact absurd (h ▸ hb) (Nat.not_lt.mpr (Nat.le_of_lt (Nat.lt_of_succ_lt hE)))
        · exact absurd ((List.mem_singleton.mp h) ▸ hb) (Nat.not_lt.mpr (Nat.le_of_lt (Nat.lt_of_succ_lt hI)))
      · exact Nat.ne_of_lt (cut_of e).1
      · rcases List.mem_cons.mp hp with rfl | hp
        · refine ⟨hk _ _ ?_ (S.N _ (.head _)).2.1 (S.N _ (.head _)).1, (S.N _ (.head _)).2⟩
          intro h
          rcases List.mem_cons.mp h with h | h
          · exact absurd (h ▸ hE) (Nat.lt_irrefl _)
          · exact absurd ((List.mem_singleton.mp h) ▸ hI) (Nat.lt_irrefl _)
        rcases List.mem_cons.mp hp with rfl | hp
        · exact ⟨g1, Nat.ne_of_gt (Nat.lt_of_succ_lt hE), cut_ge (Nat.le_of_lt (Nat.lt_of_succ_lt hE))⟩
        · rw [List.mem_singleton.mp hp]
          exact ⟨g2, Nat.ne_of_gt (Nat.lt_of_succ_lt hI), cut_ge (Nat.le_of_lt (Nat.lt_of_succ_lt hI))⟩
      · exact (if_neg (by decide)).trans ((if_neg (by decide)).trans hm)
      · exact (if_neg (by decide)).trans (if_pos rfl)
      · exact if_pos rfl
    · obtain ⟨v, rfl, h⟩ := h
      refine wpAny_mono h (fun _ s₁ h => wpAny_mono h (fun _ s₂ h => ?_) fun _ _ h => h) fun _ _ h => h
      obtain ⟨m', oE', oI', tc, S', hit', hm', ⟨tq, hp'⟩, hch⟩ := h
      have hL : ∀ p ∈ [(E, oE'), (I, oI')], @LE.le Nat _ C p.1 := by
        intro p hp
        rcases List.mem_cons.mp hp with rfl | hp
        · exact Nat.le_of_lt (Nat.lt_of_succ_lt hE)
        · rw [List.mem_singleton.mp hp]; exact Nat.le_of_lt (Nat.lt_of_succ_lt hI)
      have Gc : Gd w lo me mg mb (cut s₀.heap C) := G.keeps (cut_kp hC S'.base)
      have fr2 : ∀ {s₀ s' : Shared} {m' : Str → Option Value}, SInv h₀ C oa s₀ s' m' [(E, oE'), (I, oI')] → (∃ sx : Shared, EIt E I x t (i + 1) sx.heap ∧ sx.heap.get? E = some oE' ∧ sx.heap.get? I = some oI') → EIt E I x t (i + 1) s'.heap := by
        rintro s₀ s' m' S2 ⟨sx, a, b, c⟩
        exact a.frame b c (S2.N _ (.tail _ (.head _))).1 (S2.N _ (.tail _ (.tail _ (.head _)))).1
      have hx : ∃ sx : Shared, EIt E I x t (i + 1) sx.heap ∧ sx.heap.get? E = some oE' ∧ sx.heap.get? I = some oI' := ⟨s₂, hit', (S'.N _ (.tail _ (.head _))).1, (S'.N _ (.tail _ (.tail _ (.head _)))).1⟩
      refine seg_execs_cons (seg_If (wpAny_mono (pc_esc (hov _) Gc.X Gc.T S'.F S'.N hm') (fun b s₃ h => ?_) fun _ _ h => h))
      obtain ⟨rfl, hS⟩ := h
      have S3' := S'.step hS
      cases b with
      | true =>
        rw [if_pos rfl]
        have hlen : (escGo i true (c :: r)).length = (escGo (i + 1) false r).length + 1 := rfl
        rw [hlen]
        refine seg_execs_cons (seg_Expr_Yield hfs rfl hfg (wpAny_mono (pc_two (hov _) Gc.X Gc.T S3'.F S3'.N hch hp') (fun v s₄ h => ?_) fun _ _ h => h.elim))
        obtain ⟨h, hv⟩ := h
        have S4 := S3'.step h
        intro kap hkap
        refine ⟨⟨_, _, escGo_at (rs := escGo (i + 1) false r) hy, hv⟩, S4.gs, fun s'' hs'' => hkap .none s'' ?_⟩
        have S5 := S4.wake hC hs'' hL
        have Gc5 : Gd w lo me mg mb (cut s''.heap C) := G.keeps (cut_kp hC S5.base)
        refine seg_execs_cons (seg_leaf_stmt (wpAny_mono (pc_set (hov _) Gc5.X Gc5.T S5.F S5.N) (fun f s₆ h => ?_) fun _ _ h => h))
        obtain ⟨rfl, h⟩ := h
        have S6 := S5.step h
        exact seg_again rfl (ih (i + 1) s'' s₆ _ false (pre ++ [(i, ⟨#[92, c]⟩)]) oE' oI' hr' S6 (fr2 S6 hx) hil (if_pos rfl) ⟨tq, (if_neg (by decide)).trans hp'⟩ (by rw [hy]; simp [escGo]))
      | false =>
        rw [if_neg Bool.false_ne_true]
        refine seg_execs_cons (seg_If (wpAny_mono (pc_eq (hov _) Gc.X Gc.T S3'.F S3'.N hch) (fun b s₄ h => ?_) fun _ _ h => h))
        obtain ⟨rfl, h⟩ := h
        have S4 := S3'.step h
        by_cases c92 : c = 92
        · rw [if_pos (decide_eq_true c92)]
          have e1 : escGo i false (c :: r) = escGo (i + 1) true r := by simp only [escGo]; rw [if_pos c92]
          rw [e1] at hy ⊢
          refine seg_execs_cons (seg_leaf_stmt (wpAny_mono (pc_set (hov _) Gc.X Gc.T S4.F S4.N) (fun f s₆ h => ?_) fun _ _ h => h))
          obtain ⟨rfl, h⟩ := h
          have S6 := S4.step h
          exact seg_again rfl (ih (i + 1) s₀ s₆ _ true pre oE' oI' hr' S6 (fr2 S6 hx) hil (if_pos rfl) ⟨tq, (if_neg (by decide)).trans hp'⟩ hy)
        · rw [if_neg (show ¬ (decide (c = 92) = true) by simpa using c92)]
          have e1 : escGo i false (c :: r) = (i, ⟨#[c]⟩) :: escGo (i + 1) false r := by simp only [escGo]; rw [if_neg c92]
          rw [e1] at hy ⊢
          rw [List.length_cons]
          refine seg_execs_cons (seg_Expr_Yield hfs rfl hfg (wpAny_mono (pc_one (p2 := q1) (p4 := q1) (k := 0) (hov _) Gc.X Gc.T S4.F S4.N hch hp') (fun v s₅ h => ?_) fun _ _ h => h.elim))
          obtain ⟨h, hv⟩ := h
          have S5 := S4.step h
          intro kap hkap
          refine ⟨⟨_, _, escGo_at (rs := escGo (i + 1) false r) hy, hv⟩, S5.gs, fun s'' hs'' => hkap .none s'' ?_⟩
          have S6 := S5.wake hC hs'' hL
          exact seg_again rfl (ih (i + 1) s'' s'' _ false (pre ++ [(i, ⟨#[c]⟩)]) oE' oI' hr' S6 (fr2 S6 hx) hil hm' ⟨tq, hp'⟩ (by rw [hy]; simp))
end GSE
end
section
variable {w : World} {lo : List Str} {me : ExcName → Option Value} {mg mb : Str → Option Value} {A : Around} {h₀ : Heap} {C : Addr} {cdv : Value} {oa : Obj} {q1 q2 q3 q4 q5 q6 q7 q8 q9 r1 r2 r3 r4 r5 r6 r7 r8 r9 u1 u2 u3 u4 u5 u6 u7 u8 u9 : Pos} {k1 k2 k3 k4 k5 k6 k7 : Nat}
theorem seg_esc_loop (hh : A.handled = none) (G : Gd w lo me mg mb h₀) (hC : h₀.objs.size ≤ C) {x : Str} {t : Tok} (ys : List (Nat × Str)) {fs : List Frame} (hfs : splitAtGen fs = none) (hfg : fs.any Frame.guarded = false) (hov : ∀ c, (A.over c fs).handled = none)
    {E I : Addr} (hE : @LT.lt Nat _ (C + 1) E) (hI : @LT.lt Nat _ (C + 1) I) (hne : E ≠ I)
    (tail : ∀ s₀ s m (e : Bool) pre, SInv h₀ C oa s₀ s m [] → m "escape" = some (.bool e) → (∃ t, m "pos" = some (.int ((x.cps.size - 1 : Nat) : Int) t)) → ys = pre ++ escGo x.cps.size e [] →
      Seg (model PG w) A (escR C) (escY h₀ C ys) (escGo x.cps.size e []).length s₀ (.block [] (envE C cdv)) (leafOf (.ok .next)) fs s) :
    ∀ (rest : List Nat) (i : Nat) (s₀ s : Shared) (m : Str → Option Value) (e : Bool) (pre : List (Nat × Str)) (oE oI : Obj), rest = x.cps.toList.drop i → SInv h₀ C oa s₀ s m [(E, oE), (I, oI)] → EIt E I x t i s.heap → i ≤ x.cps.size →
      m "escape" = some (.bool e) → (∃ t, m "pos" = some (.int ((i - 1 : Nat) : Int) t)) → ys = pre ++ escGo i e rest →
      Seg (model PG w) A (escR C) (escY h₀ C ys) (escGo i e rest).length s₀
        (.forLoop (.Tuple [.Name "pos" q1, .Name "ch" q2] k1 q3) (.ref E) [.If (.Name "escape" q4)
            [.Expr (.Yield (some (.Tuple [.Name "pos" q5, .BinOp (.Constant (.str "\\") k2 q6) .Add (.Name "ch" q7) q8] k3 q9)) r1) r2, .Assign [.Name "escape" r3] (.Constant (.bool false) k4 r4) r5]
            [.If (.Compare (.Name "ch" r6) [.Eq] [.Constant (.str "\\") k5 r7] r8) [.Assign [.Name "escape" r9] (.Constant (.bool true) k6 u1) u2]
              [.Expr (.Yield (some (.Tuple [.Name "pos" u3, .Name "ch" u4] k7 u5)) u6) u7] u8] u9] [] (envE C cdv))
        ((model PG w).den (.forLoop (.Tuple [.Name "pos" q1, .Name "ch" q2] k1 q3) (.ref E) [.If (.Name "escape" q4)
            [.Expr (.Yield (some (.Tuple [.Name "pos" q5, .BinOp (.Constant (.str "\\") k2 q6) .Add (.Name "ch" q7) q8] k3 q9)) r1) r2, .Assign [.Name "escape" r3] (.Constant (.bool false) k4 r4) r5]
            [.If (.Compare (.Name "ch" r6) [.Eq] [.Constant (.str "\\") k5 r7] r8) [.Assign [.Name "escape" r9] (.Constant (.bool true) k6 u1) u2]
              [.Expr (.Yield (some (.Tuple [.Name "pos" u3, .Name "ch" u4] k7 u5)) u6) u7] u8] u9] [] (envE C cdv))) fs s := by
  exact GSE.qA GSE.qW w lo me mg mb A h₀ C cdv oa q1 q2 q3 q4 q5 q6 q7 q8 q9 r1 r2 r3 r4 r5 r6 r7 r8 r9 u1 u2 u3 u4 u5 u6 u7 u8 u9 k1 k2 k3 k4 k5 k6 k7 x t ys fs E I hh G hC hfs hfg hov hE hI hne tail
end

end

section
theorem part_gencall : True := by
  w_top off
  exact trivial
local macro_rules | `(tactic| walk_at "pad") => `(tactic| fail)
theorem enterG {prog : Program} {w : World} {p : Program} {lo : List Str} {me : ExcName → Option Value} {mg mb : Str → Option Value} {A : Around} {s : Shared} {K : Frag} {name qual : Str} {params : Arguments} {body : List Stmt} {scope : Scope}
    {dV kV doc pm cdv ct oc : Value} {an od : Option Addr} {osl : Array (Option Value)} {f : Addr} {vals : List Value} {kw : List (Str × Value)} {binds : List (Str × Value)} {Q : Value → Shared → Prop}
    (X : K.In s.heap) (T : Top p lo me mg mb s.heap) (hroom : A.depth < recursionLimit)
    (ho : K.lookup f = some ⟨oc, od, .func (fnOf name qual params body scope dV kV doc pm an cdv ct), osl⟩) (hcd : codeIn K cdv qual = true)
    (hbind : BindsTo s (fnOf name qual params body scope dV kV doc pm an cdv ct) ⟨vals, kw⟩ binds) (hloc : ∀ y ∈ binds, scope.names.lookup y.1 = some .local)
    (h : ∀ h₁ tk oa, Kp s.heap h₁ → h₁.Ns s.heap.objs.size (fun y => binds.reverse.lookup y) → h₁.objs.size = s.heap.objs.size + 2 → h₁.get? (s.heap.objs.size + 1) = some oa → h₁.IsGen (s.heap.objs.size + 1) s.gens.size →
      Q (.ref (s.heap.objs.size + 1)) { s with heap := h₁, toks := tk, gens := s.gens.push (.fresh (.func body (envOf qual scope s.heap.objs.size f cdv))) })
    (hco : scope.isCoroutine = false) (hgen : scope.isGenerator = true) (hk : scope.kind = .function) (hcell : ∀ x ∈ scope.names, x.2 ≠ .cell) :
    wpAny (model prog w) A (call (.ref f) vals kw) Q (fun _ _ => False) s := by
  refine wpAny_call (codeAny_call_generator hroom (X _ _ ho) rfl hco hgen rfl (codeRec_of X hcd) (hbind _ _ _ _ ?_))
  refine wpAny_newFunctionEnv hcell hloc (fun h' hns hsb => ⟨T.nolimit.fresh _ hsb, ?_⟩) hk
  have hz : h'.objs.size = s.heap.objs.size + 1 := by rw [hsb.1, Heap.size_push]
  have k1 : Kp s.heap h' := fun b o e => hsb.extBut b o (Nat.ne_of_lt (Heap.lt_size e)) (Heap.get?_push_of_some _ e)
  have h2 := h (h'.push { cls := .type "generator", data := .fields #[.int s.gens.size 0, .str name (s.toks + binds.length), .str qual (s.toks + binds.length + 1)] }) (s.toks + binds.length + 1 + 1) _
    (fun b o e => Heap.get?_push_of_some _ (k1 b o e)) (hns.push _) (by rw [Heap.size_push, hz]) (hz ▸ Heap.get?_push_size _ rfl) (hz ▸ ⟨_, _, _, Heap.get?_push_size _ rfl, rfl, rfl, rfl⟩)
  show Q (.ref h'.objs.size) _
  rw [hz]
  exact h2

/-- the generator where it stands: i pairs told -/
structure GAt (w : World) (A : Around) (h₀ : Heap) (C : Addr) (g : Nat) (ys : List (Nat × Str)) (i : Nat) (s : Shared) : Prop where
  gen : s.heap.IsGen (C + 1) g
  go : ∃ gs, s.gens[g]? = some gs ∧ ∀ s'' : Shared, (∀ b o, Held h₀ C b → s.heap.get? b = some o → s''.heap.get? b = some o) → gs.Goes (model PG w) A.in1 (escR C) (escY h₀ C ys) (ys.length - i) (.send .none) s''

section
variable {w : World} {lo : List Str} {me : ExcName → Option Value} {mg mb : Str → Option Value} {A : Around} {h₀ : Heap} {C : Addr} {cdv : Value} {oa : Obj} {s : Shared} {h1 : Heap} {L3 : List (Addr × Obj)} {m : Str → Option Value} {q1 q2 q3 q4 q5 q6 q7 q8 q9 r1 r2 r3 r4 r5 r6 r7 r8 r9 u1 u2 u3 u4 u5 u6 u7 u8 u9 v1 v2 v3 v4 v5 v6 v7 v8 v9 w1 w2 w3 w4 w5 w6 w7 w8 w9 : Pos} {k1 k2 k3 k4 k5 k6 k7 k8 k9 j1 j2 : Nat}
local macro_rules | `(tactic| walk_at "call type:enumerate") => `(tactic| (k_here; refine stop ?_))
set_option maxHeartbeats 4000000
theorem pc_enum (hh : A.handled = none) (X : (Mine.Kc w.params).In h1) (T : Top topProg lo me mg mb h1) (F : Fr h1 C s.heap m) (N : News h1 C s.heap [(C + 1, oa)]) {x : Str} {t : Tok} {p1 p2 p3 : Pos} (hm : m "addr" = some (.str x t)) :
    wpAny (model PG w) A (eval (.Call (.Name "enumerate" p1) [.Name "addr" p2] [] p3) (envE C cdv)) (fun v s' => ∃ E I oE oI, v = .ref E ∧ S3 h1 C [(C + 1, oa), (E, oE), (I, oI)] m s s' ∧ EIt E I x t 0 s'.heap ∧ @LT.lt Nat _ (C + 1) E ∧ @LT.lt Nat _ (C + 1) I ∧ E ≠ I) (fun _ _ => False) s := by
  obtain ⟨_, dp, fr, gd, un⟩ := A
  cases hh
  k_steps
  refine unstop ?_
  refine call_enumerate_str fun h' he hit hz hk => ?_
  obtain ⟨oI, hoI, _⟩ := id hit
  obtain ⟨oE, hoE⟩ : ∃ oE, h'.get? (s.heap.objs.size + 1) = some oE := ⟨_, he⟩
  have lt := Heap.lt_size (N _ (.head _)).1
  refine ⟨s.heap.objs.size + 1, s.heap.objs.size, oE, oI, rfl, ⟨h', _, rfl, F.keeps hk, fun p hp => ?_⟩, ⟨⟨_, he⟩, hit⟩, Nat.lt_succ_of_lt lt, lt, Nat.succ_ne_self _⟩
  have hs : h1.objs.size ≤ s.heap.objs.size := Nat.le_trans F.above (Nat.le_of_lt F.ns.lt)
  rcases List.mem_cons.mp hp with rfl | hp
  · exact ⟨hk _ _ (N _ (.head _)).1, (N _ (.head _)).2⟩
  rcases List.mem_cons.mp hp with rfl | hp
  · exact ⟨hoE, Nat.ne_of_gt (Nat.lt_succ_of_lt F.ns.lt), Heap.get?_none_of_le (Nat.le_succ_of_le hs)⟩
  · rw [List.mem_singleton.mp hp]
    exact ⟨hoI, Nat.ne_of_gt F.ns.lt, Heap.get?_none_of_le hs⟩
end
section

namespace GEG
abbrev qT := (World) × (List Str) × (ExcName → Option Value) × (Str → Option Value) × (Str → Option Value) × (Around) × (Heap) × (Addr) × (Value) × (Obj) × (Str → Option Value) × (Pos) × (Pos) × (Pos) × (Pos) × (Pos) × (Pos) × (Pos) × (Pos) × (Pos) × (Pos) × (Pos) × (Pos) × (Pos) × (Pos) × (Pos) × (Pos) × (Pos) × (Pos) × (Pos) × (Pos) × (Pos) × (Pos) × (Pos) × (Pos) × (Pos) × (Pos) × (Pos) × (Pos) × (Pos) × (Pos) × (Pos) × (Pos) × (Pos) × (Pos) × (Pos) × (Pos) × (Pos) × (Pos) × (Pos) × (Pos) × (Pos) × (Pos) × (Pos) × (Pos) × (Nat) × (Nat) × (Nat) × (Nat) × (Nat) × (Nat) × (Nat) × (Nat) × (Nat) × (Nat) × (Nat) × (Str) × (Tok) × (Shared)
def qP (w : World) (lo : List Str) (me : ExcName → Option Value) (mg : Str → Option Value) (mb : Str → Option Value) (A : Around) (h₀ : Heap) (C : Addr) (cdv : Value) (oa : Obj) (m : Str → Option Value) (q1 : Pos) (q2 : Pos) (q3 : Pos) (q4 : Pos) (q5 : Pos) (q6 : Pos) (q7 : Pos) (q8 : Pos) (q9 : Pos) (r1 : Pos) (r2 : Pos) (r3 : Pos) (r4 : Pos) (r5 : Pos) (r6 : Pos) (r7 : Pos) (r8 : Pos) (r9 : Pos) (u1 : Pos) (u2 : Pos) (u3 : Pos) (u4 : Pos) (u5 : Pos) (u6 : Pos) (u7 : Pos) (u8 : Pos) (u9 : Pos) (v1 : Pos) (v2 : Pos) (v3 : Pos) (v4 : Pos) (v5 : Pos) (v6 : Pos) (v7 : Pos) (v8 : Pos) (v9 : Pos) (w1 : Pos) (w2 : Pos) (w3 : Pos) (w4 : Pos) (w5 : Pos) (w6 : Pos) (w7 : Pos) (w8 : Pos) (k1 : Nat) (k2 : Nat) (k3 : Nat) (k4 : Nat) (k5 : Nat) (k6 : Nat) (k7 : Nat) (k8 : Nat) (k9 : Nat) (j1 : Nat) (j2 : Nat) (x : Str) (t : Tok) (s : Shared) : Prop := ∀ (hh : A.handled = none) (G : Gd w lo me mg mb h₀) (hC : h₀.objs.size ≤ C) (kp : Kp h₀ s.heap) (ha : s.heap.get? (C + 1) = some oa) (hn : s.heap.Ns C m) (hm : m "addr" = some (.str x t)), (GenState.fresh (.func [.Assign [.Name "pos" v1] (.Constant (.int 0) k8 v2) v3, .Assign [.Name "escape" v4] (.Constant (.bool false) k9 v5) v6,
        .For (.Tuple [.Name "pos" q1, .Name "ch" q2] k1 q3) (.Call (.Name "enumerate" v7) [.Name "addr" v8] [] v9) [.If (.Name "escape" q4)
            [.Expr (.Yield (some (.Tuple [.Name "pos" q5, .BinOp (.Constant (.str "\\") k2 q6) .Add (.Name "ch" q7) q8] k3 q9)) r1) r2, .Assign [.Name "escape" r3] (.Constant (.bool false) k4 r4) r5]
            [.If (.Compare (.Name "ch" r6) [.Eq] [.Constant (.str "\\") k5 r7] r8) [.Assign [.Name "escape" r9] (.Constant (.bool true) k6 u1) u2]
              [.Expr (.Yield (some (.Tuple [.Name "pos" u3, .Name "ch" u4] k7 u5)) u6) u7] u8] u9] [] w1,
        .If (.Name "escape" w2) [.Expr (.Yield (some (.Tuple [.Name "pos" w3, .Constant (.str "\\") j1 w4] j2 w5)) w6) w7] [] w8] (envE C cdv))).Goes (model PG w) A (escR C) (escY h₀ C (escGo 0 false x.cps.toList)) (escGo 0 false x.cps.toList).length (.send .none) s
theorem qN : Nonempty qT := ⟨(PySem.W.aWorld 0, default, default, default, default, ⟨none, 0, none, none, 0⟩, default, default, default, default, default, default, default, default, default, default, default, default, default, default, default, default, default, default, default, default, default, default, default, default, default, default, default, default, default, default, default, default, default, default, default, default, default, default, default, default, default, default, default, default, default, default, default, default, default, default, default, default, default, default, default, default, default, default, default, default, default, default, {})⟩
noncomputable def qk : qT := (Classical.choice (drink qN fun v => qP v.1 v.2.1 v.2.2.1 v.2.2.2.1 v.2.2.2.2.1 v.2.2.2.2.2.1 v.2.2.2.2.2.2.1 v.2.2.2.2.2.2.2.1 v.2.2.2.2.2.2.2.2.1 v.2.2.2.2.2.2.2.2.2.1 v.2.2.2.2.2.2.2.2.2.2.1 v.2.2.2.2.2.2.2.2.2.2.2.1 v.2.2.2.2.2.2.2.2.2.2.2.2.1 v.2.2.2.2.2.2.2.2.2.2.2.2.2.1 v.2.2.2.2.2.2.2.2.2.2.2.2.2.2.1 v.2.2.2.2.2.2.2.2.2.2.2.2.2.2.2.1 v.2.2.2.2.2.2.2.2.2.2.2.2.2.2.2.2.1 v.2.2.2.2.2.2.2.2.2.2.2.2.2.2.2.2.2.1 v.2.2.2.2.2.2.2.2.2.2.2.2.2.2.2.2.2.2.1 v.2.2.2.2.2.2.2.2.2.2.2.2.2.2.2.2.2.2.2.1 v.2.2.2.2.2.2.2.2.2.2.2.2.2.2.2.2.2.2.2.2.1 v.2.2.2.2.2.2.2.2.2.2.2.2.2.2.2.2.2.2.2.2.2.1 v.2.2.2.2.2.2.2.2.2.2.2.2.2.2.2.2.2.2.2.2.2.2.1 v.2.2.2.2.2.2.2.2.2.2.2.2.2.2.2.2.2.2.2.2.2.2.2.1 v.2.2.2.2.2.2.2.2.2.2.2.2.2.2.2.2.2.2.2.2.2.2.2.2.1 v.2.2.2.2.2.2.2.2.2.2.2.2.2.2.2.2.2.2.2.2.2.2.2.2.2.1 v.2.2.2.2.2.2.2.2.2.2.2.2.2.2.2.2.2.2.2.2.2.2.2.2.2.2.1 v.2.2.2.2.2.2.2.2.2.2.2.2.2.2.2.2.2.2.2.2.2.2.2.2.2.2.2.1 v.2.2.2.2.2.2.2.2.2.2.2.2.2.2.2.2.2.2.2.2.2.2.2.2.2.2.2.2.1 v.2.2.2.2.2.2.2.2.2.2.2.2.2.2.2.2.2.2.2.2.2.2.2.2.2.2.2.2.2.1 v.2.2.2.2.2.2.2.2.2.2.2.2.2.2.2.2.2.2.2.2.2.2.2.2.2.2.2.2.2.2.1 v.2.2.2.2.2.2.2.2.2.2.2.2.2.2.2.2.2.2.2.2.2.2.2.2.2.2.2.2.2.2.2.1 v.2.2.2.2.2.2.2.2.2.2.2.2.2.2.2.2.2.2.2.2.2.2.2.2.2.2.2.2.2.2.2.2.1 v.2.2.2.2.2.2.2.2.2.2.2.2.2.2.2.2.2.2.2.2.2.2.2.2.2.2.2.2.2.2.2.2.2.1 v.2.2.2.2.2.2.2.2.2.2.2.2.2.2.2.2.2.2.2.2.2.2.2.2.2.2.2.2.2.2.2.2.2.2.1 v.2.2.2.2.2.2.2.2.2.2.2.2.2.2.2.2.2.2.2.2.2.2.2.2.2.2.2.2.2.2.2.2.2.2.2.1 v.2.2.2.2.2.2.2.2.2.2.2.2.2.2.2.2.2.2.2.2.2.2.2.2.2.2.2.2.2.2.2.2.2.2.2.2.1 v.2.2.2.2.2.2.2.2.2.2.2.2.2.2.2.2.2.2.2.2.2.2.2.2.2.2.2.2.2.2.2.2.2.2.2.2.2.1 v.2.2.2.2.2.2.2.2.2.2.2.2.2.2.2.2.2.2.2.2.2.2.2.2.2.2.2.2.2.2.2.2.2.2.2.2.2.2.1 v.2.2.2.2.2.2.2.2.2.2.2.2.2.2.2.2.2.2.2.2.2.2.2.2.2.2.2.2.2.2.2.2.2.2.2.2.2.2.2.1 v.2.2.2.2.2.2.2.2.2.2.2.2.2.2.2.2.2.2.2.2.2.2.2.2.2.2.2.2.2.2.2.2.2.2.2.2.2.2.2.2.1 v.2.2.2.2.2.2.2.2.2.2.2.2.2.2.2.2.2.2.2.2.2.2.2.2.2.2.2.2.2.2.2.2.2.2.2.2.2.2.2.2.2.1 v.2.2.2.2.2.2.2.2.2.2.2.2.2.2.2.2.2.2.2.2.2.2.2.2.2.2.2.2.2.2.2.2.2.2.2.2.2.2.2.2.2.2.1 v.2.2.2.2.2.2.2.2.2.2.2.2.2.2.2.2.2.2.2.2.2.2.2.2.2.2.2.2.2.2.2.2.2.2.2.2.2.2.2.2.2.2.2.1 v.2.2.2.2.2.2.2.2.2.2.2.2.2.2.2.2.2.2.2.2.2.2.2.2.2.2.2.2.2.2.2.2.2.2.2.2.2.2.2.2.2.2.2.2.1 v.2.2.2.2.2.2.2.2.2.2.2.2.2.2.2.2.2.2.2.2.2.2.2.2.2.2.2.2.2.2.2.2.2.2.2.2.2.2.2.2.2.2.2.2.2.1 v.2.2.2.2.2.2.2.2.2.2.2.2.2.2.2.2.2.2.2.2.2.2.2.2.2.2.2.2.2.2.2.2.2.2.2.2.2.2.2.2.2.2.2.2.2.2.1 v.2.2.2.2.2.2.2.2.2.2.2.2.2.2.2.2.2.2.2.2.2.2.2.2.2.2.2.2.2.2.2.2.2.2.2.2.2.2.2.2.2.2.2.2.2.2.2.1 v.2.2.2.2.2.2.2.2.2.2.2.2.2.2.2.2.2.2.2.2.2.2.2.2.2.2.2.2.2.2.2.2.2.2.2.2.2.2.2.2.2.2.2.2.2.2.2.2.1 v.2.2.2.2.2.2.2.2.2.2.2.2.2.2.2.2.2.2.2.2.2.2.2.2.2.2.2.2.2.2.2.2.2.2.2.2.2.2.2.2.2.2.2.2.2.2.2.2.2.1 v.2.2.2.2.2.2.2.2.2.2.2.2.2.2.2.2.2.2.2.2.2.2.2.2.2.2.2.2.2.2.2.2.2.2.2.2.2.2.2.2.2.2.2.2.2.2.2.2.2.2.1 v.2.2.2.2.2.2.2.2.2.2.2.2.2.2.2.2.2.2.2.2.2.2.2.2.2.2.2.2.2.2.2.2.2.2.2.2.2.2.2.2.2.2.2.2.2.2.2.2.2.2.2.1 v.2.2.2.2.2.2.2.2.2.2.2.2.2.2.2.2.2.2.2.2.2.2.2.2.2.2.2.2.2.2.2.2.2.2.2.2.2.2.2.2.2.2.2.2.2.2.2.2.2.2.2.2.1 v.2.2.2.2.2.2.2.2.2.2.2.2.2.2.2.2.2.2.2.2.2.2.2.2.2.2.2.2.2.2.2.2.2.2.2.2.2.2.2.2.2.2.2.2.2.2.2.2.2.2.2.2.2.1 v.2.2.2.2.2.2.2.2.2.2.2.2.2.2.2.2.2.2.2.2.2.2.2.2.2.2.2.2.2.2.2.2.2.2.2.2.2.2.2.2.2.2.2.2.2.2.2.2.2.2.2.2.2.2.1 v.2.2.2.2.2.2.2.2.2.2.2.2.2.2.2.2.2.2.2.2.2.2.2.2.2.2.2.2.2.2.2.2.2.2.2.2.2.2.2.2.2.2.2.2.2.2.2.2.2.2.2.2.2.2.2.1 v.2.2.2.2.2.2.2.2.2.2.2.2.2.2.2.2.2.2.2.2.2.2.2.2.2.2.2.2.2.2.2.2.2.2.2.2.2.2.2.2.2.2.2.2.2.2.2.2.2.2.2.2.2.2.2.2.1 v.2.2.2.2.2.2.2.2.2.2.2.2.2.2.2.2.2.2.2.2.2.2.2.2.2.2.2.2.2.2.2.2.2.2.2.2.2.2.2.2.2.2.2.2.2.2.2.2.2.2.2.2.2.2.2.2.2.1 v.2.2.2.2.2.2.2.2.2.2.2.2.2.2.2.2.2.2.2.2.2.2.2.2.2.2.2.2.2.2.2.2.2.2.2.2.2.2.2.2.2.2.2.2.2.2.2.2.2.2.2.2.2.2.2.2.2.2.1 v.2.2.2.2.2.2.2.2.2.2.2.2.2.2.2.2.2.2.2.2.2.2.2.2.2.2.2.2.2.2.2.2.2.2.2.2.2.2.2.2.2.2.2.2.2.2.2.2.2.2.2.2.2.2.2.2.2.2.2.1 v.2.2.2.2.2.2.2.2.2.2.2.2.2.2.2.2.2.2.2.2.2.2.2.2.2.2.2.2.2.2.2.2.2.2.2.2.2.2.2.2.2.2.2.2.2.2.2.2.2.2.2.2.2.2.2.2.2.2.2.2.1 v.2.2.2.2.2.2.2.2.2.2.2.2.2.2.2.2.2.2.2.2.2.2.2.2.2.2.2.2.2.2.2.2.2.2.2.2.2.2.2.2.2.2.2.2.2.2.2.2.2.2.2.2.2.2.2.2.2.2.2.2.2.1 v.2.2.2.2.2.2.2.2.2.2.2.2.2.2.2.2.2.2.2.2.2.2.2.2.2.2.2.2.2.2.2.2.2.2.2.2.2.2.2.2.2.2.2.2.2.2.2.2.2.2.2.2.2.2.2.2.2.2.2.2.2.2.1 v.2.2.2.2.2.2.2.2.2.2.2.2.2.2.2.2.2.2.2.2.2.2.2.2.2.2.2.2.2.2.2.2.2.2.2.2.2.2.2.2.2.2.2.2.2.2.2.2.2.2.2.2.2.2.2.2.2.2.2.2.2.2.2.1 v.2.2.2.2.2.2.2.2.2.2.2.2.2.2.2.2.2.2.2.2.2.2.2.2.2.2.2.2.2.2.2.2.2.2.2.2.2.2.2.2.2.2.2.2.2.2.2.2.2.2.2.2.2.2.2.2.2.2.2.2.2.2.2.2.1 v.2.2.2.2.2.2.2.2.2.2.2.2.2.2.2.2.2.2.2.2.2.2.2.2.2.2.2.2.2.2.2.2.2.2.2.2.2.2.2.2.2.2.2.2.2.2.2.2.2.2.2.2.2.2.2.2.2.2.2.2.2.2.2.2.2.1 v.2.2.2.2.2.2.2.2.2.2.2.2.2.2.2.2.2.2.2.2.2.2.2.2.2.2.2.2.2.2.2.2.2.2.2.2.2.2.2.2.2.2.2.2.2.2.2.2.2.2.2.2.2.2.2.2.2.2.2.2.2.2.2.2.2.2.1 v.2.2.2.2.2.2.2.2.2.2.2.2.2.2.2.2.2.2.2.2.2.2.2.2.2.2.2.2.2.2.2.2.2.2.2.2.2.2.2.2.2.2.2.2.2.2.2.2.2.2.2.2.2.2.2.2.2.2.2.2.2.2.2.2.2.2.2.1 v.2.2.2.2.2.2.2.2.2.2.2.2.2.2.2.2.2.2.2.2.2.2.2.2.2.2.2.2.2.2.2.2.2.2.2.2.2.2.2.2.2.2.2.2.2.2.2.2.2.2.2.2.2.2.2.2.2.2.2.2.2.2.2.2.2.2.2.2)).1
noncomputable def w : World := qk.1
noncomputable def lo : List Str := qk.2.1
noncomputable def me : ExcName → Option Value := qk.2.2.1
noncomputable def mg : Str → Option Value := qk.2.2.2.1
noncomputable def mb : Str → Option Value := qk.2.2.2.2.1
noncomputable def A : Around := qk.2.2.2.2.2.1
noncomputable def h₀ : Heap := qk.2.2.2.2.2.2.1
noncomputable def C : Addr := qk.2.2.2.2.2.2.2.1
noncomputable def cdv : Value := qk.2.2.2.2.2.2.2.2.1
noncomputable def oa : Obj := qk.2.2.2.2.2.2.2.2.2.1
noncomputable def m : Str → Option Value := qk.2.2.2.2.2.2.2.2.2.2.1
noncomputable def v1 : Pos := qk.2.2.2.2.2.2.2.2.2.2.2.2.2.2.2.2.2.2.2.2.2.2.2.2.2.2.2.2.2.2.2.2.2.2.2.2.2.2.1
noncomputable def x : Str := qk.2.2.2.2.2.2.2.2.2.2.2.2.2.2.2.2.2.2.2.2.2.2.2.2.2.2.2.2.2.2.2.2.2.2.2.2.2.2.2.2.2.2.2.2.2.2.2.2.2.2.2.2.2.2.2.2.2.2.2.2.2.2.2.2.2.2.1
noncomputable def t : Tok := qk.2.2.2.2.2.2.2.2.2.2.2.2.2.2.2.2.2.2.2.2.2.2.2.2.2.2.2.2.2.2.2.2.2.2.2.2.2.2.2.2.2.2.2.2.2.2.2.2.2.2.2.2.2.2.2.2.2.2.2.2.2.2.2.2.2.2.2.1
noncomputable def s : Shared := qk.2.2.2.2.2.2.2.2.2.2.2.2.2.2.2.2.2.2.2.2.2.2.2.2.2.2.2.2.2.2.2.2.2.2.2.2.2.2.2.2.2.2.2.2.2.2.2.2.2.2.2.2.2.2.2.2.2.2.2.2.2.2.2.2.2.2.2.2
theorem qA (h : qP w lo me mg mb A h₀ C cdv oa m qk.2.2.2.2.2.2.2.2.2.2.2.1 qk.2.2.2.2.2.2.2.2.2.2.2.2.1 qk.2.2.2.2.2.2.2.2.2.2.2.2.2.1 qk.2.2.2.2.2.2.2.2.2.2.2.2.2.2.1 qk.2.2.2.2.2.2.2.2.2.2.2.2.2.2.2.1 qk.2.2.2.2.2.2.2.2.2.2.2.2.2.2.2.2.1 qk.2.2.2.2.2.2.2.2.2.2.2.2.2.2.2.2.2.1 qk.2.2.2.2.2.2.2.2.2.2.2.2.2.2.2.2.2.2.1 qk.2.2.2.2.2.2.2.2.2.2.2.2.2.2.2.2.2.2.2.1 qk.2.2.2.2.2.2.2.2.2.2.2.2.2.2.2.2.2.2.2.2.1 qk.2.2.2.2.2.2.2.2.2.2.2.2.2.2.2.2.2.2.2.2.2.1 qk.2.2.2.2.2.2.2.2.2.2.2.2.2.2.2.2.2.2.2.2.2.2.1 qk.2.2.2.2.2.2.2.2.2.2.2.2.2.2.2.2.2.2.2.2.2.2.2.1 qk.2.2.2.2.2.2.2.2.2.2.2.2.2.2.2.2.2.2.2.2.2.2.2.2.1 qk.2.2.2.2.2.2.2.2.2.2.2.2.2.2.2.2.2.2.2.2.2.2.2.2.2.1 qk.2.2.2.2.2.2.2.2.2.2.2.2.2.2.2.2.2.2.2.2.2.2.2.2.2.2.1 qk.2.2.2.2.2.2.2.2.2.2.2.2.2.2.2.2.2.2.2.2.2.2.2.2.2.2.2.1 qk.2.2.2.2.2.2.2.2.2.2.2.2.2.2.2.2.2.2.2.2.2.2.2.2.2.2.2.2.1 qk.2.2.2.2.2.2.2.2.2.2.2.2.2.2.2.2.2.2.2.2.2.2.2.2.2.2.2.2.2.1 qk.2.2.2.2.2.2.2.2.2.2.2.2.2.2.2.2.2.2.2.2.2.2.2.2.2.2.2.2.2.2.1 qk.2.2.2.2.2.2.2.2.2.2.2.2.2.2.2.2.2.2.2.2.2.2.2.2.2.2.2.2.2.2.2.1 qk.2.2.2.2.2.2.2.2.2.2.2.2.2.2.2.2.2.2.2.2.2.2.2.2.2.2.2.2.2.2.2.2.1 qk.2.2.2.2.2.2.2.2.2.2.2.2.2.2.2.2.2.2.2.2.2.2.2.2.2.2.2.2.2.2.2.2.2.1 qk.2.2.2.2.2.2.2.2.2.2.2.2.2.2.2.2.2.2.2.2.2.2.2.2.2.2.2.2.2.2.2.2.2.2.1 qk.2.2.2.2.2.2.2.2.2.2.2.2.2.2.2.2.2.2.2.2.2.2.2.2.2.2.2.2.2.2.2.2.2.2.2.1 qk.2.2.2.2.2.2.2.2.2.2.2.2.2.2.2.2.2.2.2.2.2.2.2.2.2.2.2.2.2.2.2.2.2.2.2.2.1 qk.2.2.2.2.2.2.2.2.2.2.2.2.2.2.2.2.2.2.2.2.2.2.2.2.2.2.2.2.2.2.2.2.2.2.2.2.2.1 v1 qk.2.2.2.2.2.2.2.2.2.2.2.2.2.2.2.2.2.2.2.2.2.2.2.2.2.2.2.2.2.2.2.2.2.2.2.2.2.2.2.1 qk.2.2.2.2.2.2.2.2.2.2.2.2.2.2.2.2.2.2.2.2.2.2.2.2.2.2.2.2.2.2.2.2.2.2.2.2.2.2.2.2.1 qk.2.2.2.2.2.2.2.2.2.2.2.2.2.2.2.2.2.2.2.2.2.2.2.2.2.2.2.2.2.2.2.2.2.2.2.2.2.2.2.2.2.1 qk.2.2.2.2.2.2.2.2.2.2.2.2.2.2.2.2.2.2.2.2.2.2.2.2.2.2.2.2.2.2.2.2.2.2.2.2.2.2.2.2.2.2.1 qk.2.2.2.2.2.2.2.2.2.2.2.2.2.2.2.2.2.2.2.2.2.2.2.2.2.2.2.2.2.2.2.2.2.2.2.2.2.2.2.2.2.2.2.1 qk.2.2.2.2.2.2.2.2.2.2.2.2.2.2.2.2.2.2.2.2.2.2.2.2.2.2.2.2.2.2.2.2.2.2.2.2.2.2.2.2.2.2.2.2.1 qk.2.2.2.2.2.2.2.2.2.2.2.2.2.2.2.2.2.2.2.2.2.2.2.2.2.2.2.2.2.2.2.2.2.2.2.2.2.2.2.2.2.2.2.2.2.1 qk.2.2.2.2.2.2.2.2.2.2.2.2.2.2.2.2.2.2.2.2.2.2.2.2.2.2.2.2.2.2.2.2.2.2.2.2.2.2.2.2.2.2.2.2.2.2.1 qk.2.2.2.2.2.2.2.2.2.2.2.2.2.2.2.2.2.2.2.2.2.2.2.2.2.2.2.2.2.2.2.2.2.2.2.2.2.2.2.2.2.2.2.2.2.2.2.1 qk.2.2.2.2.2.2.2.2.2.2.2.2.2.2.2.2.2.2.2.2.2.2.2.2.2.2.2.2.2.2.2.2.2.2.2.2.2.2.2.2.2.2.2.2.2.2.2.2.1 qk.2.2.2.2.2.2.2.2.2.2.2.2.2.2.2.2.2.2.2.2.2.2.2.2.2.2.2.2.2.2.2.2.2.2.2.2.2.2.2.2.2.2.2.2.2.2.2.2.2.1 qk.2.2.2.2.2.2.2.2.2.2.2.2.2.2.2.2.2.2.2.2.2.2.2.2.2.2.2.2.2.2.2.2.2.2.2.2.2.2.2.2.2.2.2.2.2.2.2.2.2.2.1 qk.2.2.2.2.2.2.2.2.2.2.2.2.2.2.2.2.2.2.2.2.2.2.2.2.2.2.2.2.2.2.2.2.2.2.2.2.2.2.2.2.2.2.2.2.2.2.2.2.2.2.2.1 qk.2.2.2.2.2.2.2.2.2.2.2.2.2.2.2.2.2.2.2.2.2.2.2.2.2.2.2.2.2.2.2.2.2.2.2.2.2.2.2.2.2.2.2.2.2.2.2.2.2.2.2.2.1 qk.2.2.2.2.2.2.2.2.2.2.2.2.2.2.2.2.2.2.2.2.2.2.2.2.2.2.2.2.2.2.2.2.2.2.2.2.2.2.2.2.2.2.2.2.2.2.2.2.2.2.2.2.2.1 qk.2.2.2.2.2.2.2.2.2.2.2.2.2.2.2.2.2.2.2.2.2.2.2.2.2.2.2.2.2.2.2.2.2.2.2.2.2.2.2.2.2.2.2.2.2.2.2.2.2.2.2.2.2.2.1 qk.2.2.2.2.2.2.2.2.2.2.2.2.2.2.2.2.2.2.2.2.2.2.2.2.2.2.2.2.2.2.2.2.2.2.2.2.2.2.2.2.2.2.2.2.2.2.2.2.2.2.2.2.2.2.2.1 qk.2.2.2.2.2.2.2.2.2.2.2.2.2.2.2.2.2.2.2.2.2.2.2.2.2.2.2.2.2.2.2.2.2.2.2.2.2.2.2.2.2.2.2.2.2.2.2.2.2.2.2.2.2.2.2.2.1 qk.2.2.2.2.2.2.2.2.2.2.2.2.2.2.2.2.2.2.2.2.2.2.2.2.2.2.2.2.2.2.2.2.2.2.2.2.2.2.2.2.2.2.2.2.2.2.2.2.2.2.2.2.2.2.2.2.2.1 qk.2.2.2.2.2.2.2.2.2.2.2.2.2.2.2.2.2.2.2.2.2.2.2.2.2.2.2.2.2.2.2.2.2.2.2.2.2.2.2.2.2.2.2.2.2.2.2.2.2.2.2.2.2.2.2.2.2.2.1 qk.2.2.2.2.2.2.2.2.2.2.2.2.2.2.2.2.2.2.2.2.2.2.2.2.2.2.2.2.2.2.2.2.2.2.2.2.2.2.2.2.2.2.2.2.2.2.2.2.2.2.2.2.2.2.2.2.2.2.2.1 qk.2.2.2.2.2.2.2.2.2.2.2.2.2.2.2.2.2.2.2.2.2.2.2.2.2.2.2.2.2.2.2.2.2.2.2.2.2.2.2.2.2.2.2.2.2.2.2.2.2.2.2.2.2.2.2.2.2.2.2.2.1 qk.2.2.2.2.2.2.2.2.2.2.2.2.2.2.2.2.2.2.2.2.2.2.2.2.2.2.2.2.2.2.2.2.2.2.2.2.2.2.2.2.2.2.2.2.2.2.2.2.2.2.2.2.2.2.2.2.2.2.2.2.2.1 qk.2.2.2.2.2.2.2.2.2.2.2.2.2.2.2.2.2.2.2.2.2.2.2.2.2.2.2.2.2.2.2.2.2.2.2.2.2.2.2.2.2.2.2.2.2.2.2.2.2.2.2.2.2.2.2.2.2.2.2.2.2.2.1 qk.2.2.2.2.2.2.2.2.2.2.2.2.2.2.2.2.2.2.2.2.2.2.2.2.2.2.2.2.2.2.2.2.2.2.2.2.2.2.2.2.2.2.2.2.2.2.2.2.2.2.2.2.2.2.2.2.2.2.2.2.2.2.2.1 qk.2.2.2.2.2.2.2.2.2.2.2.2.2.2.2.2.2.2.2.2.2.2.2.2.2.2.2.2.2.2.2.2.2.2.2.2.2.2.2.2.2.2.2.2.2.2.2.2.2.2.2.2.2.2.2.2.2.2.2.2.2.2.2.2.1 qk.2.2.2.2.2.2.2.2.2.2.2.2.2.2.2.2.2.2.2.2.2.2.2.2.2.2.2.2.2.2.2.2.2.2.2.2.2.2.2.2.2.2.2.2.2.2.2.2.2.2.2.2.2.2.2.2.2.2.2.2.2.2.2.2.2.1 x t s) (w : World) (lo : List Str) (me : ExcName → Option Value) (mg : Str → Option Value) (mb : Str → Option Value) (A : Around) (h₀ : Heap) (C : Addr) (cdv : Value) (oa : Obj) (m : Str → Option Value) (q1 : Pos) (q2 : Pos) (q3 : Pos) (q4 : Pos) (q5 : Pos) (q6 : Pos) (q7 : Pos) (q8 : Pos) (q9 : Pos) (r1 : Pos) (r2 : Pos) (r3 : Pos) (r4 : Pos) (r5 : Pos) (r6 : Pos) (r7 : Pos) (r8 : Pos) (r9 : Pos) (u1 : Pos) (u2 : Pos) (u3 : Pos) (u4 : Pos) (u5 : Pos) (u6 : Pos) (u7 : Pos) (u8 : Pos) (u9 : Pos) (v1 : Pos) (v2 : Pos) (v3 : Pos) (v4 : Pos) (v5 : Pos) (v6 : Pos) (v7 : Pos) (v8 : Pos) (v9 : Pos) (w1 : Pos) (w2 : Pos) (w3 : Pos) (w4 : Pos) (w5 : Pos) (w6 : Pos) (w7 : Pos) (w8 : Pos) (k1 : Nat) (k2 : Nat) (k3 : Nat) (k4 : Nat) (k5 : Nat) (k6 : Nat) (k7 : Nat) (k8 : Nat) (k9 : Nat) (j1 : Nat) (j2 : Nat) (x : Str) (t : Tok) (s : Shared) : qP w lo me mg mb A h₀ C cdv oa m q1 q2 q3 q4 q5 q6 q7 q8 q9 r1 r2 r3 r4 r5 r6 r7 r8 r9 u1 u2 u3 u4 u5 u6 u7 u8 u9 v1 v2 v3 v4 v5 v6 v7 v8 v9 w1 w2 w3 w4 w5 w6 w7 w8 k1 k2 k3 k4 k5 k6 k7 k8 k9 j1 j2 x t s := (Classical.choice (drink qN fun v => qP v.1 v.2.1 v.2.2.1 v.2.2.2.1 v.2.2.2.2.1 v.2.2.2.2.2.1 v.2.2.2.2.2.2.1 v.2.2.2.2.2.2.2.1 v.2.2.2.2.2.2.2.2.1 v.2.2.2.2.2.2.2.2.2.1 v.2.2.2.2.2.2.2.2.2.2.1 v.2.2.2.2.2.2.2.2.2.2.2.1 v.2.2.2.2.2.2.2.2.2.2.2.2.1 v.2.2.2.2.2.2.2.2.2.2.2.2.2.1 v.2.2.2.2.2.2.2.2.2.2.2.2.2.2.1 v.2.2.2.2.2.2.2.2.2.2.2.2.2.2.2.1 v.2.2.2.2.2.2.2.2.2.2.2.2.2.2.2.2.1 v.2.2.2.2.2.2.2.2.2.2.2.2.2.2.2.2.2.1 v.2.2.2.2.2.2.2.2.2.2.2.2.2.2.2.2.2.2.1 v.2.2.2.2.2.2.2.2.2.2.2.2.2.2.2.2.2.2.2.1 v.2.2.2.2.2.2.2.2.2.2.2.2.2.2.2.2.2.2.2.2.1 v.2.2.2.2.2.2.2.2.2.2.2.2.2.2.2.2.2.2.2.2.2.1 v.2.2.2.2.2.2.2.2.2.2.2.2.2.2.2.2.2.2.2.2.2.2.1 v.2.2.2.2.2.2.2.2.2.2.2.2.2.2.2.2.2.2.2.2.2.2.2.1 v.2.2.2.2.2.2.2.2.2.2.2.2.2.2.2.2.2.2.2.2.2.2.2.2.1 v.2.2.2.2.2.2.2.2.2.2.2.2.2.2.2.2.2.2.2.2.2.2.2.2.2.1 v.2.2.2.2.2.2.2.2.2.2.2.2.2.2.2.2.2.2.2.2.2.2.2.2.2.2.1 v.2.2.2.2.2.2.2.2.2.2.2.2.2.2.2.2.2.2.2.2.2.2.2.2.2.2.2.1 v.2.2.2.2.2.2.2.2.2.2.2.2.2.2.2.2.2.2.2.2.2.2.2.2.2.2.2.2.1 v.2.2.2.2.2.2.2.2.2.2.2.2.2.2.2.2.2.2.2.2.2.2.2.2.2.2.2.2.2.1 v.2.2.2.2.2.2.2.2.2.2.2.2.2.2.2.2.2.2.2.2.2.2.2.2.2.2.2.2.2.2.1 v.2.2.2.2.2.2.2.2.2.2.2.2.2.2.2.2.2.2.2.2.2.2.2.2.2.2.2.2.2.2.2.1 v.2.2.2.2.2.2.2.2.2.2.2.2.2.2.2.2.2.2.2.2.2.2.2.2.2.2.2.2.2.2.2.2.1 v.2.2.2.2.2.2.2.2.2.2.2.2.2.2.2.2.2.2.2.2.2.2.2.2.2.2.2.2.2.2.2.2.2.1 v.2.2.2.2.2.2.2.2.2.2.2.2.2.2.2.2.2.2.2.2.2.2.2.2.2.2.2.2.2.2.2.2.2.2.1 v.2.2.2.2.2.2.2.2.2.2.2.2.2.2.2.2.2.2.2.2.2.2.2.2.2.2.2.2.2.2.2.2.2.2.2.1 v.2.2.2.2.2.2.2.2.2.2.2.2.2.2.2.2.2.2.2.2.2.2.2.2.2.2.2.2.2.2.2.2.2.2.2.2.1 v.2.2.2.2.2.2.2.2.2.2.2.2.2.2.2.2.2.2.2.2.2.2.2.2.2.2.2.2.2.2.2.2.2.2.2.2.2.1 v.2.2.2.2.2.2.2.2.2.2.2.2.2.2.2.2.2.2.2.2.2.2.2.2.2.2.2.2.2.2.2.2.2.2.2.2.2.2.1 v.2.2.2.2.2.2.2.2.2.2.2.2.2.2.2.2.2.2.2.2.2.2.2.2.2.2.2.2.2.2.2.2.2.2.2.2.2.2.2.1 v.2.2.2.2.2.2.2.2.2.2.2.2.2.2.2.2.2.2.2.2.2.2.2.2.2.2.2.2.2.2.2.2.2.2.2.2.2.2.2.2.1 v.2.2.2.2.2.2.2.2.2.2.2.2.2.2.2.2.2.2.2.2.2.2.2.2.2.2.2.2.2.2.2.2.2.2.2.2.2.2.2.2.2.1 v.2.2.2.2.2.2.2.2.2.2.2.2.2.2.2.2.2.2.2.2.2.2.2.2.2.2.2.2.2.2.2.2.2.2.2.2.2.2.2.2.2.2.1 v.2.2.2.2.2.2.2.2.2.2.2.2.2.2.2.2.2.2.2.2.2.2.2.2.2.2.2.2.2.2.2.2.2.2.2.2.2.2.2.2.2.2.2.1 v.2.2.2.2.2.2.2.2.2.2.2.2.2.2.2.2.2.2.2.2.2.2.2.2.2.2.2.2.2.2.2.2.2.2.2.2.2.2.2.2.2.2.2.2.1 v.2.2.2.2.2.2.2.2.2.2.2.2.2.2.2.2.2.2.2.2.2.2.2.2.2.2.2.2.2.2.2.2.2.2.2.2.2.2.2.2.2.2.2.2.2.1 v.2.2.2.2.2.2.2.2.2.2.2.2.2.2.2.2.2.2.2.2.2.2.2.2.2.2.2.2.2.2.2.2.2.2.2.2.2.2.2.2.2.2.2.2.2.2.1 v.2.2.2.2.2.2.2.2.2.2.2.2.2.2.2.2.2.2.2.2.2.2.2.2.2.2.2.2.2.2.2.2.2.2.2.2.2.2.2.2.2.2.2.2.2.2.2.1 v.2.2.2.2.2.2.2.2.2.2.2.2.2.2.2.2.2.2.2.2.2.2.2.2.2.2.2.2.2.2.2.2.2.2.2.2.2.2.2.2.2.2.2.2.2.2.2.2.1 v.2.2.2.2.2.2.2.2.2.2.2.2.2.2.2.2.2.2.2.2.2.2.2.2.2.2.2.2.2.2.2.2.2.2.2.2.2.2.2.2.2.2.2.2.2.2.2.2.2.1 v.2.2.2.2.2.2.2.2.2.2.2.2.2.2.2.2.2.2.2.2.2.2.2.2.2.2.2.2.2.2.2.2.2.2.2.2.2.2.2.2.2.2.2.2.2.2.2.2.2.2.1 v.2.2.2.2.2.2.2.2.2.2.2.2.2.2.2.2.2.2.2.2.2.2.2.2.2.2.2.2.2.2.2.2.2.2.2.2.2.2.2.2.2.2.2.2.2.2.2.2.2.2.2.1 v.2.2.2.2.2.2.2.2.2.2.2.2.2.2.2.2.2.2.2.2.2.2.2.2.2.2.2.2.2.2.2.2.2.2.2.2.2.2.2.2.2.2.2.2.2.2.2.2.2.2.2.2.1 v.2.2.2.2.2.2.2.2.2.2.2.2.2.2.2.2.2.2.2.2.2.2.2.2.2.2.2.2.2.2.2.2.2.2.2.2.2.2.2.2.2.2.2.2.2.2.2.2.2.2.2.2.2.1 v.2.2.2.2.2.2.2.2.2.2.2.2.2.2.2.2.2.2.2.2.2.2.2.2.2.2.2.2.2.2.2.2.2.2.2.2.2.2.2.2.2.2.2.2.2.2.2.2.2.2.2.2.2.2.1 v.2.2.2.2.2.2.2.2.2.2.2.2.2.2.2.2.2.2.2.2.2.2.2.2.2.2.2.2.2.2.2.2.2.2.2.2.2.2.2.2.2.2.2.2.2.2.2.2.2.2.2.2.2.2.2.1 v.2.2.2.2.2.2.2.2.2.2.2.2.2.2.2.2.2.2.2.2.2.2.2.2.2.2.2.2.2.2.2.2.2.2.2.2.2.2.2.2.2.2.2.2.2.2.2.2.2.2.2.2.2.2.2.2.1 v.2.2.2.2.2.2.2.2.2.2.2.2.2.2.2.2.2.2.2.2.2.2.2.2.2.2.2.2.2.2.2.2.2.2.2.2.2.2.2.2.2.2.2.2.2.2.2.2.2.2.2.2.2.2.2.2.2.1 v.2.2.2.2.2.2.2.2.2.2.2.2.2.2.2.2.2.2.2.2.2.2.2.2.2.2.2.2.2.2.2.2.2.2.2.2.2.2.2.2.2.2.2.2.2.2.2.2.2.2.2.2.2.2.2.2.2.2.1 v.2.2.2.2.2.2.2.2.2.2.2.2.2.2.2.2.2.2.2.2.2.2.2.2.2.2.2.2.2.2.2.2.2.2.2.2.2.2.2.2.2.2.2.2.2.2.2.2.2.2.2.2.2.2.2.2.2.2.2.1 v.2.2.2.2.2.2.2.2.2.2.2.2.2.2.2.2.2.2.2.2.2.2.2.2.2.2.2.2.2.2.2.2.2.2.2.2.2.2.2.2.2.2.2.2.2.2.2.2.2.2.2.2.2.2.2.2.2.2.2.2.1 v.2.2.2.2.2.2.2.2.2.2.2.2.2.2.2.2.2.2.2.2.2.2.2.2.2.2.2.2.2.2.2.2.2.2.2.2.2.2.2.2.2.2.2.2.2.2.2.2.2.2.2.2.2.2.2.2.2.2.2.2.2.1 v.2.2.2.2.2.2.2.2.2.2.2.2.2.2.2.2.2.2.2.2.2.2.2.2.2.2.2.2.2.2.2.2.2.2.2.2.2.2.2.2.2.2.2.2.2.2.2.2.2.2.2.2.2.2.2.2.2.2.2.2.2.2.1 v.2.2.2.2.2.2.2.2.2.2.2.2.2.2.2.2.2.2.2.2.2.2.2.2.2.2.2.2.2.2.2.2.2.2.2.2.2.2.2.2.2.2.2.2.2.2.2.2.2.2.2.2.2.2.2.2.2.2.2.2.2.2.2.1 v.2.2.2.2.2.2.2.2.2.2.2.2.2.2.2.2.2.2.2.2.2.2.2.2.2.2.2.2.2.2.2.2.2.2.2.2.2.2.2.2.2.2.2.2.2.2.2.2.2.2.2.2.2.2.2.2.2.2.2.2.2.2.2.2.1 v.2.2.2.2.2.2.2.2.2.2.2.2.2.2.2.2.2.2.2.2.2.2.2.2.2.2.2.2.2.2.2.2.2.2.2.2.2.2.2.2.2.2.2.2.2.2.2.2.2.2.2.2.2.2.2.2.2.2.2.2.2.2.2.2.2.1 v.2.2.2.2.2.2.2.2.2.2.2.2.2.2.2.2.2.2.2.2.2.2.2.2.2.2.2.2.2.2.2.2.2.2.2.2.2.2.2.2.2.2.2.2.2.2.2.2.2.2.2.2.2.2.2.2.2.2.2.2.2.2.2.2.2.2.1 v.2.2.2.2.2.2.2.2.2.2.2.2.2.2.2.2.2.2.2.2.2.2.2.2.2.2.2.2.2.2.2.2.2.2.2.2.2.2.2.2.2.2.2.2.2.2.2.2.2.2.2.2.2.2.2.2.2.2.2.2.2.2.2.2.2.2.2.1 v.2.2.2.2.2.2.2.2.2.2.2.2.2.2.2.2.2.2.2.2.2.2.2.2.2.2.2.2.2.2.2.2.2.2.2.2.2.2.2.2.2.2.2.2.2.2.2.2.2.2.2.2.2.2.2.2.2.2.2.2.2.2.2.2.2.2.2.2)).2 h (w, lo, me, mg, mb, A, h₀, C, cdv, oa, m, q1, q2, q3, q4, q5, q6, q7, q8, q9, r1, r2, r3, r4, r5, r6, r7, r8, r9, u1, u2, u3, u4, u5, u6, u7, u8, u9, v1, v2, v3, v4, v5, v6, v7, v8, v9, w1, w2, w3, w4, w5, w6, w7, w8, k1, k2, k3, k4, k5, k6, k7, k8, k9, j1, j2, x, t, s)
theorem qW : qP w lo me mg mb A h₀ C cdv oa m qk.2.2.2.2.2.2.2.2.2.2.2.1 qk.2.2.2.2.2.2.2.2.2.2.2.2.1 qk.2.2.2.2.2.2.2.2.2.2.2.2.2.1 qk.2.2.2.2.2.2.2.2.2.2.2.2.2.2.1 qk.2.2.2.2.2.2.2.2.2.2.2.2.2.2.2.1 qk.2.2.2.2.2.2.2.2.2.2.2.2.2.2.2.2.1 qk.2.2.2.2.2.2.2.2.2.2.2.2.2.2.2.2.2.1 qk.2.2.2.2.2.2.2.2.2.2.2.2.2.2.2.2.2.2.1 qk.2.2.2.2.2.2.2.2.2.2.2.2.2.2.2.2.2.2.2.1 qk.2.2.2.2.2.2.2.2.2.2.2.2.2.2.2.2.2.2.2.2.1 qk.2.2.2.2.2.2.2.2.2.2.2.2.2.2.2.2.2.2.2.2.2.1 qk.2.2.2.2.2.2.2.2.2.2.2.2.2.2.2.2.2.2.2.2.2.2.1 qk.2.2.2.2.2.2.2.2.2.2.2.2.2.2.2.2.2.2.2.2.2.2.2.1 qk.2.2.2.2.2.2.2.2.2.2.2.2.2.2.2.2.2.2.2.2.2.2.2.2.1 qk.2.2.2.2.2.2.2.2.2.2.2.2.2.2.2.2.2.2.2.2.2.2.2.2.2.1 qk.2.2.2.2.2.2.2.2.2.2.2.2.2.2.2.2.2.2.2.2.2.2.2.2.2.2.1 qk.2.2.2.2.2.2.2.2.2.2.2.2.2.2.2.2.2.2.2.2.2.2.2.2.2.2.2.1 qk.2.2.2.2.2.2.2.2.2.2.2.2.2.2.2.2.2.2.2.2.2.2.2.2.2.2.2.2.1 qk.2.2.2.2.2.2.2.2.2.2.2.2.2.2.2.2.2.2.2.2.2.2.2.2.2.2.2.2.2.1 qk.2.2.2.2.2.2.2.2.2.2.2.2.2.2.2.2.2.2.2.2.2.2.2.2.2.2.2.2.2.2.1 qk.2.2.2.2.2.2.2.2.2.2.2.2.2.2.2.2.2.2.2.2.2.2.2.2.2.2.2.2.2.2.2.1 qk.2.2.2.2.2.2.2.2.2.2.2.2.2.2.2.2.2.2.2.2.2.2.2.2.2.2.2.2.2.2.2.2.1 qk.2.2.2.2.2.2.2.2.2.2.2.2.2.2.2.2.2.2.2.2.2.2.2.2.2.2.2.2.2.2.2.2.2.1 qk.2.2.2.2.2.2.2.2.2.2.2.2.2.2.2.2.2.2.2.2.2.2.2.2.2.2.2.2.2.2.2.2.2.2.1 qk.2.2.2.2.2.2.2.2.2.2.2.2.2.2.2.2.2.2.2.2.2.2.2.2.2.2.2.2.2.2.2.2.2.2.2.1 qk.2.2.2.2.2.2.2.2.2.2.2.2.2.2.2.2.2.2.2.2.2.2.2.2.2.2.2.2.2.2.2.2.2.2.2.2.1 qk.2.2.2.2.2.2.2.2.2.2.2.2.2.2.2.2.2.2.2.2.2.2.2.2.2.2.2.2.2.2.2.2.2.2.2.2.2.1 v1 qk.2.2.2.2.2.2.2.2.2.2.2.2.2.2.2.2.2.2.2.2.2.2.2.2.2.2.2.2.2.2.2.2.2.2.2.2.2.2.2.1 qk.2.2.2.2.2.2.2.2.2.2.2.2.2.2.2.2.2.2.2.2.2.2.2.2.2.2.2.2.2.2.2.2.2.2.2.2.2.2.2.2.1 qk.2.2.2.2.2.2.2.2.2.2.2.2.2.2.2.2.2.2.2.2.2.2.2.2.2.2.2.2.2.2.2.2.2.2.2.2.2.2.2.2.2.1 qk.2.2.2.2.2.2.2.2.2.2.2.2.2.2.2.2.2.2.2.2.2.2.2.2.2.2.2.2.2.2.2.2.2.2.2.2.2.2.2.2.2.2.1 qk.2.2.2.2.2.2.2.2.2.2.2.2.2.2.2.2.2.2.2.2.2.2.2.2.2.2.2.2.2.2.2.2.2.2.2.2.2.2.2.2.2.2.2.1 qk.2.2.2.2.2.2.2.2.2.2.2.2.2.2.2.2.2.2.2.2.2.2.2.2.2.2.2.2.2.2.2.2.2.2.2.2.2.2.2.2.2.2.2.2.1 qk.2.2.2.2.2.2.2.2.2.2.2.2.2.2.2.2.2.2.2.2.2.2.2.2.2.2.2.2.2.2.2.2.2.2.2.2.2.2.2.2.2.2.2.2.2.1 qk.2.2.2.2.2.2.2.2.2.2.2.2.2.2.2.2.2.2.2.2.2.2.2.2.2.2.2.2.2.2.2.2.2.2.2.2.2.2.2.2.2.2.2.2.2.2.1 qk.2.2.2.2.2.2.2.2.2.2.2.2.2.2.2.2.2.2.2.2.2.2.2.2.2.2.2.2.2.2.2.2.2.2.2.2.2.2.2.2.2.2.2.2.2.2.2.1 qk.2.2.2.2.2.2.2.2.2.2.2.2.2.2.2.2.2.2.2.2.2.2.2.2.2.2.2.2.2.2.2.2.2.2.2.2.2.2.2.2.2.2.2.2.2.2.2.2.1 qk.2.2.2.2.2.2.2.2.2.2.2.2.2.2.2.2.2.2.2.2.2.2.2.2.2.2.2.2.2.2.2.2.2.2.2.2.2.2.2.2.2.2.2.2.2.2.2.2.2.1 qk.2.2.2.2.2.2.2.2.2.2.2.2.2.2.2.2.2.2.2.2.2.2.2.2.2.2.2.2.2.2.2.2.2.2.2.2.2.2.2.2.2.2.2.2.2.2.2.2.2.2.1 qk.2.2.2.2.2.2.2.2.2.2.2.2.2.2.2.2.2.2.2.2.2.2.2.2.2.2.2.2.2.2.2.2.2.2.2.2.2.2.2.2.2.2.2.2.2.2.2.2.2.2.2.1 qk.2.2.2.2.2.2.2.2.2.2.2.2.2.2.2.2.2.2.2.2.2.2.2.2.2.2.2.2.2.2.2.2.2.2.2.2.2.2.2.2.2.2.2.2.2.2.2.2.2.2.2.2.1 qk.2.2.2.2.2.2.2.2.2.2.2.2.2.2.2.2.2.2.2.2.2.2.2.2.2.2.2.2.2.2.2.2.2.2.2.2.2.2.2.2.2.2.2.2.2.2.2.2.2.2.2.2.2.1 qk.2.2.2.2.2.2.2.2.2.2.2.2.2.2.2.2.2.2.2.2.2.2.2.2.2.2.2.2.2.2.2.2.2.2.2.2.2.2.2.2.2.2.2.2.2.2.2.2.2.2.2.2.2.2.1 qk.2.2.2.2.2.2.2.2.2.2.2.2.2.2.2.2.2.2.2.2.2.2.2.2.2.2.2.2.2.2.2.2.2.2.2.2.2.2.2.2.2.2.2.2.2.2.2.2.2.2.2.2.2.2.2.1 qk.2.2.2.2.2.2.2.2.2.2.2.2.2.2.2.2.2.2.2.2.2.2.2.2.2.2.2.2.2.2.2.2.2.2.2.2.2.2.2.2.2.2.2.2.2.2.2.2.2.2.2.2.2.2.2.2.1 qk.2.2.2.2.2.2.2.2.2.2.2.2.2.2.2.2.2.2.2.2.2.2.2.2.2.2.2.2.2.2.2.2.2.2.2.2.2.2.2.2.2.2.2.2.2.2.2.2.2.2.2.2.2.2.2.2.2.1 qk.2.2.2.2.2.2.2.2.2.2.2.2.2.2.2.2.2.2.2.2.2.2.2.2.2.2.2.2.2.2.2.2.2.2.2.2.2.2.2.2.2.2.2.2.2.2.2.2.2.2.2.2.2.2.2.2.2.2.1 qk.2.2.2.2.2.2.2.2.2.2.2.2.2.2.2.2.2.2.2.2.2.2.2.2.2.2.2.2.2.2.2.2.2.2.2.2.2.2.2.2.2.2.2.2.2.2.2.2.2.2.2.2.2.2.2.2.2.2.2.1 qk.2.2.2.2.2.2.2.2.2.2.2.2.2.2.2.2.2.2.2.2.2.2.2.2.2.2.2.2.2.2.2.2.2.2.2.2.2.2.2.2.2.2.2.2.2.2.2.2.2.2.2.2.2.2.2.2.2.2.2.2.1 qk.2.2.2.2.2.2.2.2.2.2.2.2.2.2.2.2.2.2.2.2.2.2.2.2.2.2.2.2.2.2.2.2.2.2.2.2.2.2.2.2.2.2.2.2.2.2.2.2.2.2.2.2.2.2.2.2.2.2.2.2.2.1 qk.2.2.2.2.2.2.2.2.2.2.2.2.2.2.2.2.2.2.2.2.2.2.2.2.2.2.2.2.2.2.2.2.2.2.2.2.2.2.2.2.2.2.2.2.2.2.2.2.2.2.2.2.2.2.2.2.2.2.2.2.2.2.1 qk.2.2.2.2.2.2.2.2.2.2.2.2.2.2.2.2.2.2.2.2.2.2.2.2.2.2.2.2.2.2.2.2.2.2.2.2.2.2.2.2.2.2.2.2.2.2.2.2.2.2.2.2.2.2.2.2.2.2.2.2.2.2.2.1 qk.2.2.2.2.2.2.2.2.2.2.2.2.2.2.2.2.2.2.2.2.2.2.2.2.2.2.2.2.2.2.2.2.2.2.2.2.2.2.2.2.2.2.2.2.2.2.2.2.2.2.2.2.2.2.2.2.2.2.2.2.2.2.2.2.1 qk.2.2.2.2.2.2.2.2.2.2.2.2.2.2.2.2.2.2.2.2.2.2.2.2.2.2.2.2.2.2.2.2.2.2.2.2.2.2.2.2.2.2.2.2.2.2.2.2.2.2.2.2.2.2.2.2.2.2.2.2.2.2.2.2.2.1 x t s := by
  intro hh G hC kp ha hn hm
  refine ⟨rfl, ?_⟩
  refine seg_func ?_
  have hov : ∀ c, (A.over c []).handled = none := fun _ => hh
  have S : SInv h₀ C oa s s m [] := by
    refine ⟨⟨s.heap, s.toks, rfl⟩, kp, ha, ⟨hn, fun b o e => (cut_of e).2, Nat.le_of_eq (cut_size (Nat.le_of_lt hn.lt))⟩, fun p hp => ?_⟩
    rw [List.mem_singleton.mp hp]
    exact ⟨ha, Nat.succ_ne_self _, cut_ge (Nat.le_succ _)⟩
  have Gc : Gd w lo me mg mb (cut s.heap C) := G.keeps (cut_kp hC kp)
  refine seg_execs_cons (seg_leaf_stmt (wpAny_mono (pc_set0 (hov _) Gc.X Gc.T S.F S.N) (fun f s₁ h => ?_) fun _ _ h => h))
  obtain ⟨rfl, t0, h⟩ := h
  have S1 := S.step h
  refine seg_execs_cons (seg_leaf_stmt (wpAny_mono (pc_set (hov _) Gc.X Gc.T S1.F S1.N) (fun f s₂ h => ?_) fun _ _ h => h))
  obtain ⟨rfl, h⟩ := h
  have S2 := S1.step h
  refine seg_execs_cons (seg_For (wpAny_mono (pc_enum (hov _) Gc.X Gc.T S2.F S2.N (x := x) (t := t) ((if_neg (by decide)).trans ((if_neg (by decide)).trans hm))) (fun v s₃ h => ?_) fun _ _ h => h) fun _ => rfl)
  obtain ⟨E, I, oE, oI, rfl, h, hit, hE, hI, hne⟩ := h
  have S4 := S2.step h
  refine wpAny_pyIter_enum hit.1.choose_spec fun p => ?_
  refine seg_esc_loop hh G hC _ ?f1 ?f2 ?f3 hE hI hne ?f4 _ 0 s s₃ _ false [] oE oI rfl S4 hit (Nat.zero_le _) (if_pos rfl) ⟨t0, (if_neg (by decide)).trans (if_pos rfl)⟩ rfl
  case f1 => rfl
  case f2 => rfl
  case f3 => exact fun _ => hh
  intro s₀ s m e pre S5 hm5 ⟨tp, hp5⟩ hy
  refine seg_leaf (.ok .next) ?_
  show Seg (model PG w) A (escR C) _ _ s₀ _ ((execs [_] (envE C cdv)).wrap _ _ id id) [] s
  have Gc5 : Gd w lo me mg mb (cut s₀.heap C) := G.keeps (cut_kp hC S5.base)
  refine seg_execs_cons (seg_If (wpAny_mono (pc_esc (hov _) Gc5.X Gc5.T S5.F S5.N hm5) (fun b s₃ h => ?_) fun _ _ h => h))
  obtain ⟨rfl, hS⟩ := h
  have S6 := S5.step hS
  cases b with
  | true =>
    rw [if_pos rfl]
    show Seg (model PG w) A (escR C) _ (0 + 1) s₀ _ _ [] _
    refine seg_execs_cons (seg_Expr_Yield rfl rfl rfl (wpAny_mono (pc_last (p3 := v1) (p4 := v1) (hov _) Gc5.X Gc5.T S6.F S6.N hp5) (fun v s₄ h => ?_) fun _ _ h => h.elim))
    obtain ⟨h, hv⟩ := h
    have S7 := S6.step h
    intro kap hkap
    refine ⟨⟨_, _, escGo_at (rs := []) hy, hv⟩, S7.gs, fun s'' hs'' => hkap .none s'' ?_⟩
    have S8 := S7.wake hC hs'' fun p hp => nomatch hp
    exact seg_end (.ok (.ret .none)) ⟨rfl, rfl, S8.gs⟩
  | false =>
    rw [if_neg Bool.false_ne_true]
    exact seg_end (.ok (.ret .none)) ⟨rfl, rfl, S6.gs⟩
end GEG
end
section
variable {w : World} {lo : List Str} {me : ExcName → Option Value} {mg mb : Str → Option Value} {A : Around} {h₀ : Heap} {C : Addr} {cdv : Value} {oa : Obj} {s : Shared} {h1 : Heap} {L3 : List (Addr × Obj)} {m : Str → Option Value} {q1 q2 q3 q4 q5 q6 q7 q8 q9 r1 r2 r3 r4 r5 r6 r7 r8 r9 u1 u2 u3 u4 u5 u6 u7 u8 u9 v1 v2 v3 v4 v5 v6 v7 v8 v9 w1 w2 w3 w4 w5 w6 w7 w8 w9 : Pos} {k1 k2 k3 k4 k5 k6 k7 k8 k9 j1 j2 : Nat}
theorem esc_goes (hh : A.handled = none) (G : Gd w lo me mg mb h₀) (hC : h₀.objs.size ≤ C) {x : Str} {t : Tok} {s : Shared} (kp : Kp h₀ s.heap) (ha : s.heap.get? (C + 1) = some oa) (hn : s.heap.Ns C m) (hm : m "addr" = some (.str x t)) :
    (GenState.fresh (.func [.Assign [.Name "pos" v1] (.Constant (.int 0) k8 v2) v3, .Assign [.Name "escape" v4] (.Constant (.bool false) k9 v5) v6,
        .For (.Tuple [.Name "pos" q1, .Name "ch" q2] k1 q3) (.Call (.Name "enumerate" v7) [.Name "addr" v8] [] v9) [.If (.Name "escape" q4)
            [.Expr (.Yield (some (.Tuple [.Name "pos" q5, .BinOp (.Constant (.str "\\") k2 q6) .Add (.Name "ch" q7) q8] k3 q9)) r1) r2, .Assign [.Name "escape" r3] (.Constant (.bool false) k4 r4) r5]
            [.If (.Compare (.Name "ch" r6) [.Eq] [.Constant (.str "\\") k5 r7] r8) [.Assign [.Name "escape" r9] (.Constant (.bool true) k6 u1) u2]
              [.Expr (.Yield (some (.Tuple [.Name "pos" u3, .Name "ch" u4] k7 u5)) u6) u7] u8] u9] [] w1,
        .If (.Name "escape" w2) [.Expr (.Yield (some (.Tuple [.Name "pos" w3, .Constant (.str "\\") j1 w4] j2 w5)) w6) w7] [] w8] (envE C cdv))).Goes (model PG w) A (escR C) (escY h₀ C (escGo 0 false x.cps.toList)) (escGo 0 false x.cps.toList).length (.send .none) s := by
  exact GEG.qA GEG.qW w lo me mg mb A h₀ C cdv oa m q1 q2 q3 q4 q5 q6 q7 q8 q9 r1 r2 r3 r4 r5 r6 r7 r8 r9 u1 u2 u3 u4 u5 u6 u7 u8 u9 v1 v2 v3 v4 v5 v6 v7 v8 v9 w1 w2 w3 w4 w5 w6 w7 w8 k1 k2 k3 k4 k5 k6 k7 k8 k9 j1 j2 x t s hh G hC kp ha hn hm
end

end

section
theorem letGo_gen {M : Model} {A : Around} {s : Shared} {E : Value → Shared → Prop} {Q : Unit → Shared → Prop} {a g : Nat} {v : Value} {elts : List Expr} {k : Nat} {pos : Pos} (hg : s.heap.IsGen a g) (h : Q () s) :
    wpAny M A (letOwnedTupleGo (.Tuple elts k pos) (.ref a) v) Q E s := by
  obtain ⟨o, nm, qn, ho, hc, hd, hsl⟩ := hg
  cases v with
  | ref b =>
    show wpAny M A (load a >>= _) Q E s
    refine wpAny_bind (wpAny_load ho ?_)
    simp only [hc, hd]
    rw [if_neg (by intro h; rw [Bool.and_eq_true] at h; exact absurd h.1 (by decide))]
    exact wpAny_pure h
  | _ => exact wpAny_pure h
theorem GAt.frame {w : World} {A : Around} {h₀ : Heap} {C : Addr} {g : Nat} {ys : List (Nat × Str)} {i : Nat} {s : Shared} (x : GAt w A h₀ C g ys i s) {h' : Heap} {tk : Nat} (hk : ∀ b o, Held h₀ C b → s.heap.get? b = some o → h'.get? b = some o) : GAt w A h₀ C g ys i { s with heap := h', toks := tk } := by
  obtain ⟨⟨o, nm, qn, ho, r⟩, gs, hgs, go⟩ := x
  exact ⟨⟨o, nm, qn, hk _ _ (.inl (Nat.le_succ _)) ho, r⟩, gs, hgs, fun s'' hs => go s'' fun b o hb e => hs b o hb (hk b o hb e)⟩
theorem GAt.next {w : World} {A : Around} {h₀ : Heap} {C : Addr} {g : Nat} {ys : List (Nat × Str)} {i : Nat} {s : Shared} {E : Value → Shared → Prop} {Q : Option Value → Shared → Prop} (hh : A.handled = none) (hl : s.heap.NoLimit) (hroom : A.depth < recursionLimit) (x : GAt w A h₀ C g ys i s) {p : Nat} {u : Str} (hi : ys[i]? = some (p, u))
    (hQ : ∀ h' tk gens' v, Pair2 (p : Nat) u v h' → (∀ b o, b ≤ C + 1 → b ≠ C → s.heap.get? b = some o → h'.get? b = some o) → GenOnly g s.gens gens' → GAt w A h₀ C g ys (i + 1) { s with heap := h', toks := tk, gens := gens' } → Q (some v) { s with heap := h', toks := tk, gens := gens' }) :
    wpAny (model PG w) A (pyNext (.ref (C + 1))) Q E s := by
  obtain ⟨hg, gs, hgs, go⟩ := x
  have hlt : i < ys.length := (List.getElem?_eq_some_iff.mp hi).1
  obtain ⟨n, hn⟩ : ∃ n, ys.length - i = n + 1 := ⟨ys.length - i - 1, by omega⟩
  have go' := go (s.setGen g .running) fun b o _ e => e
  rw [hn] at go'
  refine wpAny_pyNext_gen (P := fun n s₀ s₁ => n = 0 ∧ GSince C s₀ s₁) hh hl hroom hg hgs go' (fun v s₁ gs' hv => ?_) (fun s₁ hp h' hk => absurd hp.1 (Nat.succ_ne_zero n))
  obtain ⟨⟨p', u', hp', hpair⟩, ⟨h₁, tk₁, rfl, hk₁⟩, hkap⟩ := hv
  have e1 : ys.length - 1 - (n + 1 - 1) = i := by omega
  rw [e1, hi] at hp'
  cases hp'
  refine hQ _ _ _ v hpair hk₁ ((GenOnly.setGen s g .running).trans (GenOnly.setGen _ g gs')) ⟨?_, gs', setGen_self (gs := .running) (setGen_self hgs), fun s'' hal => ?_⟩
  · obtain ⟨o, nm, qn, ho, r⟩ := hg
    exact ⟨o, nm, qn, hk₁ _ _ (Nat.le_refl _) (Nat.succ_ne_self _) ho, r⟩
  · have e2 : ys.length - (i + 1) = n := by omega
    rw [e2]
    exact hkap s'' hal
theorem GAt.done {w : World} {A : Around} {h₀ : Heap} {C : Addr} {g : Nat} {ys : List (Nat × Str)} {s : Shared} {E : Value → Shared → Prop} {Q : Option Value → Shared → Prop} (hh : A.handled = none) (hl : s.heap.NoLimit) (hroom : A.depth < recursionLimit) (x : GAt w A h₀ C g ys ys.length s)
    (hQ : ∀ h' tk gens', (∀ b o, b ≤ C + 1 → b ≠ C → s.heap.get? b = some o → h'.get? b = some o) → GenOnly g s.gens gens' → gens'[g]? = some .finished → Q none { s with heap := h', toks := tk, gens := gens' }) :
    wpAny (model PG w) A (pyNext (.ref (C + 1))) Q E s := by
  obtain ⟨hg, gs, hgs, go⟩ := x
  have go' := go (s.setGen g .running) fun b o _ e => e
  rw [Nat.sub_self] at go'
  refine wpAny_pyNext_gen (P := fun n s₀ s₁ => n = 0 ∧ GSince C s₀ s₁) hh hl hroom hg hgs go' (fun v s₁ gs' hv => ?_) (fun s₁ hp h' hk => ?_)
  · obtain ⟨_, _, hkap⟩ := hv
    exact False.elim (hkap s₁ fun _ _ _ e => e)
  · obtain ⟨_, h₁, tk₁, rfl, hk₁⟩ := hp
    exact hQ _ _ _ (fun b o hb hn e => hk _ _ (hk₁ b o hb hn e)) ((GenOnly.setGen s g .running).trans (GenOnly.setGen _ g .finished)) (setGen_self (gs := .running) (setGen_self hgs))

section
variable {w : World} {lo : List Str} {me : ExcName → Option Value} {mg mb : Str → Option Value} {A : Around} {h₀ : Heap} {C : Addr} {s : Shared} {env : Env} {m : Str → Option Value} {news : List (Addr × Obj)}
end
section

namespace KG
abbrev qT := (World) × (List Str) × (ExcName → Option Value) × (Str → Option Value) × (Str → Option Value) × (Around) × (Heap) × (Addr) × (Shared) × (Env) × (Str → Option Value) × (List (Addr × Obj)) × (Result → Shared → Prop) × (Str) × (Str) × (Pos) × (Pos) × (Pos) × (Nat) × (List Stmt) × (Nat) × (List (Nat × Str))
def qP (w : World) (lo : List Str) (me : ExcName → Option Value) (mg : Str → Option Value) (mb : Str → Option Value) (A : Around) (h₀ : Heap) (C : Addr) (s : Shared) (env : Env) (m : Str → Option Value) (news : List (Addr × Obj)) (R : Result → Shared → Prop) (x : Str) (y : Str) (px : Pos) (py : Pos) (pt : Pos) (k : Nat) (body : List Stmt) (g : Nat) (ys : List (Nat × Str)) : Prop := ∀ (hh : A.handled = none) (hroom : A.depth < recursionLimit) (T : Top topProg lo me mg mb h₀) (hC : h₀.objs.size ≤ C) (hL : @LT.lt Nat _ env.locals C) (F : Fr h₀ env.locals s.heap m) (N : News h₀ env.locals s.heap news) (ga : GAt w A h₀ C g ys 0 s) (hx : env.kindOf x = some .local) (hy : env.kindOf y = some .local) (hp : (env.scope.kind == .class || (env.scope.kind == .module && env.locals != env.globals)) = false) (J : Nat → (Str → Option Value) → List (Addr × Obj) → Prop) (hJ : ∀ i m' news', J i m' news' → ∀ p ∈ news', @LT.lt Nat _ p.1 C) (h0 : J 0 m news) (turn : ∀ i p u t1 t2 m₁ news₁ (s₁ : Shared) own, ys[i]? = some (p, u) → J i m₁ news₁ → Fr h₀ env.locals s₁.heap (fun z => if z = y then some (.str u t2) else if z = x then some (.int ((p : Nat) : Int) t1) else m₁ z) → News h₀ env.locals s₁.heap (news₁ ++ own) → (∀ p ∈ news₁, ∀ q ∈ own, p.1 ≠ q.1) →
      wpAny (model PG w) A (execs body env) (TEnd h₀ env.locals own s₁ (J (i + 1)) fun f s' => R (.ok f) s') (fun _ _ => False) s₁) (done : ∀ m₁ news₁ h' tk gens', J ys.length m₁ news₁ → GenOnly g s.gens gens' → gens'[g]? = some .finished → Fr h₀ env.locals h' m₁ → News h₀ env.locals h' news₁ → R (.ok .next) { s with heap := h', toks := tk, gens := gens' }), codeAny (model PG w) A (.forLoop (.Tuple [.Name x px, .Name y py] k pt) (.ref (C + 1)) body [] env) R s
theorem qN : Nonempty qT := ⟨(PySem.W.aWorld 0, default, default, default, default, ⟨none, 0, none, none, 0⟩, default, default, {}, default, default, default, fun _ _ => True, default, default, default, default, default, default, default, default, default)⟩
noncomputable def qk : qT := (Classical.choice (drink qN fun v => qP v.1 v.2.1 v.2.2.1 v.2.2.2.1 v.2.2.2.2.1 v.2.2.2.2.2.1 v.2.2.2.2.2.2.1 v.2.2.2.2.2.2.2.1 v.2.2.2.2.2.2.2.2.1 v.2.2.2.2.2.2.2.2.2.1 v.2.2.2.2.2.2.2.2.2.2.1 v.2.2.2.2.2.2.2.2.2.2.2.1 v.2.2.2.2.2.2.2.2.2.2.2.2.1 v.2.2.2.2.2.2.2.2.2.2.2.2.2.1 v.2.2.2.2.2.2.2.2.2.2.2.2.2.2.1 v.2.2.2.2.2.2.2.2.2.2.2.2.2.2.2.1 v.2.2.2.2.2.2.2.2.2.2.2.2.2.2.2.2.1 v.2.2.2.2.2.2.2.2.2.2.2.2.2.2.2.2.2.1 v.2.2.2.2.2.2.2.2.2.2.2.2.2.2.2.2.2.2.1 v.2.2.2.2.2.2.2.2.2.2.2.2.2.2.2.2.2.2.2.1 v.2.2.2.2.2.2.2.2.2.2.2.2.2.2.2.2.2.2.2.2.1 v.2.2.2.2.2.2.2.2.2.2.2.2.2.2.2.2.2.2.2.2.2)).1
noncomputable def w : World := qk.1
noncomputable def A : Around := qk.2.2.2.2.2.1
noncomputable def h₀ : Heap := qk.2.2.2.2.2.2.1
noncomputable def C : Addr := qk.2.2.2.2.2.2.2.1
noncomputable def s : Shared := qk.2.2.2.2.2.2.2.2.1
noncomputable def env : Env := qk.2.2.2.2.2.2.2.2.2.1
noncomputable def m : Str → Option Value := qk.2.2.2.2.2.2.2.2.2.2.1
noncomputable def news : List (Addr × Obj) := qk.2.2.2.2.2.2.2.2.2.2.2.1
noncomputable def x : Str := qk.2.2.2.2.2.2.2.2.2.2.2.2.2.1
noncomputable def y : Str := qk.2.2.2.2.2.2.2.2.2.2.2.2.2.2.1
noncomputable def px : Pos := qk.2.2.2.2.2.2.2.2.2.2.2.2.2.2.2.1
noncomputable def py : Pos := qk.2.2.2.2.2.2.2.2.2.2.2.2.2.2.2.2.1
noncomputable def k : Nat := qk.2.2.2.2.2.2.2.2.2.2.2.2.2.2.2.2.2.2.1
noncomputable def g : Nat := qk.2.2.2.2.2.2.2.2.2.2.2.2.2.2.2.2.2.2.2.2.1
noncomputable def ys : List (Nat × Str) := qk.2.2.2.2.2.2.2.2.2.2.2.2.2.2.2.2.2.2.2.2.2
theorem qA (h : qP w qk.2.1 qk.2.2.1 qk.2.2.2.1 qk.2.2.2.2.1 A h₀ C s env m news qk.2.2.2.2.2.2.2.2.2.2.2.2.1 x y px py qk.2.2.2.2.2.2.2.2.2.2.2.2.2.2.2.2.2.1 k qk.2.2.2.2.2.2.2.2.2.2.2.2.2.2.2.2.2.2.2.1 g ys) (w : World) (lo : List Str) (me : ExcName → Option Value) (mg : Str → Option Value) (mb : Str → Option Value) (A : Around) (h₀ : Heap) (C : Addr) (s : Shared) (env : Env) (m : Str → Option Value) (news : List (Addr × Obj)) (R : Result → Shared → Prop) (x : Str) (y : Str) (px : Pos) (py : Pos) (pt : Pos) (k : Nat) (body : List Stmt) (g : Nat) (ys : List (Nat × Str)) : qP w lo me mg mb A h₀ C s env m news R x y px py pt k body g ys := (Classical.choice (drink qN fun v => qP v.1 v.2.1 v.2.2.1 v.2.2.2.1 v.2.2.2.2.1 v.2.2.2.2.2.1 v.2.2.2.2.2.2.1 v.2.2.2.2.2.2.2.1 v.2.2.2.2.2.2.2.2.1 v.2.2.2.2.2.2.2.2.2.1 v.2.2.2.2.2.2.2.2.2.2.1 v.2.2.2.2.2.2.2.2.2.2.2.1 v.2.2.2.2.2.2.2.2.2.2.2.2.1 v.2.2.2.2.2.2.2.2.2.2.2.2.2.1 v.2.2.2.2.2.2.2.2.2.2.2.2.2.2.1 v.2.2.2.2.2.2.2.2.2.2.2.2.2.2.2.1 v.2.2.2.2.2.2.2.2.2.2.2.2.2.2.2.2.1 v.2.2.2.2.2.2.2.2.2.2.2.2.2.2.2.2.2.1 v.2.2.2.2.2.2.2.2.2.2.2.2.2.2.2.2.2.2.1 v.2.2.2.2.2.2.2.2.2.2.2.2.2.2.2.2.2.2.2.1 v.2.2.2.2.2.2.2.2.2.2.2.2.2.2.2.2.2.2.2.2.1 v.2.2.2.2.2.2.2.2.2.2.2.2.2.2.2.2.2.2.2.2.2)).2 h (w, lo, me, mg, mb, A, h₀, C, s, env, m, news, R, x, y, px, py, pt, k, body, g, ys)
theorem qW : qP w qk.2.1 qk.2.2.1 qk.2.2.2.1 qk.2.2.2.2.1 A h₀ C s env m news qk.2.2.2.2.2.2.2.2.2.2.2.2.1 x y px py qk.2.2.2.2.2.2.2.2.2.2.2.2.2.2.2.2.2.1 k qk.2.2.2.2.2.2.2.2.2.2.2.2.2.2.2.2.2.2.2.1 g ys := by
  intro hh hroom T hC hL F N ga hx hy hp J hJ h0 turn done
  refine codeAny_forLoop_any
    (fun k s' => ∃ h' tk gens' m' news' i, s' = { s with heap := h', toks := tk, gens := gens' } ∧ GenOnly g s.gens gens' ∧ GAt w A h₀ C g ys i s' ∧ Fr h₀ env.locals h' m' ∧ News h₀ env.locals h' news' ∧ J i m' news' ∧ i ≤ ys.length ∧ k = ys.length + 1 - i) ?_ (ys.length + 1)
    ⟨s.heap, s.toks, s.gens, m, news, 0, rfl, ⟨rfl, fun _ _ => rfl⟩, ga, F, N, h0, Nat.zero_le _, rfl⟩
  rintro kk s' ⟨H, tk, gens', m', news', i, rfl, hgo, ga', F', N', hJ', hi, rfl⟩
  have old : ∀ {b : Addr} {o : Obj}, h₀.get? b = some o → @LT.lt Nat _ b C := fun e => Nat.lt_of_lt_of_le (Heap.lt_size e) hC
  have step : ∀ {h₁ : Heap} {H : Heap} {m' : Str → Option Value} {news' : List (Addr × Obj)}, Fr h₀ env.locals H m' → News h₀ env.locals H news' → (∀ p ∈ news', @LT.lt Nat _ p.1 C) → (∀ b o, b ≤ C + 1 → b ≠ C → H.get? b = some o → h₁.get? b = some o) → Fr h₀ env.locals h₁ m' ∧ News h₀ env.locals h₁ news' := by
    intro h₁ H m' news' F' N' hn hk
    refine ⟨⟨F'.ns.at' fun o e => hk _ o (Nat.le_of_lt (Nat.lt_succ_of_lt hL)) (Nat.ne_of_lt hL) e, fun b o e => hk b o (Nat.le_of_lt (Nat.lt_succ_of_lt (old e))) (Nat.ne_of_lt (old e)) (F'.keep b o e), F'.above⟩, fun p hp => ⟨hk _ _ (Nat.le_of_lt (Nat.lt_succ_of_lt (hn p hp))) (Nat.ne_of_lt (hn p hp)) (N' p hp).1, (N' p hp).2⟩⟩
  by_cases hlt : i < ys.length
  · obtain ⟨⟨p, u⟩, hpu⟩ : ∃ q, ys[i]? = some q := ⟨ys[i], by simp [hlt]⟩
    refine ga'.next hh (T.nolimit.keeps F'.keep) hroom hpu fun h₁ tk₁ gens₁ v hv hk₁ hg₁ ga₁ => ?_
    obtain ⟨F₁, N₁⟩ := step F' N' (hJ _ _ _ hJ') hk₁
    obtain ⟨T', t1, t2, rfl, ht⟩ := hv
    refine letGo_gen ga₁.gen ?_
    refine wpAny_assign_Tuple hh ht rfl rfl fun h₃ hx₃ => ?_
    replace hx₃ : Heap.ExtBut h₁.objs.size h₁ h₃ := hx₃
    have up₃ : ∀ b o, h₁.get? b = some o → h₃.get? b = some o := fun b o x => hx₃ b o (Nat.ne_of_lt (Heap.lt_size x)) x
    have hn₃ := F₁.ns.at' fun o e => up₃ _ o e
    show wpAny _ A (assignInOrder [assign (.Name x px) env, assign (.Name y py) env] [_, _]) _ _ _
    refine assignInOrder_cons (wpAny_assign_Name (wpAny_storeName_local hx hn₃ (fun h₄ hn₄ hs₄ => ?_) hp))
    refine assignInOrder_cons (wpAny_assign_Name (wpAny_storeName_local hy hn₄ (fun h₅ hn₅ hs₅ => ?_) hp))
    refine assignInOrder_nil ?_
    replace hs₄ : Heap.SameBut env.locals h₃ h₄ := hs₄
    replace hs₅ : Heap.SameBut env.locals h₄ h₅ := hs₅
    have up : ∀ b o, b ≠ env.locals → h₁.get? b = some o → h₅.get? b = some o := fun b o hb e => hs₅.extBut b o hb (hs₄.extBut b o hb (up₃ b o e))
    have F₅ : Fr h₀ env.locals h₅ (fun z => if z = y then some (.str u t2) else if z = x then some (.int ((p : Nat) : Int) t1) else m' z) :=
      ⟨hn₅, fun b o e => up b o (Nat.ne_of_lt (Nat.lt_of_lt_of_le (Heap.lt_size e) F₁.above)) (F₁.keep b o e), F₁.above⟩
    have N₅ : News h₀ env.locals h₅ news' := fun p hp => ⟨up _ _ (N₁ p hp).2.1 (N₁ p hp).1, (N₁ p hp).2⟩
    have hLw : env.locals ∉ List.range' C (h₅.objs.size - C) := fun h => Nat.not_le.mpr hL (List.mem_range'_1.mp h).1
    have hwr : ∀ b ∈ List.range' C (h₅.objs.size - C), h₀.get? b = none := fun b hb => Heap.get?_none_of_le (Nat.le_trans hC (List.mem_range'_1.mp hb).1)
    have Nown : News h₀ env.locals h₅ (ownOf h₀ (List.range' C (h₅.objs.size - C)) h₅) := news_ownOf hLw
    have sep : ∀ p ∈ news', ∀ q ∈ ownOf h₀ (List.range' C (h₅.objs.size - C)) h₅, p.1 ≠ q.1 := fun p hp q hq e => Nat.not_le.mpr (hJ _ _ _ hJ' p hp) (e ▸ (List.mem_range'_1.mp (ownOf_sub q hq)).1)
    have hheld₁ : ∀ b o, Held h₀ C b → h₁.get? b = some o → h₅.get? b = some o := fun b o hb e => up b o (hb.elim (fun hb => Nat.ne_of_gt (Nat.lt_of_lt_of_le hL hb)) fun ⟨o', e'⟩ => Nat.ne_of_lt (Nat.lt_of_lt_of_le (Heap.lt_size e') F₁.above)) e
    refine wpAny_mono (turn i p u t1 t2 m' news' _ _ hpu hJ' F₅ (fun p hp => (List.mem_append.mp hp).elim (N₅ p) (Nown p)) sep) (fun f s₃ h₃ => ?_) (fun _ _ h => h.elim)
    have fin : (∃ h' tk m₂ news₂, s₃ = { ({ s with heap := h₅, toks := tk₁ + 1 + 1, gens := gens₁ } : Shared) with heap := h', toks := tk } ∧ Fr h₀ env.locals h' m₂ ∧ News h₀ env.locals h' (news₂ ++ ownOf h₀ (List.range' C (h₅.objs.size - C)) h₅) ∧ (∀ p ∈ news₂, ∀ q ∈ ownOf h₀ (List.range' C (h₅.objs.size - C)) h₅, p.1 ≠ q.1) ∧ J (i + 1) m₂ news₂) →
        ∃ m, m < ys.length + 1 - i ∧ ∃ h' tk gens' m' news' i, s₃ = { s with heap := h', toks := tk, gens := gens' } ∧ GenOnly g s.gens gens' ∧ GAt w A h₀ C g ys i s₃ ∧ Fr h₀ env.locals h' m' ∧ News h₀ env.locals h' news' ∧ J i m' news' ∧ i ≤ ys.length ∧ m = ys.length + 1 - i := by
      rintro ⟨h₆, tk₆, m₂, news₂, rfl, F₆, N₆, _, hJ₆⟩
      refine ⟨ys.length + 1 - (i + 1), by omega, h₆, tk₆, gens₁, m₂, news₂, i + 1, rfl, hgo.trans hg₁, ga₁.frame fun b o hb e => ?_, F₆, fun p hp => N₆ p (List.mem_append_left _ hp), hJ₆, hlt, rfl⟩
      have e5 := hheld₁ b o hb e
      rcases hb with hb | ⟨o', e'⟩
      · have hm : b ∈ List.range' C (h₅.objs.size - C) := List.mem_range'_1.mpr ⟨hb, by have := Heap.lt_size e5; have h1 : @LE.le Nat _ C b := hb; have h2 : @LT.lt Nat _ b h₅.objs.size := this; omega⟩
        exact (N₆ _ (List.mem_append_right _ (mem_ownOf hm (hwr _ hm) e5))).1
      · have e6 := F₆.keep b o' e'
        have e7 := F₅.keep b o' e'
        rw [e5] at e7; cases e7
        exact e6
    cases f with
    | ret v => exact h₃
    | brk => exact h₃
    | next => exact fin h₃
    | cont => exact fin h₃
  · obtain rfl : i = ys.length := Nat.le_antisymm hi (Nat.not_lt.mp hlt)
    refine ga'.done hh (T.nolimit.keeps F'.keep) hroom fun h₁ tk₁ gens₁ hk₁ hg₁ hf₁ => ?_
    obtain ⟨F₁, N₁⟩ := step F' N' (hJ _ _ _ hJ') hk₁
    exact wpAny_execs_nil (done m' news' h₁ tk₁ gens₁ hJ' (hgo.trans hg₁) hf₁ F₁ N₁)
end KG
end
section
variable {w : World} {lo : List Str} {me : ExcName → Option Value} {mg mb : Str → Option Value} {A : Around} {h₀ : Heap} {C : Addr} {s : Shared} {env : Env} {m : Str → Option Value} {news : List (Addr × Obj)}
theorem for_gen {R : Result → Shared → Prop} {x y : Str} {px py pt : Pos} {k : Nat} {body : List Stmt} {g : Nat} {ys : List (Nat × Str)} (hh : A.handled = none) (hroom : A.depth < recursionLimit) (T : Top topProg lo me mg mb h₀)
    (hC : h₀.objs.size ≤ C) (hL : @LT.lt Nat _ env.locals C) (F : Fr h₀ env.locals s.heap m) (N : News h₀ env.locals s.heap news) (ga : GAt w A h₀ C g ys 0 s)
    (hx : env.kindOf x = some .local) (hy : env.kindOf y = some .local) (hp : (env.scope.kind == .class || (env.scope.kind == .module && env.locals != env.globals)) = false)
    (J : Nat → (Str → Option Value) → List (Addr × Obj) → Prop) (hJ : ∀ i m' news', J i m' news' → ∀ p ∈ news', @LT.lt Nat _ p.1 C) (h0 : J 0 m news)
    (turn : ∀ i p u t1 t2 m₁ news₁ (s₁ : Shared) own, ys[i]? = some (p, u) → J i m₁ news₁ → Fr h₀ env.locals s₁.heap (fun z => if z = y then some (.str u t2) else if z = x then some (.int ((p : Nat) : Int) t1) else m₁ z) → News h₀ env.locals s₁.heap (news₁ ++ own) → (∀ p ∈ news₁, ∀ q ∈ own, p.1 ≠ q.1) →
      wpAny (model PG w) A (execs body env) (TEnd h₀ env.locals own s₁ (J (i + 1)) fun f s' => R (.ok f) s') (fun _ _ => False) s₁)
    (done : ∀ m₁ news₁ h' tk gens', J ys.length m₁ news₁ → GenOnly g s.gens gens' → gens'[g]? = some .finished → Fr h₀ env.locals h' m₁ → News h₀ env.locals h' news₁ → R (.ok .next) { s with heap := h', toks := tk, gens := gens' }) :
    codeAny (model PG w) A (.forLoop (.Tuple [.Name x px, .Name y py] k pt) (.ref (C + 1)) body [] env) R s := by
  exact KG.qA KG.qW w lo me mg mb A h₀ C s env m news R x y px py pt k body g ys hh hroom T hC hL F N ga hx hy hp J hJ h0 turn done
end

end

section
theorem part_parts : True := by
  w_top off
  exact trivial
local macro_rules | `(tactic| walk_at "pad") => `(tactic| fail)
local macro_rules | `(tactic| walk_at "pad") => `(tactic| fail)
local macro_rules | `(tactic| walk_at "pad") => `(tactic| fail)
def partsGo (acc : List Int) : List (Nat × Str) → List Int
  | [] => acc
  | (p, u) :: r => if u = Str.ofString "\\o" then partsGo (acc ++ [(p : Int) - 2 * acc.length - 1]) r else partsGo acc r
def partsF (x : Str) : List Int := partsGo [] (escGo 0 false x.cps.toList)
theorem parts_take (l : List (Nat × Str)) : ∀ (acc : List Int) (p : Nat) (u : Str), partsGo acc (l ++ [(p, u)]) = if u = Str.ofString "\\o" then partsGo acc l ++ [(p : Int) - 2 * (partsGo acc l).length - 1] else partsGo acc l := by
  induction l with
  | nil => intro acc p u; rfl
  | cons a r ih =>
    intro acc p u
    obtain ⟨q, v⟩ := a
    rw [List.cons_append]
    simp only [partsGo]
    split
    · exact ih _ _ _
    · exact ih _ _ _
theorem escGo_len : ∀ (l : List Nat) (i : Nat) (e : Bool), (escGo i e l).length ≤ l.length + 1
  | [], _, true => Nat.le_refl _
  | [], _, false => Nat.zero_le _
  | c :: r, i, true => by simp only [escGo, List.length_cons]; have := escGo_len r (i + 1) false; omega
  | c :: r, i, false => by
    simp only [escGo]
    split
    · have := escGo_len r (i + 1) true; simp only [List.length_cons]; omega
    · have := escGo_len r (i + 1) false; simp only [List.length_cons]; omega
/-- a list of ints, new -/
def IntsOut (h₀ : Heap) (xs : List Int) (v : Value) (h : Heap) : Prop := ∃ D vs k, v = .ref D ∧ h₀.get? D = none ∧ h.get? D = some (listOf (List.toArray vs) k) ∧ IntsAre vs xs
theorem intsOut_of {h₀ h : Heap} {L D : Addr} {k : Nat} {vs : List Value} {xs : List Int} {news : List (Addr × Obj)} (N : News h₀ L h news) (hm : (D, listOf (List.toArray vs) k) ∈ news) (H : IntsAre vs xs) : IntsOut h₀ xs (.ref D) h := ⟨D, vs, k, rfl, (N _ hm).2.2, (N _ hm).1, H⟩
theorem bare_done {a b : Array GenState} {x : GenState} (h : GenOnly a.size (a.push x) b) (hf : b[a.size]? = some .finished) (ha : AllBare a) : AllBare b := by
  intro y hy
  obtain ⟨i, hi⟩ := Array.mem_iff_getElem?.mp hy
  by_cases e : i = a.size
  · subst e; rw [hf] at hi; cases hi; rfl
  · have h2 := h.2 i e
    rw [hi] at h2
    have hl : i < a.size + 1 := by
      have := (Array.getElem?_eq_some_iff.mp hi).1
      rw [h.1, Array.size_push] at this
      exact this
    rw [Array.getElem?_push_lt (by omega)] at h2
    refine ha y ?_
    have := (Option.some.inj h2).symm
    rw [← this]
    exact Array.getElem_mem _
/-- an answer, all kept, generators bare -/
def AnG (s : Shared) (P : Value → Heap → Prop) (v : Value) (s' : Shared) : Prop := ∃ h' tk gens', s' = { s with heap := h', toks := tk, gens := gens' } ∧ (AllBare s.gens → AllBare gens') ∧ Kp s.heap h' ∧ P v h'
section
local macro_rules | `(tactic| walk_at "exec For Tuple Call") => `(tactic| (k_here; refine wpAny_For ?_ (fun _ => rfl); k_whole))
local macro_rules | `(tactic| walk_at "call ref") => `(tactic| (k_here; refine stop ?_))
namespace RC
abbrev qT := (World) × (List Str) × (ExcName → Option Value) × (Str → Option Value) × (Str → Option Value) × (Nat) × (Option (List Env)) × (Option (List Code)) × (Nat) × (Shared) × (Tok)
def qP (w : World) (lo : List Str) (me : ExcName → Option Value) (mg : Str → Option Value) (mb : Str → Option Value) (dp : Nat) (fr : Option (List Env)) (gd : Option (List Code)) (un : Nat) (s : Shared) (t : Tok) : Prop := ∀ (X : (Mine.Kc w.params).In s.heap) (T : Top topProg lo me mg mb s.heap) (hd' : dp + 5 < recursionLimit) (hu : un + 20 < cLine) (x : Str) (hx : x.cps.size ≤ 1000), wpAny (model PySem.Challenge.rw_to0028_01.row.prog w) ⟨none, dp, fr, gd, un⟩ (call (.ref 138) [.str x t]) (AnG s (IntsOut s.heap (partsF x))) (fun _ _ => False) s
theorem qN : Nonempty qT := ⟨(PySem.W.aWorld 0, default, default, default, default, default, default, default, default, {}, default)⟩
noncomputable def qk : qT := (Classical.choice (drink qN fun v => qP v.1 v.2.1 v.2.2.1 v.2.2.2.1 v.2.2.2.2.1 v.2.2.2.2.2.1 v.2.2.2.2.2.2.1 v.2.2.2.2.2.2.2.1 v.2.2.2.2.2.2.2.2.1 v.2.2.2.2.2.2.2.2.2.1 v.2.2.2.2.2.2.2.2.2.2)).1
noncomputable def w : World := qk.1
noncomputable def lo : List Str := qk.2.1
noncomputable def me : ExcName → Option Value := qk.2.2.1
noncomputable def mg : Str → Option Value := qk.2.2.2.1
noncomputable def mb : Str → Option Value := qk.2.2.2.2.1
noncomputable def dp : Nat := qk.2.2.2.2.2.1
noncomputable def fr : Option (List Env) := qk.2.2.2.2.2.2.1
noncomputable def gd : Option (List Code) := qk.2.2.2.2.2.2.2.1
noncomputable def un : Nat := qk.2.2.2.2.2.2.2.2.1
noncomputable def s : Shared := qk.2.2.2.2.2.2.2.2.2.1
noncomputable def t : Tok := qk.2.2.2.2.2.2.2.2.2.2
theorem qA (h : qP w lo me mg mb dp fr gd un s t) (w : World) (lo : List Str) (me : ExcName → Option Value) (mg : Str → Option Value) (mb : Str → Option Value) (dp : Nat) (fr : Option (List Env)) (gd : Option (List Code)) (un : Nat) (s : Shared) (t : Tok) : qP w lo me mg mb dp fr gd un s t := (Classical.choice (drink qN fun v => qP v.1 v.2.1 v.2.2.1 v.2.2.2.1 v.2.2.2.2.1 v.2.2.2.2.2.1 v.2.2.2.2.2.2.1 v.2.2.2.2.2.2.2.1 v.2.2.2.2.2.2.2.2.1 v.2.2.2.2.2.2.2.2.2.1 v.2.2.2.2.2.2.2.2.2.2)).2 h (w, lo, me, mg, mb, dp, fr, gd, un, s, t)
set_option maxHeartbeats 4000000 in
theorem qW : qP w lo me mg mb dp fr gd un s t := by
  intro X T hd' hu x hx
  k_dflt tb_start
  k_steps
  rename News _ _ _ _ => N1
  rename Fr _ _ _ _ => F1
  rename Heap => hB
  rename Addr => D1
  refine unstop ?_
  (refine' enterG ?k1 ?k2 ?k8 ?k6 ?k7 ?k9 ?kB ?_ ?c2 ?c3 ?c4 ?c5; (case k1 => exact X.keeps F1.keep); (case k2 => exact T.keeps F1.keep); (case k6 => k_is); (case k7 => k_is); (case k8 => exact (show dp + 1 < recursionLimit by omega)); (case k9 => exact BindsTo.of_eq rfl); (case c5 => decide); (case kB => exact locs rfl); (case c2 => exact rfl); (case c3 => exact rfl); (case c4 => exact rfl))
  intro h2 tk2 oa hk hns hz hoa hg
  refine wpAny_pyIter_gen hg ?_
  have F2 := F1.keeps hk
  have N2 : News s.heap _ h2 _ := fun p hp => ⟨hk _ _ (N1 p hp).1, (N1 p hp).2⟩
  refine for_gen (ys := escGo 0 false x.cps.toList) (g := s.gens.size) rfl (show dp + 1 < recursionLimit by omega) T ?hC ?hL F2 N2 ⟨hg, _, Array.getElem?_push_size .., ?ga⟩ rfl rfl rfl
    (fun i m' news' => ∃ D vs k, m' "parts" = some (.ref D) ∧ news' = [(D, listOf (List.toArray vs) k)] ∧ IntsAre vs (partsGo [] ((escGo 0 false x.cps.toList).take i)) ∧ vs.length ≤ i ∧ @LT.lt Nat _ D hB.objs.size) ?hJ ?h0 ?turn ?done
  case hC => exact Nat.le_trans F1.above (Nat.le_of_lt F1.ns.lt)
  case hL => exact F1.ns.lt
  case ga =>
    intro s'' hal
    rw [Nat.sub_zero]
    exact esc_goes rfl ⟨X, T⟩ (Nat.le_trans F1.above (Nat.le_of_lt F1.ns.lt)) (fun b o e => hal b o (.inr ⟨o, e⟩) (hk _ _ (F1.keep b o e))) (hal _ _ (.inl (Nat.le_succ _)) hoa) (hns.at' fun o e => hal _ o (.inl (Nat.le_refl _)) e) rfl
  case hJ =>
    rintro i m' _ ⟨D, vs, k, _, rfl, _, _, hD⟩ p hp
    rw [List.mem_singleton.mp hp]; exact hD
  case h0 => exact ⟨_, [], 0, if_pos rfl, rfl, .nil, Nat.le_refl _, Heap.lt_size (N1 _ (.head _)).1⟩
  case done =>
    rintro m₁ _ h' tk gens' ⟨D, vs, k, hD, rfl, hI, hl, _⟩ hgo hfin F3 N3
    rw [List.take_length] at hI
    clear F1 N1 F2 N2
    k_steps
    exact ⟨_, _, _, rfl, bare_done hgo hfin, F3.keep, intsOut_of N3 (.head _) hI⟩
  case turn =>
    rintro i p u t1 t2 m₁ _ s₁ own hpu ⟨D, vs, k, hD, rfl, hI, hl, hDlt⟩ F3 N3 sep
    clear F1 N1 F2 N2
    have hvl : vs.length ≤ 1001 := by
      have h1 : (escGo 0 false x.cps.toList).length ≤ x.cps.size + 1 := escGo_len x.cps.toList 0 false
      have h2 := (List.getElem?_eq_some_iff.mp hpu).1
      exact Nat.le_trans hl (Nat.le_of_lt_succ (Nat.lt_of_lt_of_le h2 (Nat.le_trans h1 (by omega))))
    have hxl := hI.length
    have e1 := parts_take (List.take i (escGo 0 false x.cps.toList)) [] p u
    have e2 : List.take (i + 1) (escGo 0 false x.cps.toList) = List.take i (escGo 0 false x.cps.toList) ++ [(p, u)] := by rw [List.take_add_one, hpu]; rfl
    rw [← e2] at e1
    rw [List.cons_append, List.nil_append] at N3
    have sepD : ∀ q ∈ own, D ≠ q.1 := fun q hq => sep (D, _) (.head _) q hq
    have hne' : ∀ q ∈ own, q.1 ≠ D := fun q hq e => sepD q hq e.symm
    k_steps
    · rename (u == _) = true => hu1
      rename News _ _ _ _ => N4
      rw [List.push_toArray] at N4
      refine TEnd.next (by assumption) N4 [(D, _)] (fun _ h => h) (fun q hq => by rw [List.mem_singleton.mp hq]; exact sepD) ⟨D, _, _, ?_, rfl, ?_, ?_, hDlt⟩
      · ktr_rel
      · rw [e1, if_pos (eq_of_beq hu1)]
        rw [← hxl]
        exact ints_snoc hI _ _
      · simp only [List.length_append, List.length_cons, List.length_nil]; omega
    · rename (u == _) = false => hu1
      refine TEnd.next (by assumption) (by assumption) [(D, _)] (fun _ h => h) (fun q hq => by rw [List.mem_singleton.mp hq]; exact sepD) ⟨D, vs, k, ?_, rfl, ?_, by omega, hDlt⟩
      · ktr_rel
      · rw [e1, if_neg (by intro h; rw [h] at hu1; exact absurd hu1 (by decide))]
        exact hI
end RC
end
section
variable {w : World} {lo : List Str} {me : ExcName → Option Value} {mg mb : Str → Option Value} {A : Around} {s : Shared}
theorem parts_c (X : (Mine.Kc w.params).In s.heap) (T : Top topProg lo me mg mb s.heap) (R : Rm A 5 20) (x : Str) (t : Tok) (hx : x.cps.size ≤ 1000) :
    wpAny (model PySem.Challenge.rw_to0028_01.row.prog w) A (call (.ref 138) [.str x t]) (AnG s (IntsOut s.heap (partsF x))) (fun _ _ => False) s := by
  obtain ⟨hh, hd0_, hu0_⟩ := R
  obtain ⟨_, dp, fr, gd, un⟩ := A
  cases hh
  exact RC.qA RC.qW w lo me mg mb dp fr gd un s t X T hd0_ hu0_ x hx
end

end

section
/-- what a call may count on: base heap, and objects that change -/
structure Got (w : World) (lo : List Str) (me : ExcName → Option Value) (mg mb : Str → Option Value) (h₀ h : Heap) (news : List (Addr × Obj)) : Prop where
  G : Gd w lo me mg mb h₀
  k : Kp h₀ h
  at' : ∀ p ∈ news, h.get? p.1 = some p.2
  new : ∀ p ∈ news, h₀.get? p.1 = none
abbrev hid (h : Heap) (news : List (Addr × Obj)) : Heap := hideAll h (news.map (·.1))
theorem Got.hid {w : World} {lo : List Str} {me : ExcName → Option Value} {mg mb : Str → Option Value} {h₀ h : Heap} {news : List (Addr × Obj)} (g : Got w lo me mg mb h₀ h news) : Gd w lo me mg mb (hid h news) :=
  g.G.keeps fun b o e => hideAll_get _ (g.k b o e) fun hm => by
    obtain ⟨p, hp, rfl⟩ := List.mem_map.mp hm
    rw [g.new p hp] at e; cases e
theorem hid_kp {w : World} {lo : List Str} {me : ExcName → Option Value} {mg mb : Str → Option Value} {h₀ h : Heap} {news : List (Addr × Obj)} (g : Got w lo me mg mb h₀ h news) : Kp h₀ (hid h news) := fun b o e => hideAll_get _ (g.k b o e) fun hm => by
    obtain ⟨p, hp, rfl⟩ := List.mem_map.mp hm
    rw [g.new p hp] at e; cases e
theorem hid_keep {h h' : Heap} {news : List (Addr × Obj)} (k : Kp (hid h news) h') {b : Addr} {o : Obj} (hb : b ∉ news.map (·.1)) (e : h.get? b = some o) : h'.get? b = some o := k b o (hideAll_get _ e hb)
theorem hid_none {h : Heap} {news : List (Addr × Obj)} {b : Addr} (e : (hid h news).get? b = none) (hb : b ∉ news.map (·.1)) : h.get? b = none := by
  cases q : h.get? b with
  | none => rfl
  | some o => rw [hideAll_get _ q hb] at e; cases e

theorem enterXC {prog : Program} {w : World} {p : Program} {lo : List Str} {me : ExcName → Option Value} {mg mb : Str → Option Value} {A : Around} {s : Shared} {name qual : Str} {params : Arguments} {body : List Stmt} {scope : Scope} {cl : List (Str × Addr)}
    {dV kV doc pm cdv ct : Value} {an : Option Addr} {fo : Obj} {f : Addr} {args : Args} {binds : List (Str × Value)} {R : Result → Shared → Prop} {news : List (Addr × Obj)}
    (T : Top p lo me mg mb (hid s.heap news)) (at' : ∀ p ∈ news, s.heap.get? p.1 = some p.2) (hroom : A.depth < recursionLimit)
    (ho : s.heap.get? f = some fo) (hd : fo.data = .func (fnX name qual params body scope cl dV kV doc pm an cdv ct)) (hcd : s.heap.CodeRec cdv qual)
    (hbind : BindsTo s (fnX name qual params body scope cl dV kV doc pm an cdv ct) args binds) (hloc : ∀ y ∈ binds, scope.names.lookup y.1 = some .local)
    (h : ∀ h₁, Fr (hid s.heap news) s.heap.objs.size h₁ (fun y => binds.reverse.lookup y) → News (hid s.heap news) s.heap.objs.size h₁ news →
      wpAny (model prog w) (A.deeper (envX qual scope s.heap.objs.size f cdv cl)) (execs body (envX qual scope s.heap.objs.size f cdv cl))
        (fun fl s' => R (.ok (.ret (match fl with | .ret v => v | _ => .none))) s') (fun _ _ => False) { s with heap := h₁, toks := s.toks + binds.length })
    (hco : scope.isCoroutine = false) (hgen : scope.isGenerator = false) (hk : scope.kind = .function) (hcell : ∀ x ∈ scope.names, x.2 ≠ .cell) :
    codeAny (model prog w) A (.call (.ref f) args) R s := by
  refine (codeAny_call_def (fd := fnX name qual params body scope cl dV kV doc pm an cdv ct) (body := body) (binds := binds) hroom ho hd (T.nolimit.keeps fun b o e => of_hideAll _ e) hcd rfl hbind hcell hloc (fun h₁ hns hk₁ => ?_) hco hgen hk)
  refine wpAny_mono (h h₁ ⟨hns, fun b o e => hk₁ b o (of_hideAll _ e), Nat.le_of_eq (hideAll_size _ _)⟩ (fun p hp => ?_)) (fun _ _ h => h) (fun _ _ h => h.elim)
  exact ⟨hk₁ _ _ (at' p hp), Nat.ne_of_lt (Heap.lt_size (at' p hp)), hideAll_none _ (List.mem_map_of_mem hp)⟩

theorem enterX {prog : Program} {w : World} {p : Program} {lo : List Str} {me : ExcName → Option Value} {mg mb : Str → Option Value} {A : Around} {s : Shared} {name qual : Str} {params : Arguments} {body : List Stmt} {scope : Scope} {cl : List (Str × Addr)}
    {dV kV doc pm cdv ct : Value} {an : Option Addr} {fo : Obj} {f : Addr} {args : Args} {binds : List (Str × Value)} {Q : Value → Shared → Prop} {news : List (Addr × Obj)}
    (T : Top p lo me mg mb (hid s.heap news)) (at' : ∀ p ∈ news, s.heap.get? p.1 = some p.2) (hroom : A.depth < recursionLimit)
    (ho : s.heap.get? f = some fo) (hd : fo.data = .func (fnX name qual params body scope cl dV kV doc pm an cdv ct)) (hcd : s.heap.CodeRec cdv qual)
    (hbind : BindsTo s (fnX name qual params body scope cl dV kV doc pm an cdv ct) args binds) (hloc : ∀ y ∈ binds, scope.names.lookup y.1 = some .local)
    (h : ∀ h₁, Fr (hid s.heap news) s.heap.objs.size h₁ (fun y => binds.reverse.lookup y) → News (hid s.heap news) s.heap.objs.size h₁ news →
      wpAny (model prog w) (A.deeper (envX qual scope s.heap.objs.size f cdv cl)) (execs body (envX qual scope s.heap.objs.size f cdv cl))
        (fun fl s' => Q (match fl with | .ret v => v | _ => .none) s') (fun _ _ => False) { s with heap := h₁, toks := s.toks + binds.length })
    (hco : scope.isCoroutine = false) (hgen : scope.isGenerator = false) (hk : scope.kind = .function) (hcell : ∀ x ∈ scope.names, x.2 ≠ .cell) :
    wpAny (model prog w) A (call (.ref f) args.pos args.kw) Q (fun _ _ => False) s := by
  refine wpAny_call (codeAny_call_def (fd := fnX name qual params body scope cl dV kV doc pm an cdv ct) (body := body) (binds := binds) hroom ho hd (T.nolimit.keeps fun b o e => of_hideAll _ e) hcd rfl hbind hcell hloc (fun h₁ hns hk₁ => ?_) hco hgen hk)
  refine wpAny_mono (h h₁ ⟨hns, fun b o e => hk₁ b o (of_hideAll _ e), Nat.le_of_eq (hideAll_size _ _)⟩ (fun p hp => ?_)) (fun _ _ h => h) (fun _ _ h => h.elim)
  exact ⟨hk₁ _ _ (at' p hp), Nat.ne_of_lt (Heap.lt_size (at' p hp)), hideAll_none _ (List.mem_map_of_mem hp)⟩

theorem enterC {prog : Program} {w : World} {p : Program} {lo : List Str} {me : ExcName → Option Value} {mg mb : Str → Option Value} {A : Around} {s : Shared} {K : Frag} {name qual : Str} {params : Arguments} {body : List Stmt} {scope : Scope}
    {dV kV doc pm cdv ct oc : Value} {an od : Option Addr} {osl : Array (Option Value)} {f : Addr} {args : Args} {binds : List (Str × Value)} {Q : Value → Shared → Prop} {news : List (Addr × Obj)}
    (X : K.In (hid s.heap news)) (T : Top p lo me mg mb (hid s.heap news)) (at' : ∀ p ∈ news, s.heap.get? p.1 = some p.2) (hroom : A.depth < recursionLimit)
    (ho : K.lookup f = some ⟨oc, od, .func (fnX name qual params body scope [] dV kV doc pm an cdv ct), osl⟩) (hcd : codeIn K cdv qual = true)
    (hbind : BindsTo s (fnX name qual params body scope [] dV kV doc pm an cdv ct) args binds)
    (hkind : ∀ n, ∀ x ∈ binds, scope.names.lookup x.1 = some .local ∨ (scope.names.lookup x.1 = some .cell ∧ ((cellsFrom n scope.names []).lookup x.1).isSome = true))
    (hnd : ((cellsFrom 0 scope.names []).map (·.1)).Nodup)
    (h : ∀ h₁ tk cells, Fr (hid s.heap news) s.heap.objs.size h₁ (bindL (envOfC qual scope s.heap.objs.size f cdv).kindOf binds fun _ => none) → News (hid s.heap news) s.heap.objs.size h₁ (cells ++ news) →
      CellsAre (bindC (envOfC qual scope s.heap.objs.size f cdv).kindOf binds fun _ => none) (cellsFrom (s.heap.objs.size + 1) scope.names []) cells →
      wpAny (model prog w) (A.deeper (envOfC qual scope s.heap.objs.size f cdv)) (execs body (envOfC qual scope s.heap.objs.size f cdv))
        (fun fl s' => Q (match fl with | .ret v => v | _ => .none) s') (fun _ _ => False) { s with heap := h₁, toks := tk })
    (hco : scope.isCoroutine = false) (hgen : scope.isGenerator = false) (hk : scope.kind = .function) :
    wpAny (model prog w) A (call (.ref f) args.pos args.kw) Q (fun _ _ => False) s := by
  have up : ∀ b o, (hid s.heap news).get? b = some o → s.heap.get? b = some o := fun b o e => of_hideAll _ e
  refine wpAny_call (codeAny_call_function hroom (up _ _ (X _ _ ho)) rfl hco hgen rfl (codeRec_of (X.keeps up) hcd) (hbind _ _ _ _ ?_))
  refine wpAny_newFunctionEnv_cells hk (hkind _) fun env' he s' x => ?_
  subst he
  refine ⟨(T.nolimit.keeps up).keeps x.toInCall.keep, codeAny_func ?_⟩
  obtain ⟨h₁, tk, rfl, _⟩ := x.done
  have hk₁ := x.toInCall.keep
  obtain ⟨cells, NC, Y⟩ := Cl.news (h₀ := s.heap) (Nat.le_refl _) fun n c hm => ⟨x.cell n c (lookup_of_mem_nodup (cellsFrom_names scope.names 0 (s.heap.objs.size + 1) [] [] rfl ▸ hnd) hm), x.above n c hm⟩
  refine wpAny_mono (h h₁ tk cells ⟨x.toInCall.ns, fun b o e => hk₁ b o (of_hideAll _ e), Nat.le_of_eq (hideAll_size _ _)⟩ (fun p hp => ?_) Y) (fun fl s' hl => hl) fun _ _ y => y.elim
  rcases List.mem_append.mp hp with hp | hp
  · refine ⟨(NC p hp).1, (NC p hp).2.1, ?_⟩
    cases q : (hid s.heap news).get? p.1 with
    | none => rfl
    | some o => have := of_hideAll _ q; rw [(NC p hp).2.2] at this; cases this
  · exact ⟨hk₁ _ _ (at' p hp), Nat.ne_of_lt (Heap.lt_size (at' p hp)), hideAll_none _ (List.mem_map_of_mem hp)⟩

theorem hid_news {h₀ h : Heap} {L : Addr} {m : Str → Option Value} {news : List (Addr × Obj)} (F : Fr h₀ L h m) (N : News h₀ L h news) : Kp h₀ (hid h news) := fun b o e => hideAll_get _ (F.keep b o e) fun hm => by
  obtain ⟨p, hp, rfl⟩ := List.mem_map.mp hm
  rw [(N p hp).2.2] at e; cases e
theorem enterXK {prog : Program} {w : World} {p : Program} {lo : List Str} {me : ExcName → Option Value} {mg mb : Str → Option Value} {A : Around} {s : Shared} {K : Frag} {name qual : Str} {params : Arguments} {body : List Stmt} {scope : Scope} {cl : List (Str × Addr)}
    {dV kV doc pm cdv ct oc : Value} {an od : Option Addr} {osl : Array (Option Value)} {f : Addr} {args : Args} {binds : List (Str × Value)} {R : Result → Shared → Prop} {news : List (Addr × Obj)}
    (X : K.In (hid s.heap news)) (T : Top p lo me mg mb (hid s.heap news)) (at' : ∀ p ∈ news, s.heap.get? p.1 = some p.2) (hroom : A.depth < recursionLimit)
    (ho : K.lookup f = some ⟨oc, od, .func (fnX name qual params body scope cl dV kV doc pm an cdv ct), osl⟩) (hcd : codeIn K cdv qual = true)
    (hbind : BindsTo s (fnX name qual params body scope cl dV kV doc pm an cdv ct) args binds) (hloc : ∀ y ∈ binds, scope.names.lookup y.1 = some .local)
    (h : ∀ h₁, Fr (hid s.heap news) s.heap.objs.size h₁ (fun y => binds.reverse.lookup y) → News (hid s.heap news) s.heap.objs.size h₁ news →
      wpAny (model prog w) (A.deeper (envX qual scope s.heap.objs.size f cdv cl)) (execs body (envX qual scope s.heap.objs.size f cdv cl))
        (fun fl s' => R (.ok (.ret (match fl with | .ret v => v | _ => .none))) s') (fun _ _ => False) { s with heap := h₁, toks := s.toks + binds.length })
    (hco : scope.isCoroutine = false) (hgen : scope.isGenerator = false) (hk : scope.kind = .function) (hcell : ∀ x ∈ scope.names, x.2 ≠ .cell) :
    codeAny (model prog w) A (.call (.ref f) args) R s :=
  have up : ∀ b o, (hid s.heap news).get? b = some o → s.heap.get? b = some o := fun b o e => of_hideAll _ e
  enterXC T at' hroom (up _ _ (X _ _ ho)) rfl (codeRec_of (X.keeps up) hcd) hbind hloc h hco hgen hk hcell

theorem fin_keep {h h' : Heap} {L : Addr} {m : Str → Option Value} {news news' : List (Addr × Obj)} (at' : ∀ p ∈ news, h.get? p.1 = some p.2) (F : Fr (hid h news) L h' m) (N : News (hid h news) L h' news') (D : List Addr) (same : ∀ p ∈ news, p.1 ∈ D ∨ p ∈ news') :
    ∀ b o, b ∉ D → h.get? b = some o → h'.get? b = some o := fun b o hb e => by
  by_cases hm : b ∈ news.map (·.1)
  · obtain ⟨p, hp, rfl⟩ := List.mem_map.mp hm
    rcases same p hp with h1 | h1
    · exact absurd h1 hb
    · have e1 := at' p hp
      rw [e] at e1; cases e1
      exact (N p h1).1
  · exact hid_keep F.keep hm e
theorem fin_new {h h' : Heap} {L : Addr} {news news' : List (Addr × Obj)} (N : News (hid h news) L h' news') {p : Addr × Obj} (hp : p ∈ news') (hn : ∀ q ∈ news, q.1 ≠ p.1) : h.get? p.1 = none :=
  hid_none (N p hp).2.2 fun hm => by obtain ⟨q, hq, e⟩ := List.mem_map.mp hm; exact hn q hq e

theorem Got.sub {w : World} {lo : List Str} {me : ExcName → Option Value} {mg mb : Str → Option Value} {h₀ h : Heap} {a b : List (Addr × Obj)} (g : Got w lo me mg mb h₀ h a) (hs : ∀ p ∈ b, p ∈ a) : Got w lo me mg mb h₀ h b := ⟨g.G, g.k, fun p hp => g.at' p (hs p hp), fun p hp => g.new p (hs p hp)⟩

end

section
theorem part_init : True := by
  w_top off
  exact trivial
/-- the lexer's own dict -/
abbrev lxD (P : Params) (line : Int) (sT pb : Nat) (a b c d e f : Tok) (n : Nat) : Obj :=
  dictOf [{ hash := PyData.keyHash P "lineno", key := .str "lineno" a, val := .int line b }, { hash := PyData.keyHash P "instream", key := .str "instream" c, val := .ref sT },
    { hash := PyData.keyHash P "whitespace", key := .str "whitespace" d, val := .str "\n\t\x0d " e }, { hash := PyData.keyHash P "pushback", key := .str "pushback" f, val := .ref pb }] n
section
variable {w : World} {lo : List Str} {me : ExcName → Option Value} {mg mb : Str → Option Value} {A : Around} {s : Shared} {h₀ : Heap}
set_option maxHeartbeats 4000000 in
theorem init_c {x dx sT : Nat} (g : Got w lo me mg mb h₀ s.heap [(x, instObj 77 dx), (dx, dictOf [] 0)]) (hlt : dx < x) (hsT : sT < dx) (hroom : A.depth + 1 < recursionLimit) (hh : A.handled = none) {R : Result → Shared → Prop}
    (hR : ∀ h' tk pb a b c d e f n, h'.get? dx = some (lxD w.params 1 sT pb a b c d e f n) → h'.get? pb = some (listOf #[] 0) → s.heap.get? pb = none → (∀ b o, b ≠ dx → s.heap.get? b = some o → h'.get? b = some o) → x < pb → R (.ok (.ret .none)) { s with heap := h', toks := tk }) :
    codeAny (model PySem.Challenge.rw_to0028_01.row.prog w) A (.call (.ref 53) ⟨[.ref x, .ref sT], []⟩) R s := by
  obtain ⟨_, dp, fr, gd, un⟩ := A
  cases hh
  have hd' : dp + 1 < recursionLimit := hroom
  have X := g.hid.X
  have T := g.hid.T
  have hx : x < s.heap.objs.size := Heap.lt_size (g.at' _ (.head _))
  (refine' enterXK (K := Mine.Kc w.params) X T g.at' ?k8 ?k6 ?k7 ?k9 ?kB ?_ ?c2 ?c3 ?c4 ?c5; (case k6 => k_is); (case k7 => k_is); (case k8 => exact (show dp < recursionLimit by omega)); (case k9 => exact BindsTo.of_eq rfl); (case c5 => decide); (case kB => exact locs rfl); (case c2 => exact rfl); (case c3 => exact rfl); (case c4 => exact rfl))
  intro h8 F8 N8
  k_steps
  rename News _ _ _ _ => N9
  rename Fr _ _ _ _ => F9
  rename _ ∧ _ => l9
  have kk := fin_keep g.at' F9 N9 [dx] (by
    refine List.forall_mem_cons.mpr ⟨.inr (.tail _ (.head _)), List.forall_mem_cons.mpr ⟨.inl (.head _), List.forall_mem_nil _⟩⟩)
  have hp := fin_new N9 (.head _) (List.forall_mem_cons.mpr ⟨Nat.ne_of_lt l9.1, List.forall_mem_cons.mpr ⟨Nat.ne_of_lt l9.2, List.forall_mem_nil _⟩⟩)
  exact hR _ _ _ _ _ _ _ _ _ _ (N9 _ (.tail _ (.tail _ (.head _)))).1 (N9 _ (.head _)).1 hp (fun b o hb => kk b o (fun hm => hb (List.mem_singleton.mp hm))) l9.1
end

end

section
theorem slot_fn_setattr : Slot "function" "__setattr__" "object.__setattr__" :=
  .of (owner := "object") (n := "__setattr__") (by rw [typeLookup_type, builtinLookup_eq_fast]; kernel_rfl) (by decide +kernel) (by decide +kernel) (by decide +kernel)
    (by first | exact .inl (by decide +kernel) | exact .inr (by decide +kernel)) (by rw [isSubtype_type]; kernel_rfl)
theorem fn_mro : mroOf (.type "function") = pure [.type "function", .type "object"] := by
  first | rfl | kernel_rfl | (unfold mroOf; kernel_rfl)
theorem fn_own : classOwn (.type "function") "__setattr__" = pure none := by first | rfl | kernel_rfl
theorem fn_read : typeLookup (.type "function") "read" = pure none := by rw [typeLookup_type, builtinLookup_eq_fast]; kernel_rfl
theorem fn_hasdict : typeHasDict (.type "function") = true := by decide +kernel
theorem fn_final : finalisedInACycleAlone "function" = false := by decide +kernel
section
variable {prog : Program} {w : World} {A : Around} {E : Value → Shared → Prop} {h : Heap} {g : Array GenState} {d : Drawn} {t : Nat} {os : OsState}
open Builtin Builtin.ObjectAttr
set_option maxHeartbeats 2000000 in
theorem fn_store {x : Addr} {o : Obj} {v : Value} {tk : Tok} {Q : Fin → Shared → Prop} (hx : h.get? x = some o) (hc : o.cls = .type "function") (hdn : o.dict = none) (hnc : ∀ c, o.data ≠ .cls c)
    (hq : ∀ h' tk', h'.Ns1 h.objs.size (fun y => if y = "read" then some v else none) → h'.get? x = some { cls := o.cls, dict := some h.objs.size, data := o.data, slots := o.slots } → (∀ b o, b ≠ x → h.get? b = some o → h'.get? b = some o) → Q (.done (.ret .none)) ⟨h', g, d, tk', os⟩) :
    wpAny (model prog w) A (Builtin.«object.__setattr__» ⟨[.ref x, .str "read" tk, v], []⟩) Q E ⟨h, g, d, t, os⟩ := by
  have hT : (⟨h, g, d, t, os⟩ : Shared).TypeIs (.ref x) "function" := ⟨_, hx, hc⟩
  have hcc := hc
  unfold Builtin.«object.__setattr__»
  repeat (first | rw [refuse_eq] | (with_reducible refine wpAny_loadPart_at hx ?_) | (with_reducible refine wpAny_of_eq fn_mro ?_) | (with_reducible refine wpAny_of_eq fn_read ?_) | wp_step)
  rw [hcc, hdn]
  dsimp only
  rw [if_neg (by simp [fn_hasdict])]
  have hx₁ : (h.push { cls := .type "dict", data := .dict #[] }).get? x = some o := Heap.get?_push_of_some _ hx
  have hxs : x ≠ h.objs.size := Nat.ne_of_lt (Heap.lt_size hx)
  split
  · rename_i c hcd
    exact absurd hcd (hnc _)
  · refine wpAny_bind (wpAny_alloc' ?_)
    refine wpAny_bind (wpAny_update' hx₁ ?_)
    have hgd : ((h.push { cls := .type "dict", data := .dict #[] }).update x fun o => { cls := o.cls, dict := some h.objs.size, data := o.data, slots := o.slots }).get? h.objs.size
        = some { cls := .type "dict", data := .dict #[] } :=
      (Heap.get?_update_ne _ _ _ _ hxs.symm).trans (Heap.get?_push_at rfl rfl)
    have hnd : ((h.push { cls := .type "dict", data := .dict #[] }).update x fun o => { cls := o.cls, dict := some h.objs.size, data := o.data, slots := o.slots }).Ns h.objs.size (fun _ => none) :=
      ⟨_, #[], _, hgd, rfl, fun e he => absurd he (by simp), fun _ => rfl⟩
    simp only [dictMade, fn_final, Bool.false_eq_true, if_false]
    refine wpAny_pure ?_
    show wpAny _ _ (storeInDict h.objs.size (.str "read" tk) "read" v) _ _ _
    unfold storeInDict newKeyGuard
    refine wpAny_bind (wpAny_pure (wpAny_bind (wpAny_nsSet1 (Heap.Ns1.of_empty hnd) fun h' hn' hs => ?_)))
    obtain ⟨oD, esD, epD, hoD, hdD, hcD⟩ := hn'.count (Within.cons "read" v Within.nil)
    refine wpAny_bind (wpAny_lookBehind hoD (by rw [hdD]; exact pastItsLine_dict (Nat.le_trans hcD (by rw [List.length_cons, List.length_nil, sizeLine_eq]; omega))) ?_)
    refine wpAny_pure (hq h' _ hn' ?_ fun b ob hbx hb => ?_)
    · refine (hs.2 x hxs).trans (Heap.get?_update_self _ hx₁ ?_)
      have hfr := (Heap.get?_some_iff.mp hx).2
      obtain ⟨oc, od, odt, osl⟩ := o
      cases odt <;> first | rfl | exact hfr
    · exact (hs.2 b (Nat.ne_of_lt (Heap.lt_size hb))).trans ((Heap.get?_update_ne _ _ _ _ hbx).trans (Heap.get?_push_of_some _ hb))
theorem fn_setAttr {s : Shared} {x : Addr} {o : Obj} {v : Value} {Q : Unit → Shared → Prop} (hx : s.heap.get? x = some o) (hc : o.cls = .type "function") (hdn : o.dict = none) (hnc : ∀ c, o.data ≠ .cls c)
    (hq : ∀ h' tk', h'.Ns1 s.heap.objs.size (fun y => if y = "read" then some v else none) → h'.get? x = some { cls := o.cls, dict := some s.heap.objs.size, data := o.data, slots := o.slots } → (∀ b o, b ≠ x → s.heap.get? b = some o → h'.get? b = some o) → Q () { s with heap := h', toks := tk' }) :
    wpAny (model prog w) A (setAttr (.ref x) "read" v) Q E s := by
  have hT : s.TypeIs (.ref x) "function" := ⟨_, hx, hc⟩
  unfold setAttr
  refine wpAny_bind (wpAny_mkText ?_)
  refine wpAny_bind (wpAny_callSpecial?_slot (T := "function") (name := Str.ofString "__setattr__") ?_ slot_fn_setattr (wpAny_call_entry slot_fn_setattr ?_ F.entry_object_setattr ?_ (F.args_object_setattr_3 _ _ _)))
  · exact hT
  · exact hT
  · exact fn_store hx hc hdn hnc fun h' tk' hn hx' hk => ⟨_, rfl, wpAny_pure (hq h' tk' hn hx' hk)⟩
end

end

section
theorem slot_fn_getattribute : Slot "function" "__getattribute__" "object.__getattribute__" :=
  .of (owner := "object") (n := "__getattribute__") (by rw [typeLookup_type, builtinLookup_eq_fast]; kernel_rfl) (by decide +kernel) (by decide +kernel) (by decide +kernel)
    (by first | exact .inl (by decide +kernel) | exact .inr (by decide +kernel)) (by rw [isSubtype_type]; kernel_rfl)
theorem fn_getattr_none : typeLookup (.type "function") "__getattr__" = pure none := by rw [typeLookup_type, builtinLookup_eq_fast]; kernel_rfl
section
variable {prog : Program} {w : World} {A : Around} {E : Value → Shared → Prop} {h : Heap} {g : Array GenState} {d : Drawn} {t : Nat} {os : OsState}
open Builtin Builtin.ObjectAttr
set_option maxHeartbeats 2000000 in
theorem fn_find {x sd : Addr} {o : Obj} {v : Value} {mm : Str → Option Value} {Q : Found → Shared → Prop} (hx : h.get? x = some o) (hc : o.cls = .type "function") (hdd : o.dict = some sd) (hnc : ∀ c, o.data ≠ .cls c) (hn : h.Ns sd mm) (hv : mm "read" = some v)
    (hq : Q (.value v) ⟨h, g, d, t, os⟩) :
    wpAny (model prog w) A (find (.ref x) (.type "function") "read") Q E ⟨h, g, d, t, os⟩ := by
  have hT : (⟨h, g, d, t, os⟩ : Shared).TypeIs (.ref x) "function" := ⟨_, hx, hc⟩
  have f1 := fn_read
  unfold find
  refine wpAny_bind (wpAny_of_eq f1 ?_)
  refine wpAny_bind (wpAny_pure ?_)
  refine wpAny_bind (wpAny_pure ?_)
  dsimp only
  unfold ownThenClass inOwnDict
  refine wpAny_bind (wpAny_bind (m := Builtin.ObjectAttr.ownDict x) ?_)
  unfold Builtin.ObjectAttr.ownDict loadHead
  refine wpAny_bind (wpAny_loadPart_at hx ?_)
  have e1 : wpAny (model prog w) A (instanceDict x false) (fun a s' => wpAny (model prog w) A (inDict "read" a) (fun r s₂ => wpAny (model prog w) A (match r with
      | some v => do rule "getattr.instance-dict"; pure (.value v)
      | none => do copiedAttributeGuard "read" (.ref x); byTheClass none none) Q E s₂) E s') E ⟨h, g, d, t, os⟩ := by
    unfold instanceDict
    refine wpAny_bind (wpAny_loadPart_at hx ?_)
    rw [hc]
    refine wpAny_bind (wpAny_pure ?_)
    rw [hdd]
    refine wpAny_pure ?_
    show wpAny _ A (nsGet sd "read") _ _ _
    refine wpAny_nsGet hn ?_
    rw [hv]
    exact wpAny_bind (wpAny_rule (wpAny_pure hq))
  split
  · rename_i c hcd
    exact absurd hcd (hnc _)
  · exact e1
theorem fn_entry {x sd : Addr} {o : Obj} {v : Value} {mm : Str → Option Value} {tk : Tok} {Q : Fin → Shared → Prop} (hx : h.get? x = some o) (hc : o.cls = .type "function") (hdd : o.dict = some sd) (hnc : ∀ c, o.data ≠ .cls c) (hn : h.Ns sd mm) (hv : mm "read" = some v)
    (hq : Q (.done (.ret v)) ⟨h, g, d, t, os⟩) :
    wpAny (model prog w) A (Builtin.«object.__getattribute__» ⟨[.ref x, .str "read" tk], []⟩) Q E ⟨h, g, d, t, os⟩ := by
  have hT : (⟨h, g, d, t, os⟩ : Shared).TypeIs (.ref x) "function" := ⟨_, hx, hc⟩
  unfold Builtin.«object.__getattribute__»
  refine wpAny_bind (wpAny_pure ?_)
  refine wpAny_bind (wpAny_pure ?_)
  refine wpAny_bind (wpAny_typeOf hT ?_)
  refine wpAny_bind (fn_find hx hc hdd hnc hn hv ?_)
  exact wpAny_pure hq

theorem fn_getAttr {x sd : Addr} {o : Obj} {f : Addr} {mm : Str → Option Value} {ex : Bool} {Q : Value → Shared → Prop} (hx : h.get? x = some o) (hc : o.cls = .type "function") (hdd : o.dict = some sd) (hnc : ∀ c, o.data ≠ .cls c) (hn : h.Ns sd mm) (hv : mm "read" = some (.ref f))
    (hq : Q (.ref f) ⟨h, g, d, t + 1, os⟩) :
    wpAny (model prog w) A (getAttr (.ref x) "read" ex) Q E ⟨h, g, d, t, os⟩ := by
  have hT : (⟨h, g, d, t + 1, os⟩ : Shared).TypeIs (.ref x) "function" := ⟨_, hx, hc⟩
  unfold getAttr
  refine wpAny_bind (wpAny_mkText ?_)
  unfold getAttrBy
  refine wpAny_holding (wpAny_bind (wpAny_typeOf hT ?_))
  refine wpAny_bind (wpAny_of_eq slot_fn_getattribute.lookup ?_)
  show wpAny _ A (getAttrByItsOwn _ _ _ _ _ _) _ _ _
  unfold getAttrByItsOwn hookBefore
  refine wpAny_bind (wpAny_pure ?_)
  refine wpAny_bind (wpAny_attempt (wpAny_holding ?_))
  unfold callGetattribute
  rw [if_neg (by simp [onTheHeap])]
  unfold boundAndCalled
  refine wpAny_bind (wpAny_of_eq (slot_fn_getattribute.bind _) ?_)
  refine wpAny_call_entry slot_fn_getattribute hT F.entry_object_getattribute ?_ (F.args_object_getattribute_2 _ _)
  refine fn_entry hx hc hdd hnc hn hv ⟨_, rfl, ?_⟩
  exact wpAny_pure hq
theorem fn_getMethod {s : Shared} {x sd : Addr} {o : Obj} {f : Addr} {mm : Str → Option Value} {pl : Sem Bool} {Q : Value × List Value → Shared → Prop} (hx : s.heap.get? x = some o) (hc : o.cls = .type "function") (hdd : o.dict = some sd) (hnc : ∀ c, o.data ≠ .cls c) (hn : s.heap.Ns sd mm) (hv : mm "read" = some (.ref f))
    (hq : Q (.ref f, []) { s with toks := s.toks + 1 }) :
    wpAny (model prog w) A (getMethod (.ref x) "read" pl) Q E s := by
  have hT : s.TypeIs (.ref x) "function" := ⟨_, hx, hc⟩
  unfold getMethod
  refine wpAny_bind (wpAny_specialOf hT slot_fn_getattribute.lookup ?_)
  dsimp only
  rw [if_neg (show ¬ ((Manifest.canonical "object.__getattribute__" != "object.__getattribute__") = true) by decide +kernel)]
  refine wpAny_bind (wpAny_specialOf hT fn_getattr_none ?_)
  rw [if_neg (by simp)]
  refine wpAny_bind (wpAny_specialOf hT fn_read ?_)
  refine wpAny_bind (fn_getAttr hx hc hdd hnc hn hv ?_)
  exact wpAny_pure hq
end

end

section
theorem part_read : True := by
  w_top off
  exact trivial
local macro_rules | `(tactic| walk_at "pad") => `(tactic| fail)
abbrev scR : Scope := { kind := .function, names := [("size", .local), ("sign", .local), ("at", .free), ("page", .free), ("len", .globalImplicit)], isGenerator := false, isCoroutine := false, more := [] }
def chAt (page : Str) (k : Nat) : Str := Txt.slice page (some (k : Int)) (some ((k : Int) + 1))
def RdPost (page : Str) (k aL : Nat) (s : Shared) (v : Value) (s' : Shared) : Prop := ∃ h' t1 t2 tk' n', v = .str (chAt page k) t1 ∧ s' = { s with heap := h', toks := t2 } ∧ (∀ b o, b ≠ aL → s.heap.get? b = some o → h'.get? b = some o) ∧
      h'.get? aL = some (listOf #[.int ((k : Int) + ((chAt page k).length : Nat)) tk'] n')
section
local macro_rules | `(tactic| walk_at "eval Name") => `(tactic| (k_here; k_dflt (refine' nameX_F ?N ?c ?m ?d ?_ ?a ?b; (case a => rfl); (case b => rfl); (case N => k_asm); (case c => rfl); (case m => k_mem); (case d => assumption); k_whole)))
namespace RCC
abbrev qT := (World) × (List Str) × (ExcName → Option Value) × (Str → Option Value) × (Str → Option Value) × (Nat) × (Option (List Env)) × (Option (List Code)) × (Nat) × (Shared) × (Heap) × (Pos) × (Pos) × (Pos) × (Pos) × (Pos) × (Pos) × (Pos) × (Pos) × (Pos) × (Pos) × (Pos) × (Pos) × (Pos) × (Pos) × (Pos) × (Pos) × (Pos) × (Pos) × (Pos) × (Pos) × (Pos) × (Pos) × (Pos) × (Pos) × (Pos) × (Pos) × (Pos) × (Nat) × (Nat) × (Nat) × (Nat) × (Nat) × (Nat) × (Nat) × (Nat) × (Nat) × (Tok) × (Tok) × (Tok) × (Obj) × (Obj) × (Obj) × (Str) × (Str) × (Value) × (Value) × (Value) × (Value)
def qP (w : World) (lo : List Str) (me : ExcName → Option Value) (mg : Str → Option Value) (mb : Str → Option Value) (dp : Nat) (fr : Option (List Env)) (gd : Option (List Code)) (un : Nat) (s : Shared) (h₀ : Heap) (q1 : Pos) (q2 : Pos) (q3 : Pos) (q4 : Pos) (q5 : Pos) (q6 : Pos) (q7 : Pos) (q8 : Pos) (q9 : Pos) (r1 : Pos) (r2 : Pos) (r3 : Pos) (r4 : Pos) (r5 : Pos) (r6 : Pos) (r7 : Pos) (r8 : Pos) (r9 : Pos) (u1 : Pos) (u2 : Pos) (u3 : Pos) (u4 : Pos) (u5 : Pos) (u6 : Pos) (u7 : Pos) (u8 : Pos) (u9 : Pos) (k1 : Nat) (k2 : Nat) (k3 : Nat) (k4 : Nat) (f : Nat) (aL : Nat) (cA : Nat) (cP : Nat) (n : Nat) (tk : Tok) (t : Tok) (tp : Tok) (oA : Obj) (oP : Obj) (fo : Obj) (nm : Str) (qual : Str) (doc : Value) (pm : Value) (cdv : Value) (ct : Value) : Prop := ∀ (k : Nat) (page : Str) (g : Got w lo me mg mb h₀ s.heap [(aL, listOf #[.int k tk] n), (cA, oA), (cP, oP)]) (hd0 : dp + 2 < recursionLimit) (hu : un + 20 < cLine) (hk : k ≤ 100) (hpl : page.length ≤ 100) (hA : oA.data = .cell (some (.ref aL))) (hP : oP.data = .cell (some (.str page tp))) (o1 : cA < aL) (o2 : cP < aL) (ho : s.heap.get? f = some fo) (hd : fo.data = .func (fnX nm qual { posonlyargs := [], args := [{ arg := "size", annotation := none, pos := q1 }], vararg := none, kwonlyargs := [], kw_defaults := [], kwarg := none, defaults := [] }
      [.Assign [.Name "sign" q2] (.Subscript (.Name "page" q3) (.Slice (some (.Subscript (.Name "at" q4) (.Constant (.int 0) k1 q5) q6)) (some (.BinOp (.Subscript (.Name "at" q7) (.Constant (.int 0) k2 q8) q9) .Add (.Name "size" r1) r2)) none r3) r4) r5,
       .Assign [.Subscript (.Name "at" r6) (.Constant (.int 0) k3 r7) r8] (.BinOp (.Subscript (.Name "at" r9) (.Constant (.int 0) k4 u1) u2) .Add (.Call (.Name "len" u3) [.Name "sign" u4] [] u5) u6) u7,
       .Return (some (.Name "sign" u8)) u9] scR [("page", cP), ("at", cA)] .none .none doc pm none cdv ct)) (hcd : s.heap.CodeRec cdv qual), wpAny (model PySem.Challenge.rw_to0028_01.row.prog w) ⟨none, dp, fr, gd, un⟩ (call (.ref f) [.int 1 t]) (RdPost page k aL s) (fun _ _ => False) s
theorem qN : Nonempty qT := ⟨(PySem.W.aWorld 0, default, default, default, default, default, default, default, default, {}, default, default, default, default, default, default, default, default, default, default, default, default, default, default, default, default, default, default, default, default, default, default, default, default, default, default, default, default, default, default, default, default, default, default, default, default, default, default, default, default, default, default, default, default, default, default, default, default, default)⟩
noncomputable def qk : qT := (Classical.choice (drink qN fun v => qP v.1 v.2.1 v.2.2.1 v.2.2.2.1 v.2.2.2.2.1 v.2.2.2.2.2.1 v.2.2.2.2.2.2.1 v.2.2.2.2.2.2.2.1 v.2.2.2.2.2.2.2.2.1 v.2.2.2.2.2.2.2.2.2.1 v.2.2.2.2.2.2.2.2.2.2.1 v.2.2.2.2.2.2.2.2.2.2.2.1 v.2.2.2.2.2.2.2.2.2.2.2.2.1 v.2.2.2.2.2.2.2.2.2.2.2.2.2.1 v.2.2.2.2.2.2.2.2.2.2.2.2.2.2.1 v.2.2.2.2.2.2.2.2.2.2.2.2.2.2.2.1 v.2.2.2.2.2.2.2.2.2.2.2.2.2.2.2.2.1 v.2.2.2.2.2.2.2.2.2.2.2.2.2.2.2.2.2.1 v.2.2.2.2.2.2.2.2.2.2.2.2.2.2.2.2.2.2.1 v.2.2.2.2.2.2.2.2.2.2.2.2.2.2.2.2.2.2.2.1 v.2.2.2.2.2.2.2.2.2.2.2.2.2.2.2.2.2.2.2.2.1 v.2.2.2.2.2.2.2.2.2.2.2.2.2.2.2.2.2.2.2.2.2.1 v.2.2.2.2.2.2.2.2.2.2.2.2.2.2.2.2.2.2.2.2.2.2.1 v.2.2.2.2.2.2.2.2.2.2.2.2.2.2.2.2.2.2.2.2.2.2.2.1 v.2.2.2.2.2.2.2.2.2.2.2.2.2.2.2.2.2.2.2.2.2.2.2.2.1 v.2.2.2.2.2.2.2.2.2.2.2.2.2.2.2.2.2.2.2.2.2.2.2.2.2.1 v.2.2.2.2.2.2.2.2.2.2.2.2.2.2.2.2.2.2.2.2.2.2.2.2.2.2.1 v.2.2.2.2.2.2.2.2.2.2.2.2.2.2.2.2.2.2.2.2.2.2.2.2.2.2.2.1 v.2.2.2.2.2.2.2.2.2.2.2.2.2.2.2.2.2.2.2.2.2.2.2.2.2.2.2.2.1 v.2.2.2.2.2.2.2.2.2.2.2.2.2.2.2.2.2.2.2.2.2.2.2.2.2.2.2.2.2.1 v.2.2.2.2.2.2.2.2.2.2.2.2.2.2.2.2.2.2.2.2.2.2.2.2.2.2.2.2.2.2.1 v.2.2.2.2.2.2.2.2.2.2.2.2.2.2.2.2.2.2.2.2.2.2.2.2.2.2.2.2.2.2.2.1 v.2.2.2.2.2.2.2.2.2.2.2.2.2.2.2.2.2.2.2.2.2.2.2.2.2.2.2.2.2.2.2.2.1 v.2.2.2.2.2.2.2.2.2.2.2.2.2.2.2.2.2.2.2.2.2.2.2.2.2.2.2.2.2.2.2.2.2.1 v.2.2.2.2.2.2.2.2.2.2.2.2.2.2.2.2.2.2.2.2.2.2.2.2.2.2.2.2.2.2.2.2.2.2.1 v.2.2.2.2.2.2.2.2.2.2.2.2.2.2.2.2.2.2.2.2.2.2.2.2.2.2.2.2.2.2.2.2.2.2.2.1 v.2.2.2.2.2.2.2.2.2.2.2.2.2.2.2.2.2.2.2.2.2.2.2.2.2.2.2.2.2.2.2.2.2.2.2.2.1 v.2.2.2.2.2.2.2.2.2.2.2.2.2.2.2.2.2.2.2.2.2.2.2.2.2.2.2.2.2.2.2.2.2.2.2.2.2.1 v.2.2.2.2.2.2.2.2.2.2.2.2.2.2.2.2.2.2.2.2.2.2.2.2.2.2.2.2.2.2.2.2.2.2.2.2.2.2.1 v.2.2.2.2.2.2.2.2.2.2.2.2.2.2.2.2.2.2.2.2.2.2.2.2.2.2.2.2.2.2.2.2.2.2.2.2.2.2.2.1 v.2.2.2.2.2.2.2.2.2.2.2.2.2.2.2.2.2.2.2.2.2.2.2.2.2.2.2.2.2.2.2.2.2.2.2.2.2.2.2.2.1 v.2.2.2.2.2.2.2.2.2.2.2.2.2.2.2.2.2.2.2.2.2.2.2.2.2.2.2.2.2.2.2.2.2.2.2.2.2.2.2.2.2.1 v.2.2.2.2.2.2.2.2.2.2.2.2.2.2.2.2.2.2.2.2.2.2.2.2.2.2.2.2.2.2.2.2.2.2.2.2.2.2.2.2.2.2.1 v.2.2.2.2.2.2.2.2.2.2.2.2.2.2.2.2.2.2.2.2.2.2.2.2.2.2.2.2.2.2.2.2.2.2.2.2.2.2.2.2.2.2.2.1 v.2.2.2.2.2.2.2.2.2.2.2.2.2.2.2.2.2.2.2.2.2.2.2.2.2.2.2.2.2.2.2.2.2.2.2.2.2.2.2.2.2.2.2.2.1 v.2.2.2.2.2.2.2.2.2.2.2.2.2.2.2.2.2.2.2.2.2.2.2.2.2.2.2.2.2.2.2.2.2.2.2.2.2.2.2.2.2.2.2.2.2.1 v.2.2.2.2.2.2.2.2.2.2.2.2.2.2.2.2.2.2.2.2.2.2.2.2.2.2.2.2.2.2.2.2.2.2.2.2.2.2.2.2.2.2.2.2.2.2.1 v.2.2.2.2.2.2.2.2.2.2.2.2.2.2.2.2.2.2.2.2.2.2.2.2.2.2.2.2.2.2.2.2.2.2.2.2.2.2.2.2.2.2.2.2.2.2.2.1 v.2.2.2.2.2.2.2.2.2.2.2.2.2.2.2.2.2.2.2.2.2.2.2.2.2.2.2.2.2.2.2.2.2.2.2.2.2.2.2.2.2.2.2.2.2.2.2.2.1 v.2.2.2.2.2.2.2.2.2.2.2.2.2.2.2.2.2.2.2.2.2.2.2.2.2.2.2.2.2.2.2.2.2.2.2.2.2.2.2.2.2.2.2.2.2.2.2.2.2.1 v.2.2.2.2.2.2.2.2.2.2.2.2.2.2.2.2.2.2.2.2.2.2.2.2.2.2.2.2.2.2.2.2.2.2.2.2.2.2.2.2.2.2.2.2.2.2.2.2.2.2.1 v.2.2.2.2.2.2.2.2.2.2.2.2.2.2.2.2.2.2.2.2.2.2.2.2.2.2.2.2.2.2.2.2.2.2.2.2.2.2.2.2.2.2.2.2.2.2.2.2.2.2.2.1 v.2.2.2.2.2.2.2.2.2.2.2.2.2.2.2.2.2.2.2.2.2.2.2.2.2.2.2.2.2.2.2.2.2.2.2.2.2.2.2.2.2.2.2.2.2.2.2.2.2.2.2.2.1 v.2.2.2.2.2.2.2.2.2.2.2.2.2.2.2.2.2.2.2.2.2.2.2.2.2.2.2.2.2.2.2.2.2.2.2.2.2.2.2.2.2.2.2.2.2.2.2.2.2.2.2.2.2.1 v.2.2.2.2.2.2.2.2.2.2.2.2.2.2.2.2.2.2.2.2.2.2.2.2.2.2.2.2.2.2.2.2.2.2.2.2.2.2.2.2.2.2.2.2.2.2.2.2.2.2.2.2.2.2.1 v.2.2.2.2.2.2.2.2.2.2.2.2.2.2.2.2.2.2.2.2.2.2.2.2.2.2.2.2.2.2.2.2.2.2.2.2.2.2.2.2.2.2.2.2.2.2.2.2.2.2.2.2.2.2.2.1 v.2.2.2.2.2.2.2.2.2.2.2.2.2.2.2.2.2.2.2.2.2.2.2.2.2.2.2.2.2.2.2.2.2.2.2.2.2.2.2.2.2.2.2.2.2.2.2.2.2.2.2.2.2.2.2.2.1 v.2.2.2.2.2.2.2.2.2.2.2.2.2.2.2.2.2.2.2.2.2.2.2.2.2.2.2.2.2.2.2.2.2.2.2.2.2.2.2.2.2.2.2.2.2.2.2.2.2.2.2.2.2.2.2.2.2.1 v.2.2.2.2.2.2.2.2.2.2.2.2.2.2.2.2.2.2.2.2.2.2.2.2.2.2.2.2.2.2.2.2.2.2.2.2.2.2.2.2.2.2.2.2.2.2.2.2.2.2.2.2.2.2.2.2.2.2)).1
noncomputable def dp : Nat := qk.2.2.2.2.2.1
noncomputable def aL : Nat := qk.2.2.2.2.2.2.2.2.2.2.2.2.2.2.2.2.2.2.2.2.2.2.2.2.2.2.2.2.2.2.2.2.2.2.2.2.2.2.2.2.2.2.2.1
noncomputable def t : Tok := qk.2.2.2.2.2.2.2.2.2.2.2.2.2.2.2.2.2.2.2.2.2.2.2.2.2.2.2.2.2.2.2.2.2.2.2.2.2.2.2.2.2.2.2.2.2.2.2.2.1
theorem qA (h : qP qk.1 qk.2.1 qk.2.2.1 qk.2.2.2.1 qk.2.2.2.2.1 dp qk.2.2.2.2.2.2.1 qk.2.2.2.2.2.2.2.1 qk.2.2.2.2.2.2.2.2.1 qk.2.2.2.2.2.2.2.2.2.1 qk.2.2.2.2.2.2.2.2.2.2.1 qk.2.2.2.2.2.2.2.2.2.2.2.1 qk.2.2.2.2.2.2.2.2.2.2.2.2.1 qk.2.2.2.2.2.2.2.2.2.2.2.2.2.1 qk.2.2.2.2.2.2.2.2.2.2.2.2.2.2.1 qk.2.2.2.2.2.2.2.2.2.2.2.2.2.2.2.1 qk.2.2.2.2.2.2.2.2.2.2.2.2.2.2.2.2.1 qk.2.2.2.2.2.2.2.2.2.2.2.2.2.2.2.2.2.1 qk.2.2.2.2.2.2.2.2.2.2.2.2.2.2.2.2.2.2.1 qk.2.2.2.2.2.2.2.2.2.2.2.2.2.2.2.2.2.2.2.1 qk.2.2.2.2.2.2.2.2.2.2.2.2.2.2.2.2.2.2.2.2.1 qk.2.2.2.2.2.2.2.2.2.2.2.2.2.2.2.2.2.2.2.2.2.1 qk.2.2.2.2.2.2.2.2.2.2.2.2.2.2.2.2.2.2.2.2.2.2.1 qk.2.2.2.2.2.2.2.2.2.2.2.2.2.2.2.2.2.2.2.2.2.2.2.1 qk.2.2.2.2.2.2.2.2.2.2.2.2.2.2.2.2.2.2.2.2.2.2.2.2.1 qk.2.2.2.2.2.2.2.2.2.2.2.2.2.2.2.2.2.2.2.2.2.2.2.2.2.1 qk.2.2.2.2.2.2.2.2.2.2.2.2.2.2.2.2.2.2.2.2.2.2.2.2.2.2.1 qk.2.2.2.2.2.2.2.2.2.2.2.2.2.2.2.2.2.2.2.2.2.2.2.2.2.2.2.1 qk.2.2.2.2.2.2.2.2.2.2.2.2.2.2.2.2.2.2.2.2.2.2.2.2.2.2.2.2.1 qk.2.2.2.2.2.2.2.2.2.2.2.2.2.2.2.2.2.2.2.2.2.2.2.2.2.2.2.2.2.1 qk.2.2.2.2.2.2.2.2.2.2.2.2.2.2.2.2.2.2.2.2.2.2.2.2.2.2.2.2.2.2.1 qk.2.2.2.2.2.2.2.2.2.2.2.2.2.2.2.2.2.2.2.2.2.2.2.2.2.2.2.2.2.2.2.1 qk.2.2.2.2.2.2.2.2.2.2.2.2.2.2.2.2.2.2.2.2.2.2.2.2.2.2.2.2.2.2.2.2.1 qk.2.2.2.2.2.2.2.2.2.2.2.2.2.2.2.2.2.2.2.2.2.2.2.2.2.2.2.2.2.2.2.2.2.1 qk.2.2.2.2.2.2.2.2.2.2.2.2.2.2.2.2.2.2.2.2.2.2.2.2.2.2.2.2.2.2.2.2.2.2.1 qk.2.2.2.2.2.2.2.2.2.2.2.2.2.2.2.2.2.2.2.2.2.2.2.2.2.2.2.2.2.2.2.2.2.2.2.1 qk.2.2.2.2.2.2.2.2.2.2.2.2.2.2.2.2.2.2.2.2.2.2.2.2.2.2.2.2.2.2.2.2.2.2.2.2.1 qk.2.2.2.2.2.2.2.2.2.2.2.2.2.2.2.2.2.2.2.2.2.2.2.2.2.2.2.2.2.2.2.2.2.2.2.2.2.1 qk.2.2.2.2.2.2.2.2.2.2.2.2.2.2.2.2.2.2.2.2.2.2.2.2.2.2.2.2.2.2.2.2.2.2.2.2.2.2.1 qk.2.2.2.2.2.2.2.2.2.2.2.2.2.2.2.2.2.2.2.2.2.2.2.2.2.2.2.2.2.2.2.2.2.2.2.2.2.2.2.1 qk.2.2.2.2.2.2.2.2.2.2.2.2.2.2.2.2.2.2.2.2.2.2.2.2.2.2.2.2.2.2.2.2.2.2.2.2.2.2.2.2.1 qk.2.2.2.2.2.2.2.2.2.2.2.2.2.2.2.2.2.2.2.2.2.2.2.2.2.2.2.2.2.2.2.2.2.2.2.2.2.2.2.2.2.1 qk.2.2.2.2.2.2.2.2.2.2.2.2.2.2.2.2.2.2.2.2.2.2.2.2.2.2.2.2.2.2.2.2.2.2.2.2.2.2.2.2.2.2.1 aL qk.2.2.2.2.2.2.2.2.2.2.2.2.2.2.2.2.2.2.2.2.2.2.2.2.2.2.2.2.2.2.2.2.2.2.2.2.2.2.2.2.2.2.2.2.1 qk.2.2.2.2.2.2.2.2.2.2.2.2.2.2.2.2.2.2.2.2.2.2.2.2.2.2.2.2.2.2.2.2.2.2.2.2.2.2.2.2.2.2.2.2.2.1 qk.2.2.2.2.2.2.2.2.2.2.2.2.2.2.2.2.2.2.2.2.2.2.2.2.2.2.2.2.2.2.2.2.2.2.2.2.2.2.2.2.2.2.2.2.2.2.1 qk.2.2.2.2.2.2.2.2.2.2.2.2.2.2.2.2.2.2.2.2.2.2.2.2.2.2.2.2.2.2.2.2.2.2.2.2.2.2.2.2.2.2.2.2.2.2.2.1 t qk.2.2.2.2.2.2.2.2.2.2.2.2.2.2.2.2.2.2.2.2.2.2.2.2.2.2.2.2.2.2.2.2.2.2.2.2.2.2.2.2.2.2.2.2.2.2.2.2.2.1 qk.2.2.2.2.2.2.2.2.2.2.2.2.2.2.2.2.2.2.2.2.2.2.2.2.2.2.2.2.2.2.2.2.2.2.2.2.2.2.2.2.2.2.2.2.2.2.2.2.2.2.1 qk.2.2.2.2.2.2.2.2.2.2.2.2.2.2.2.2.2.2.2.2.2.2.2.2.2.2.2.2.2.2.2.2.2.2.2.2.2.2.2.2.2.2.2.2.2.2.2.2.2.2.2.1 qk.2.2.2.2.2.2.2.2.2.2.2.2.2.2.2.2.2.2.2.2.2.2.2.2.2.2.2.2.2.2.2.2.2.2.2.2.2.2.2.2.2.2.2.2.2.2.2.2.2.2.2.2.1 qk.2.2.2.2.2.2.2.2.2.2.2.2.2.2.2.2.2.2.2.2.2.2.2.2.2.2.2.2.2.2.2.2.2.2.2.2.2.2.2.2.2.2.2.2.2.2.2.2.2.2.2.2.2.1 qk.2.2.2.2.2.2.2.2.2.2.2.2.2.2.2.2.2.2.2.2.2.2.2.2.2.2.2.2.2.2.2.2.2.2.2.2.2.2.2.2.2.2.2.2.2.2.2.2.2.2.2.2.2.2.1 qk.2.2.2.2.2.2.2.2.2.2.2.2.2.2.2.2.2.2.2.2.2.2.2.2.2.2.2.2.2.2.2.2.2.2.2.2.2.2.2.2.2.2.2.2.2.2.2.2.2.2.2.2.2.2.2.1 qk.2.2.2.2.2.2.2.2.2.2.2.2.2.2.2.2.2.2.2.2.2.2.2.2.2.2.2.2.2.2.2.2.2.2.2.2.2.2.2.2.2.2.2.2.2.2.2.2.2.2.2.2.2.2.2.2.1 qk.2.2.2.2.2.2.2.2.2.2.2.2.2.2.2.2.2.2.2.2.2.2.2.2.2.2.2.2.2.2.2.2.2.2.2.2.2.2.2.2.2.2.2.2.2.2.2.2.2.2.2.2.2.2.2.2.2.1 qk.2.2.2.2.2.2.2.2.2.2.2.2.2.2.2.2.2.2.2.2.2.2.2.2.2.2.2.2.2.2.2.2.2.2.2.2.2.2.2.2.2.2.2.2.2.2.2.2.2.2.2.2.2.2.2.2.2.2) (w : World) (lo : List Str) (me : ExcName → Option Value) (mg : Str → Option Value) (mb : Str → Option Value) (dp : Nat) (fr : Option (List Env)) (gd : Option (List Code)) (un : Nat) (s : Shared) (h₀ : Heap) (q1 : Pos) (q2 : Pos) (q3 : Pos) (q4 : Pos) (q5 : Pos) (q6 : Pos) (q7 : Pos) (q8 : Pos) (q9 : Pos) (r1 : Pos) (r2 : Pos) (r3 : Pos) (r4 : Pos) (r5 : Pos) (r6 : Pos) (r7 : Pos) (r8 : Pos) (r9 : Pos) (u1 : Pos) (u2 : Pos) (u3 : Pos) (u4 : Pos) (u5 : Pos) (u6 : Pos) (u7 : Pos) (u8 : Pos) (u9 : Pos) (k1 : Nat) (k2 : Nat) (k3 : Nat) (k4 : Nat) (f : Nat) (aL : Nat) (cA : Nat) (cP : Nat) (n : Nat) (tk : Tok) (t : Tok) (tp : Tok) (oA : Obj) (oP : Obj) (fo : Obj) (nm : Str) (qual : Str) (doc : Value) (pm : Value) (cdv : Value) (ct : Value) : qP w lo me mg mb dp fr gd un s h₀ q1 q2 q3 q4 q5 q6 q7 q8 q9 r1 r2 r3 r4 r5 r6 r7 r8 r9 u1 u2 u3 u4 u5 u6 u7 u8 u9 k1 k2 k3 k4 f aL cA cP n tk t tp oA oP fo nm qual doc pm cdv ct := (Classical.choice (drink qN fun v => qP v.1 v.2.1 v.2.2.1 v.2.2.2.1 v.2.2.2.2.1 v.2.2.2.2.2.1 v.2.2.2.2.2.2.1 v.2.2.2.2.2.2.2.1 v.2.2.2.2.2.2.2.2.1 v.2.2.2.2.2.2.2.2.2.1 v.2.2.2.2.2.2.2.2.2.2.1 v.2.2.2.2.2.2.2.2.2.2.2.1 v.2.2.2.2.2.2.2.2.2.2.2.2.1 v.2.2.2.2.2.2.2.2.2.2.2.2.2.1 v.2.2.2.2.2.2.2.2.2.2.2.2.2.2.1 v.2.2.2.2.2.2.2.2.2.2.2.2.2.2.2.1 v.2.2.2.2.2.2.2.2.2.2.2.2.2.2.2.2.1 v.2.2.2.2.2.2.2.2.2.2.2.2.2.2.2.2.2.1 v.2.2.2.2.2.2.2.2.2.2.2.2.2.2.2.2.2.2.1 v.2.2.2.2.2.2.2.2.2.2.2.2.2.2.2.2.2.2.2.1 v.2.2.2.2.2.2.2.2.2.2.2.2.2.2.2.2.2.2.2.2.1 v.2.2.2.2.2.2.2.2.2.2.2.2.2.2.2.2.2.2.2.2.2.1 v.2.2.2.2.2.2.2.2.2.2.2.2.2.2.2.2.2.2.2.2.2.2.1 v.2.2.2.2.2.2.2.2.2.2.2.2.2.2.2.2.2.2.2.2.2.2.2.1 v.2.2.2.2.2.2.2.2.2.2.2.2.2.2.2.2.2.2.2.2.2.2.2.2.1 v.2.2.2.2.2.2.2.2.2.2.2.2.2.2.2.2.2.2.2.2.2.2.2.2.2.1 v.2.2.2.2.2.2.2.2.2.2.2.2.2.2.2.2.2.2.2.2.2.2.2.2.2.2.1 v.2.2.2.2.2.2.2.2.2.2.2.2.2.2.2.2.2.2.2.2.2.2.2.2.2.2.2.1 v.2.2.2.2.2.2.2.2.2.2.2.2.2.2.2.2.2.2.2.2.2.2.2.2.2.2.2.2.1 v.2.2.2.2.2.2.2.2.2.2.2.2.2.2.2.2.2.2.2.2.2.2.2.2.2.2.2.2.2.1 v.2.2.2.2.2.2.2.2.2.2.2.2.2.2.2.2.2.2.2.2.2.2.2.2.2.2.2.2.2.2.1 v.2.2.2.2.2.2.2.2.2.2.2.2.2.2.2.2.2.2.2.2.2.2.2.2.2.2.2.2.2.2.2.1 v.2.2.2.2.2.2.2.2.2.2.2.2.2.2.2.2.2.2.2.2.2.2.2.2.2.2.2.2.2.2.2.2.1 v.2.2.2.2.2.2.2.2.2.2.2.2.2.2.2.2.2.2.2.2.2.2.2.2.2.2.2.2.2.2.2.2.2.1 v.2.2.2.2.2.2.2.2.2.2.2.2.2.2.2.2.2.2.2.2.2.2.2.2.2.2.2.2.2.2.2.2.2.2.1 v.2.2.2.2.2.2.2.2.2.2.2.2.2.2.2.2.2.2.2.2.2.2.2.2.2.2.2.2.2.2.2.2.2.2.2.1 v.2.2.2.2.2.2.2.2.2.2.2.2.2.2.2.2.2.2.2.2.2.2.2.2.2.2.2.2.2.2.2.2.2.2.2.2.1 v.2.2.2.2.2.2.2.2.2.2.2.2.2.2.2.2.2.2.2.2.2.2.2.2.2.2.2.2.2.2.2.2.2.2.2.2.2.1 v.2.2.2.2.2.2.2.2.2.2.2.2.2.2.2.2.2.2.2.2.2.2.2.2.2.2.2.2.2.2.2.2.2.2.2.2.2.2.1 v.2.2.2.2.2.2.2.2.2.2.2.2.2.2.2.2.2.2.2.2.2.2.2.2.2.2.2.2.2.2.2.2.2.2.2.2.2.2.2.1 v.2.2.2.2.2.2.2.2.2.2.2.2.2.2.2.2.2.2.2.2.2.2.2.2.2.2.2.2.2.2.2.2.2.2.2.2.2.2.2.2.1 v.2.2.2.2.2.2.2.2.2.2.2.2.2.2.2.2.2.2.2.2.2.2.2.2.2.2.2.2.2.2.2.2.2.2.2.2.2.2.2.2.2.1 v.2.2.2.2.2.2.2.2.2.2.2.2.2.2.2.2.2.2.2.2.2.2.2.2.2.2.2.2.2.2.2.2.2.2.2.2.2.2.2.2.2.2.1 v.2.2.2.2.2.2.2.2.2.2.2.2.2.2.2.2.2.2.2.2.2.2.2.2.2.2.2.2.2.2.2.2.2.2.2.2.2.2.2.2.2.2.2.1 v.2.2.2.2.2.2.2.2.2.2.2.2.2.2.2.2.2.2.2.2.2.2.2.2.2.2.2.2.2.2.2.2.2.2.2.2.2.2.2.2.2.2.2.2.1 v.2.2.2.2.2.2.2.2.2.2.2.2.2.2.2.2.2.2.2.2.2.2.2.2.2.2.2.2.2.2.2.2.2.2.2.2.2.2.2.2.2.2.2.2.2.1 v.2.2.2.2.2.2.2.2.2.2.2.2.2.2.2.2.2.2.2.2.2.2.2.2.2.2.2.2.2.2.2.2.2.2.2.2.2.2.2.2.2.2.2.2.2.2.1 v.2.2.2.2.2.2.2.2.2.2.2.2.2.2.2.2.2.2.2.2.2.2.2.2.2.2.2.2.2.2.2.2.2.2.2.2.2.2.2.2.2.2.2.2.2.2.2.1 v.2.2.2.2.2.2.2.2.2.2.2.2.2.2.2.2.2.2.2.2.2.2.2.2.2.2.2.2.2.2.2.2.2.2.2.2.2.2.2.2.2.2.2.2.2.2.2.2.1 v.2.2.2.2.2.2.2.2.2.2.2.2.2.2.2.2.2.2.2.2.2.2.2.2.2.2.2.2.2.2.2.2.2.2.2.2.2.2.2.2.2.2.2.2.2.2.2.2.2.1 v.2.2.2.2.2.2.2.2.2.2.2.2.2.2.2.2.2.2.2.2.2.2.2.2.2.2.2.2.2.2.2.2.2.2.2.2.2.2.2.2.2.2.2.2.2.2.2.2.2.2.1 v.2.2.2.2.2.2.2.2.2.2.2.2.2.2.2.2.2.2.2.2.2.2.2.2.2.2.2.2.2.2.2.2.2.2.2.2.2.2.2.2.2.2.2.2.2.2.2.2.2.2.2.1 v.2.2.2.2.2.2.2.2.2.2.2.2.2.2.2.2.2.2.2.2.2.2.2.2.2.2.2.2.2.2.2.2.2.2.2.2.2.2.2.2.2.2.2.2.2.2.2.2.2.2.2.2.1 v.2.2.2.2.2.2.2.2.2.2.2.2.2.2.2.2.2.2.2.2.2.2.2.2.2.2.2.2.2.2.2.2.2.2.2.2.2.2.2.2.2.2.2.2.2.2.2.2.2.2.2.2.2.1 v.2.2.2.2.2.2.2.2.2.2.2.2.2.2.2.2.2.2.2.2.2.2.2.2.2.2.2.2.2.2.2.2.2.2.2.2.2.2.2.2.2.2.2.2.2.2.2.2.2.2.2.2.2.2.1 v.2.2.2.2.2.2.2.2.2.2.2.2.2.2.2.2.2.2.2.2.2.2.2.2.2.2.2.2.2.2.2.2.2.2.2.2.2.2.2.2.2.2.2.2.2.2.2.2.2.2.2.2.2.2.2.1 v.2.2.2.2.2.2.2.2.2.2.2.2.2.2.2.2.2.2.2.2.2.2.2.2.2.2.2.2.2.2.2.2.2.2.2.2.2.2.2.2.2.2.2.2.2.2.2.2.2.2.2.2.2.2.2.2.1 v.2.2.2.2.2.2.2.2.2.2.2.2.2.2.2.2.2.2.2.2.2.2.2.2.2.2.2.2.2.2.2.2.2.2.2.2.2.2.2.2.2.2.2.2.2.2.2.2.2.2.2.2.2.2.2.2.2.1 v.2.2.2.2.2.2.2.2.2.2.2.2.2.2.2.2.2.2.2.2.2.2.2.2.2.2.2.2.2.2.2.2.2.2.2.2.2.2.2.2.2.2.2.2.2.2.2.2.2.2.2.2.2.2.2.2.2.2)).2 h (w, lo, me, mg, mb, dp, fr, gd, un, s, h₀, q1, q2, q3, q4, q5, q6, q7, q8, q9, r1, r2, r3, r4, r5, r6, r7, r8, r9, u1, u2, u3, u4, u5, u6, u7, u8, u9, k1, k2, k3, k4, f, aL, cA, cP, n, tk, t, tp, oA, oP, fo, nm, qual, doc, pm, cdv, ct)
set_option maxHeartbeats 1000000 in
theorem qW : qP qk.1 qk.2.1 qk.2.2.1 qk.2.2.2.1 qk.2.2.2.2.1 dp qk.2.2.2.2.2.2.1 qk.2.2.2.2.2.2.2.1 qk.2.2.2.2.2.2.2.2.1 qk.2.2.2.2.2.2.2.2.2.1 qk.2.2.2.2.2.2.2.2.2.2.1 qk.2.2.2.2.2.2.2.2.2.2.2.1 qk.2.2.2.2.2.2.2.2.2.2.2.2.1 qk.2.2.2.2.2.2.2.2.2.2.2.2.2.1 qk.2.2.2.2.2.2.2.2.2.2.2.2.2.2.1 qk.2.2.2.2.2.2.2.2.2.2.2.2.2.2.2.1 qk.2.2.2.2.2.2.2.2.2.2.2.2.2.2.2.2.1 qk.2.2.2.2.2.2.2.2.2.2.2.2.2.2.2.2.2.1 qk.2.2.2.2.2.2.2.2.2.2.2.2.2.2.2.2.2.2.1 qk.2.2.2.2.2.2.2.2.2.2.2.2.2.2.2.2.2.2.2.1 qk.2.2.2.2.2.2.2.2.2.2.2.2.2.2.2.2.2.2.2.2.1 qk.2.2.2.2.2.2.2.2.2.2.2.2.2.2.2.2.2.2.2.2.2.1 qk.2.2.2.2.2.2.2.2.2.2.2.2.2.2.2.2.2.2.2.2.2.2.1 qk.2.2.2.2.2.2.2.2.2.2.2.2.2.2.2.2.2.2.2.2.2.2.2.1 qk.2.2.2.2.2.2.2.2.2.2.2.2.2.2.2.2.2.2.2.2.2.2.2.2.1 qk.2.2.2.2.2.2.2.2.2.2.2.2.2.2.2.2.2.2.2.2.2.2.2.2.2.1 qk.2.2.2.2.2.2.2.2.2.2.2.2.2.2.2.2.2.2.2.2.2.2.2.2.2.2.1 qk.2.2.2.2.2.2.2.2.2.2.2.2.2.2.2.2.2.2.2.2.2.2.2.2.2.2.2.1 qk.2.2.2.2.2.2.2.2.2.2.2.2.2.2.2.2.2.2.2.2.2.2.2.2.2.2.2.2.1 qk.2.2.2.2.2.2.2.2.2.2.2.2.2.2.2.2.2.2.2.2.2.2.2.2.2.2.2.2.2.1 qk.2.2.2.2.2.2.2.2.2.2.2.2.2.2.2.2.2.2.2.2.2.2.2.2.2.2.2.2.2.2.1 qk.2.2.2.2.2.2.2.2.2.2.2.2.2.2.2.2.2.2.2.2.2.2.2.2.2.2.2.2.2.2.2.1 qk.2.2.2.2.2.2.2.2.2.2.2.2.2.2.2.2.2.2.2.2.2.2.2.2.2.2.2.2.2.2.2.2.1 qk.2.2.2.2.2.2.2.2.2.2.2.2.2.2.2.2.2.2.2.2.2.2.2.2.2.2.2.2.2.2.2.2.2.1 qk.2.2.2.2.2.2.2.2.2.2.2.2.2.2.2.2.2.2.2.2.2.2.2.2.2.2.2.2.2.2.2.2.2.2.1 qk.2.2.2.2.2.2.2.2.2.2.2.2.2.2.2.2.2.2.2.2.2.2.2.2.2.2.2.2.2.2.2.2.2.2.2.1 qk.2.2.2.2.2.2.2.2.2.2.2.2.2.2.2.2.2.2.2.2.2.2.2.2.2.2.2.2.2.2.2.2.2.2.2.2.1 qk.2.2.2.2.2.2.2.2.2.2.2.2.2.2.2.2.2.2.2.2.2.2.2.2.2.2.2.2.2.2.2.2.2.2.2.2.2.1 qk.2.2.2.2.2.2.2.2.2.2.2.2.2.2.2.2.2.2.2.2.2.2.2.2.2.2.2.2.2.2.2.2.2.2.2.2.2.2.1 qk.2.2.2.2.2.2.2.2.2.2.2.2.2.2.2.2.2.2.2.2.2.2.2.2.2.2.2.2.2.2.2.2.2.2.2.2.2.2.2.1 qk.2.2.2.2.2.2.2.2.2.2.2.2.2.2.2.2.2.2.2.2.2.2.2.2.2.2.2.2.2.2.2.2.2.2.2.2.2.2.2.2.1 qk.2.2.2.2.2.2.2.2.2.2.2.2.2.2.2.2.2.2.2.2.2.2.2.2.2.2.2.2.2.2.2.2.2.2.2.2.2.2.2.2.2.1 qk.2.2.2.2.2.2.2.2.2.2.2.2.2.2.2.2.2.2.2.2.2.2.2.2.2.2.2.2.2.2.2.2.2.2.2.2.2.2.2.2.2.2.1 aL qk.2.2.2.2.2.2.2.2.2.2.2.2.2.2.2.2.2.2.2.2.2.2.2.2.2.2.2.2.2.2.2.2.2.2.2.2.2.2.2.2.2.2.2.2.1 qk.2.2.2.2.2.2.2.2.2.2.2.2.2.2.2.2.2.2.2.2.2.2.2.2.2.2.2.2.2.2.2.2.2.2.2.2.2.2.2.2.2.2.2.2.2.1 qk.2.2.2.2.2.2.2.2.2.2.2.2.2.2.2.2.2.2.2.2.2.2.2.2.2.2.2.2.2.2.2.2.2.2.2.2.2.2.2.2.2.2.2.2.2.2.1 qk.2.2.2.2.2.2.2.2.2.2.2.2.2.2.2.2.2.2.2.2.2.2.2.2.2.2.2.2.2.2.2.2.2.2.2.2.2.2.2.2.2.2.2.2.2.2.2.1 t qk.2.2.2.2.2.2.2.2.2.2.2.2.2.2.2.2.2.2.2.2.2.2.2.2.2.2.2.2.2.2.2.2.2.2.2.2.2.2.2.2.2.2.2.2.2.2.2.2.2.1 qk.2.2.2.2.2.2.2.2.2.2.2.2.2.2.2.2.2.2.2.2.2.2.2.2.2.2.2.2.2.2.2.2.2.2.2.2.2.2.2.2.2.2.2.2.2.2.2.2.2.2.1 qk.2.2.2.2.2.2.2.2.2.2.2.2.2.2.2.2.2.2.2.2.2.2.2.2.2.2.2.2.2.2.2.2.2.2.2.2.2.2.2.2.2.2.2.2.2.2.2.2.2.2.2.1 qk.2.2.2.2.2.2.2.2.2.2.2.2.2.2.2.2.2.2.2.2.2.2.2.2.2.2.2.2.2.2.2.2.2.2.2.2.2.2.2.2.2.2.2.2.2.2.2.2.2.2.2.2.1 qk.2.2.2.2.2.2.2.2.2.2.2.2.2.2.2.2.2.2.2.2.2.2.2.2.2.2.2.2.2.2.2.2.2.2.2.2.2.2.2.2.2.2.2.2.2.2.2.2.2.2.2.2.2.1 qk.2.2.2.2.2.2.2.2.2.2.2.2.2.2.2.2.2.2.2.2.2.2.2.2.2.2.2.2.2.2.2.2.2.2.2.2.2.2.2.2.2.2.2.2.2.2.2.2.2.2.2.2.2.2.1 qk.2.2.2.2.2.2.2.2.2.2.2.2.2.2.2.2.2.2.2.2.2.2.2.2.2.2.2.2.2.2.2.2.2.2.2.2.2.2.2.2.2.2.2.2.2.2.2.2.2.2.2.2.2.2.2.1 qk.2.2.2.2.2.2.2.2.2.2.2.2.2.2.2.2.2.2.2.2.2.2.2.2.2.2.2.2.2.2.2.2.2.2.2.2.2.2.2.2.2.2.2.2.2.2.2.2.2.2.2.2.2.2.2.2.1 qk.2.2.2.2.2.2.2.2.2.2.2.2.2.2.2.2.2.2.2.2.2.2.2.2.2.2.2.2.2.2.2.2.2.2.2.2.2.2.2.2.2.2.2.2.2.2.2.2.2.2.2.2.2.2.2.2.2.1 qk.2.2.2.2.2.2.2.2.2.2.2.2.2.2.2.2.2.2.2.2.2.2.2.2.2.2.2.2.2.2.2.2.2.2.2.2.2.2.2.2.2.2.2.2.2.2.2.2.2.2.2.2.2.2.2.2.2.2 := by
  intro k page g hd0 hu hk hpl hA hP o1 o2 ho hd hcd
  have hd' : dp + 2 < recursionLimit := hd0
  have X := g.hid.X
  have T := g.hid.T
  (refine' enterX (args := ⟨[.int 1 t], []⟩) T g.at' ?k8 ho hd hcd ?k9 ?kB ?_ ?c2 ?c3 ?c4 ?c5)
  case k8 => exact (show dp < recursionLimit by omega)
  case k9 => exact BindsTo.of_eq rfl
  case c5 => decide
  case kB => exact locs rfl
  case c2 => exact rfl
  case c3 => exact rfl
  case c4 => exact rfl
  intro h1 F N
  clear hd0 hu hd ho hcd
  k_steps
  rename News _ _ _ _ => N9
  rename Fr _ _ _ _ => F9
  have kk := fin_keep g.at' F9 N9 [aL] (List.forall_mem_cons.mpr ⟨.inl (.head _), List.forall_mem_cons.mpr ⟨.inr (.tail _ (.head _)), List.forall_mem_cons.mpr ⟨.inr (.tail _ (.tail _ (.head _))), List.forall_mem_nil _⟩⟩⟩)
  exact ⟨_, _, _, _, _, rfl, rfl, fun b o hb => kk b o (fun hm => hb (List.mem_singleton.mp hm)), (N9 _ (.head _)).1⟩
end RCC
end
section
variable {w : World} {lo : List Str} {me : ExcName → Option Value} {mg mb : Str → Option Value} {A : Around} {s : Shared} {h₀ : Heap} {q1 q2 q3 q4 q5 q6 q7 q8 q9 r1 r2 r3 r4 r5 r6 r7 r8 r9 u1 u2 u3 u4 u5 u6 u7 u8 u9 : Pos} {k1 k2 k3 k4 : Nat}
theorem read_c {f aL cA cP k n : Nat} {tk t tp : Tok} {oA oP fo : Obj} {page nm qual : Str} {doc pm cdv ct : Value} (g : Got w lo me mg mb h₀ s.heap [(aL, listOf #[.int k tk] n), (cA, oA), (cP, oP)]) (R : Rm A 2 20) (hk : k ≤ 100) (hpl : page.length ≤ 100)
    (hA : oA.data = .cell (some (.ref aL))) (hP : oP.data = .cell (some (.str page tp))) (o1 : cA < aL) (o2 : cP < aL)
    (ho : s.heap.get? f = some fo) (hd : fo.data = .func (fnX nm qual { posonlyargs := [], args := [{ arg := "size", annotation := none, pos := q1 }], vararg := none, kwonlyargs := [], kw_defaults := [], kwarg := none, defaults := [] }
      [.Assign [.Name "sign" q2] (.Subscript (.Name "page" q3) (.Slice (some (.Subscript (.Name "at" q4) (.Constant (.int 0) k1 q5) q6)) (some (.BinOp (.Subscript (.Name "at" q7) (.Constant (.int 0) k2 q8) q9) .Add (.Name "size" r1) r2)) none r3) r4) r5,
       .Assign [.Subscript (.Name "at" r6) (.Constant (.int 0) k3 r7) r8] (.BinOp (.Subscript (.Name "at" r9) (.Constant (.int 0) k4 u1) u2) .Add (.Call (.Name "len" u3) [.Name "sign" u4] [] u5) u6) u7,
       .Return (some (.Name "sign" u8)) u9] scR [("page", cP), ("at", cA)] .none .none doc pm none cdv ct)) (hcd : s.heap.CodeRec cdv qual) :
    wpAny (model PySem.Challenge.rw_to0028_01.row.prog w) A (call (.ref f) [.int 1 t]) (RdPost page k aL s) (fun _ _ => False) s := by
  obtain ⟨hh, hd0_, hu0_⟩ := R
  obtain ⟨_, dp, fr, gd, un⟩ := A
  cases hh
  exact RCC.qA RCC.qW w lo me mg mb dp fr gd un s h₀ q1 q2 q3 q4 q5 q6 q7 q8 q9 r1 r2 r3 r4 r5 r6 r7 r8 r9 u1 u2 u3 u4 u5 u6 u7 u8 u9 k1 k2 k3 k4 f aL cA cP n tk t tp oA oP fo nm qual doc pm cdv ct k page g hd0_ hu0_ hk hpl hA hP o1 o2 ho hd hcd
end

end

section
theorem part_lexer : True := by
  w_top off
  exact trivial
/-- a namespace's object -/
def NsO (o : Obj) (mm : Str → Option Value) : Prop := ∃ es ep, o.data = .dict es ep ∧ StrKeys es ∧ UniqKeys es ∧ ∀ name, nsFind es name = mm name
theorem NsO.at' {h : Heap} {D : Addr} {o : Obj} {mm : Str → Option Value} (x : NsO o mm) (e : h.get? D = some o) : h.Ns1 D mm := let ⟨es, ep, r⟩ := x; ⟨o, es, ep, e, r⟩
theorem led_attr {h₀ h h' : Heap} {L f D : Addr} {m mm : Str → Option Value} {o o' : Obj} {rest : List (Addr × Obj)} (F : Fr h₀ L h m) (N : News h₀ L h ((f, o) :: rest)) (hD : h.objs.size = D) (hn : h'.Ns1 D mm) (hx : h'.get? f = some o')
    (hk : ∀ b o, b ≠ f → h.get? b = some o → h'.get? b = some o) (hrest : ∀ p ∈ rest, p.1 ≠ f) : ∃ oD, Fr h₀ L h' m ∧ News h₀ L h' ((f, o') :: (D, oD) :: rest) ∧ NsO oD mm ∧ (∀ p ∈ (f, o) :: rest, p.1 < D) := by
  subst hD
  obtain ⟨oD, es, ep, e, r⟩ := hn
  have hf := N _ (.head _)
  refine ⟨oD, ⟨F.ns.at' fun o e => hk _ o hf.2.1.symm e, fun b o e => hk b o (fun q => ?_) (F.keep b o e), F.above⟩, fun p hp => ?_, ⟨es, ep, r⟩, fun p hp => Heap.lt_size (N p hp).1⟩
  · subst q; rw [hf.2.2] at e; cases e
  · rcases List.mem_cons.mp hp with rfl | hp
    · exact ⟨hx, hf.2⟩
    rcases List.mem_cons.mp hp with rfl | hp
    · exact ⟨e, Nat.ne_of_gt F.ns.lt, Heap.get?_none_of_le (Nat.le_trans F.above (Nat.le_of_lt F.ns.lt))⟩
    · exact ⟨hk _ _ (hrest p hp) (N p (.tail _ hp)).1, (N p (.tail _ hp)).2⟩
/-- the stream's read, as a call -/
def RdOK (w : World) (page : Str) (fx : List (Addr × Obj)) (f aL : Nat) : Prop :=
  ∀ (lo : List Str) (me : ExcName → Option Value) (mg mb : Str → Option Value) (h₀ : Heap) (A : Around) (s : Shared) (k : Nat) (tk t : Tok) (n : Nat), Got w lo me mg mb h₀ s.heap ((aL, listOf #[.int k tk] n) :: fx) → Rm A 2 20 → k ≤ 100 →
    wpAny (model PySem.Challenge.rw_to0028_01.row.prog w) A (call (.ref f) [.int 1 t]) (RdPost page k aL s) (fun _ _ => False) s
structure LexAt (w : World) (page : Str) (fx : List (Addr × Obj)) (x d sT sd f aL pb : Nat) (h : Heap) (k : Nat) (line : Int) (pv : List Value) : Prop where
  fix : ∀ p ∈ fx, h.get? p.1 = some p.2
  ix : (x, instObj 77 d) ∈ fx
  iS : ∃ fd sl, (sT, (⟨.type "function", some sd, .func fd, sl⟩ : Obj)) ∈ fx
  iD : ∃ oD, (sd, oD) ∈ fx ∧ NsO oD (fun y => if y = "read" then some (.ref f) else none)
  iF : ∃ oc od fd sl, (f, (⟨oc, od, .func fd, sl⟩ : Obj)) ∈ fx
  dd : ∃ a b c d' e f' n, h.get? d = some (lxD w.params line sT pb a b c d' e f' n)
  al : ∃ tk n, h.get? aL = some (listOf #[.int k tk] n)
  pp : ∃ n, h.get? pb = some (listOf pv.toArray n)
  ord : aL < f ∧ f < sT ∧ sT < sd ∧ sd < d ∧ d < x ∧ x < pb
  apart : ∀ p ∈ fx, p.1 ≠ d ∧ p.1 ≠ aL ∧ p.1 ≠ pb
def LexOut (w : World) (s : Shared) (page : Str) (v : Value) (s' : Shared) : Prop :=
  ∃ h' tk fx x' d sT sd f aL pb, v = .ref x' ∧ s' = { s with heap := h', toks := tk } ∧ (∀ b o, b ≠ 93 → s.heap.get? b = some o → h'.get? b = some o) ∧ (∃ ps, h'.get? 93 = some (tabObj ps)) ∧ (∀ p ∈ fx, s.heap.get? p.1 = none) ∧ s.heap.get? d = none ∧ s.heap.get? aL = none ∧ s.heap.get? pb = none ∧ s.heap.objs.size ≤ d ∧
    RdOK w page fx f aL ∧ LexAt w page fx x' d sT sd f aL pb h' 0 1 []
theorem lex_fin {w : World} {s : Shared} {page : Str} {h7 h8 : Heap} {L x dx sT sd c2 f c1 aL cA cP pb : Nat} {oS oD oc2 oF oc1 oA oP : Obj} {tk n n2 : Nat} {tA a b c d e f' : Tok} {ps : Array Value} {fd : FuncData} {sl : Array (Option Value)} {m : Str → Option Value}
    (F : Fr (hid s.heap [(93, tabObj #[])]) L h7 m)
    (N : News (hid s.heap [(93, tabObj #[])]) L h7 [(x, instObj 77 dx), (dx, dictOf [] 0), (sT, oS), (sd, oD), (c2, oc2), (f, oF), (c1, oc1), (aL, listOf #[.int 0 tA] n), (cA, oA), (cP, oP), (93, tabObj ps)])
    (o1 : dx < x) (o2 : sd < dx) (o3 : sT < sd) (o4 : f < sT) (o5 : c1 < f) (o6 : aL < c1) (o7 : cA < aL) (o8 : cP < aL) (o9 : 93 < cP) (oa : 93 < cA) (oz : s.heap.objs.size ≤ dx)
    (hd8 : h8.get? dx = some (lxD w.params 1 sT pb a b c d e f' n2)) (hp8 : h8.get? pb = some (listOf #[] 0)) (hn8 : h7.get? pb = none) (hk8 : ∀ b o, b ≠ dx → h7.get? b = some o → h8.get? b = some o) (hlt8 : x < pb)
    (hS : oS = ⟨.type "function", some sd, .func fd, sl⟩) (hD : NsO oD (fun y => if y = "read" then some (.ref f) else none)) (hF : ∃ oc od fd sl, oF = ⟨oc, od, .func fd, sl⟩)
    (hrd : RdOK w page [(x, instObj 77 dx), (sT, oS), (sd, oD), (f, oF), (c1, oc1), (cA, oA), (cP, oP)] f aL) : LexOut w s page (.ref x) { s with heap := h8, toks := tk } := by
  have fr : ∀ q : Addr, @LT.lt Nat _ 93 q → (hid s.heap [(93, tabObj #[])]).get? q = none → s.heap.get? q = none := fun q hq e => hid_none e fun hm => Nat.ne_of_gt hq (List.mem_singleton.mp hm)
  have fx : ∀ p ∈ [(x, instObj 77 dx), (sT, oS), (sd, oD), (f, oF), (c1, oc1), (cA, oA), (cP, oP)], p ∈ [(x, instObj 77 dx), (dx, dictOf [] 0), (sT, oS), (sd, oD), (c2, oc2), (f, oF), (c1, oc1), (aL, listOf #[.int 0 tA] n), (cA, oA), (cP, oP), (93, tabObj ps)] ∧ @LT.lt Nat _ 93 p.1 ∧ (p.1 ≠ dx ∧ p.1 ≠ aL ∧ p.1 ≠ pb) := by
    refine List.forall_mem_cons.mpr ⟨⟨by simp, ?_, ?_, ?_, ?_⟩, List.forall_mem_cons.mpr ⟨⟨by simp, ?_, ?_, ?_, ?_⟩, List.forall_mem_cons.mpr ⟨⟨by simp, ?_, ?_, ?_, ?_⟩, List.forall_mem_cons.mpr ⟨⟨by simp, ?_, ?_, ?_, ?_⟩, List.forall_mem_cons.mpr ⟨⟨by simp, ?_, ?_, ?_, ?_⟩, List.forall_mem_cons.mpr ⟨⟨by simp, ?_, ?_, ?_, ?_⟩, List.forall_mem_cons.mpr ⟨⟨by simp, ?_, ?_, ?_, ?_⟩, List.forall_mem_nil _⟩⟩⟩⟩⟩⟩⟩
    all_goals kqd_sub
  refine ⟨h8, tk, _, x, dx, sT, sd, f, aL, pb, rfl, rfl, fun b o hb e => ?_, ⟨ps, hk8 _ _ (Nat.ne_of_lt (by kqd_sub)) (N (93, tabObj ps) (by simp)).1⟩, fun p hp => fr _ (fx p hp).2.1 (N p (fx p hp).1).2.2, ?_, ?_, ?_, oz, hrd, ?_⟩
  · have e7 := F.keep b o (hideAll_get _ e fun hm => hb (List.mem_singleton.mp hm))
    refine hk8 b o (fun q => ?_) e7
    subst q
    have := (N (b, dictOf [] 0) (.tail _ (.head _))).2.2
    dsimp only at this
    have e9 : (hid s.heap [(93, tabObj #[])]).get? b = some o := hideAll_get _ e fun hm => hb (List.mem_singleton.mp hm)
    rw [e9] at this
    cases this
  · exact fr _ (by kqd_sub) (N (dx, dictOf [] 0) (.tail _ (.head _))).2.2
  · exact fr _ (by kqd_sub) (N (aL, listOf #[.int 0 tA] n) (by simp)).2.2
  · cases q : s.heap.get? pb with
    | none => rfl
    | some o =>
      have := F.keep pb o (hideAll_get _ q fun hm => Nat.ne_of_gt (show 93 < pb by kqd_sub) (List.mem_singleton.mp hm))
      rw [hn8] at this; cases this
  · refine ⟨fun p hp => hk8 _ _ (fx p hp).2.2.1 (N p (fx p hp).1).1, .head _, ⟨fd, sl, hS ▸ by simp⟩, ⟨oD, by simp, hD⟩, ?_, ⟨a, b, c, d, e, f', n2, hd8⟩, ⟨tA, n, hk8 _ _ (Nat.ne_of_lt (by kqd_sub)) (N (aL, listOf #[.int 0 tA] n) (by simp)).1⟩, ⟨0, hp8⟩, ⟨by kqd_sub, by kqd_sub, by kqd_sub, by kqd_sub, by kqd_sub, by kqd_sub⟩, fun p hp => (fx p hp).2.2⟩
    obtain ⟨oc, od, fd, sl, rfl⟩ := hF
    exact ⟨oc, od, fd, sl, by simp⟩
section

namespace LC
abbrev qT := (World) × (List Str) × (ExcName → Option Value) × (Str → Option Value) × (Str → Option Value) × (Nat) × (Option (List Env)) × (Option (List Code)) × (Nat) × (Shared) × (Heap) × (Tok)
def qP (w : World) (lo : List Str) (me : ExcName → Option Value) (mg : Str → Option Value) (mb : Str → Option Value) (dp : Nat) (fr : Option (List Env)) (gd : Option (List Code)) (un : Nat) (s : Shared) (h₀ : Heap) (t : Tok) : Prop := ∀ (g : Got w lo me mg mb h₀ s.heap [(93, tabObj #[])]) (CH : CodeHd (hid s.heap [(93, tabObj #[])]) 97 93) (hd' : dp + 5 < recursionLimit) (hu : un + 20 < cLine) (x : Str) (hxl : x.length ≤ 100), wpAny (model PySem.Challenge.rw_to0028_01.row.prog w) ⟨none, dp, fr, gd, un⟩ (call (.ref 98) [.str x t]) (LexOut w s x) (fun _ _ => False) s
theorem qN : Nonempty qT := ⟨(PySem.W.aWorld 0, default, default, default, default, default, default, default, default, {}, default, default)⟩
noncomputable def qk : qT := (Classical.choice (drink qN fun v => qP v.1 v.2.1 v.2.2.1 v.2.2.2.1 v.2.2.2.2.1 v.2.2.2.2.2.1 v.2.2.2.2.2.2.1 v.2.2.2.2.2.2.2.1 v.2.2.2.2.2.2.2.2.1 v.2.2.2.2.2.2.2.2.2.1 v.2.2.2.2.2.2.2.2.2.2.1 v.2.2.2.2.2.2.2.2.2.2.2)).1
noncomputable def w : World := qk.1
noncomputable def lo : List Str := qk.2.1
noncomputable def me : ExcName → Option Value := qk.2.2.1
noncomputable def mg : Str → Option Value := qk.2.2.2.1
noncomputable def mb : Str → Option Value := qk.2.2.2.2.1
noncomputable def dp : Nat := qk.2.2.2.2.2.1
noncomputable def fr : Option (List Env) := qk.2.2.2.2.2.2.1
noncomputable def gd : Option (List Code) := qk.2.2.2.2.2.2.2.1
noncomputable def un : Nat := qk.2.2.2.2.2.2.2.2.1
noncomputable def s : Shared := qk.2.2.2.2.2.2.2.2.2.1
noncomputable def h₀ : Heap := qk.2.2.2.2.2.2.2.2.2.2.1
noncomputable def t : Tok := qk.2.2.2.2.2.2.2.2.2.2.2
theorem qA (h : qP w lo me mg mb dp fr gd un s h₀ t) (w : World) (lo : List Str) (me : ExcName → Option Value) (mg : Str → Option Value) (mb : Str → Option Value) (dp : Nat) (fr : Option (List Env)) (gd : Option (List Code)) (un : Nat) (s : Shared) (h₀ : Heap) (t : Tok) : qP w lo me mg mb dp fr gd un s h₀ t := (Classical.choice (drink qN fun v => qP v.1 v.2.1 v.2.2.1 v.2.2.2.1 v.2.2.2.2.1 v.2.2.2.2.2.1 v.2.2.2.2.2.2.1 v.2.2.2.2.2.2.2.1 v.2.2.2.2.2.2.2.2.1 v.2.2.2.2.2.2.2.2.2.1 v.2.2.2.2.2.2.2.2.2.2.1 v.2.2.2.2.2.2.2.2.2.2.2)).2 h (w, lo, me, mg, mb, dp, fr, gd, un, s, h₀, t)
set_option maxHeartbeats 1000000 in
theorem qW : qP w lo me mg mb dp fr gd un s h₀ t := by
  intro g CH hd' hu x hxl
  have X := g.hid.X
  have T := g.hid.T
  have h93 : (93 : Nat) < s.heap.objs.size := Heap.lt_size (g.at' _ (.head _))
  (refine' enterC (args := ⟨[.str x t], []⟩) (K := Mine.Kc w.params) (news := [(93, tabObj #[])]) ?k1 ?k2 ?kA ?k8 ?k6 ?k7 ?k9 ?kB ?kN ?_ ?c2 ?c3 ?c4; (case k1 => k_asm); (case k2 => k_asm); (case kA => exact g.at'); (case k6 => k_is); (case k7 => k_is); (case k8 => (exact (show dp < recursionLimit by omega))); (case k9 => exact BindsTo.of_eq rfl); (case kB => exact kindsX rfl); (case kN => decide); (case c2 => exact rfl); (case c3 => exact rfl); (case c4 => exact rfl))
  intro h1 tk1 cells F N Y
  obtain ⟨o1, o2, rfl, e1, e2⟩ := CellsAre.two Y
  clear Y
  replace e2 : o2.data = .cell (some (.str x t)) := e2
  dsimp only [List.cons_append, List.nil_append] at N
  k_steps
  rename News _ _ _ _ => N5
  rename Fr _ _ _ _ => F5
  refine fn_setAttr (N5 _ (.head _)).1 rfl rfl (fun c hc => by cases hc) fun h6 tk6 hn6 hx6 hk6 => ?_
  obtain ⟨oD, F6, N6, hoD, l6⟩ := led_attr F5 N5 rfl hn6 hx6 hk6 (by
    repeat (first | exact List.forall_mem_nil _ | refine List.forall_mem_cons.mpr ⟨Nat.ne_of_lt (by dsimp only; omega), ?_⟩))
  clear F5 N5
  dsimp only at N6
  k_lt l6
  k_steps
  refine call_cls (K := Mine.Kc w.params) (fI := 53) F6 X N6 (by k_is) (by k_is) (by k_is) fun x7 dx h7 F7 N7 l7 l8 => ?_
  k_lt l7
  refine init_c (h₀ := hid s.heap [(93, tabObj #[])]) ⟨⟨X, T⟩, F7.keep, fun p hp => ?g1, fun p hp => ?g2⟩ l8 (by kqd_sub) (show dp + 1 + 1 + 1 < recursionLimit by omega) rfl fun h8 tk8 pb a b c d e f n hd8 hp8 hn8 hk8 hlt8 => ⟨rfl, ?_⟩
  case g1 =>
    refine (N7 p ?_).1
    rcases List.mem_cons.mp hp with rfl | hp
    · exact .head _
    · rw [List.mem_singleton.mp hp]; exact .tail _ (.head _)
  case g2 =>
    refine (N7 p ?_).2.2
    rcases List.mem_cons.mp hp with rfl | hp
    · exact .head _
    · rw [List.mem_singleton.mp hp]; exact .tail _ (.head _)
  refine lex_fin F7 N7 l8 (by kqd_sub) (by kqd_sub) (by kqd_sub) (by kqd_sub) (by kqd_sub) (by kqd_sub) (by kqd_sub) (by kqd_sub) (by kqd_sub) (by kqd_sub) hd8 hp8 hn8 hk8 hlt8 rfl hoD ⟨_, _, _, _, rfl⟩ ?rd
  case rd =>
    clear hk8 hd8 hp8 hn8 hlt8 N7 F7 F6 N6
    intro lo me mg mb h₀ A s k tk t n g R hk100
    refine' read_c (g.sub ?sub) R hk100 hxl ?hA e2 ?o1 ?o2 (g.at' (_, _) (.tail _ (.tail _ (.tail _ (.tail _ (.head _)))))) ?hd ⟨_, _, _, _, rfl, g.at' (_, _) (.tail _ (.tail _ (.tail _ (.tail _ (.tail _ (.head _)))))), by assumption, by assumption⟩
    case hd => exact rfl
    case hA => assumption
    case sub => exact List.forall_mem_cons.mpr ⟨.head _, List.forall_mem_cons.mpr ⟨.tail _ (.tail _ (.tail _ (.tail _ (.tail _ (.tail _ (.head _)))))), List.forall_mem_cons.mpr ⟨.tail _ (.tail _ (.tail _ (.tail _ (.tail _ (.tail _ (.tail _ (.head _))))))), List.forall_mem_nil _⟩⟩⟩
    case o1 => kqd_sub
    case o2 => kqd_sub
end LC
end
section
variable {w : World} {lo : List Str} {me : ExcName → Option Value} {mg mb : Str → Option Value} {A : Around} {s : Shared} {h₀ : Heap}
theorem lexer_c (g : Got w lo me mg mb h₀ s.heap [(93, tabObj #[])]) (CH : CodeHd (hid s.heap [(93, tabObj #[])]) 97 93) (R : Rm A 5 20) (x : Str) (t : Tok) (hxl : x.length ≤ 100) :
    wpAny (model PySem.Challenge.rw_to0028_01.row.prog w) A (call (.ref 98) [.str x t]) (LexOut w s x) (fun _ _ => False) s := by
  obtain ⟨hh, hd0_, hu0_⟩ := R
  obtain ⟨_, dp, fr, gd, un⟩ := A
  cases hh
  exact LC.qA LC.qW w lo me mg mb dp fr gd un s h₀ t g CH hd0_ hu0_ x hxl
end

end

section
theorem part_rdchar : True := by
  w_top off
  exact trivial
local macro_rules | `(tactic| walk_at "pad") => `(tactic| fail)
theorem led_set {h₀ h h' : Heap} {L D : Addr} {m : Str → Option Value} {o o' : Obj} {pre post : List (Addr × Obj)} (F : Fr h₀ L h m) (N : News h₀ L h (pre ++ (D, o) :: post)) (hk : ∀ b o, b ≠ D → h.get? b = some o → h'.get? b = some o) (e : h'.get? D = some o')
    (h1 : ∀ p ∈ pre, p.1 ≠ D) (h2 : ∀ p ∈ post, p.1 ≠ D) : Fr h₀ L h' m ∧ News h₀ L h' (pre ++ (D, o') :: post) := by
  have hD := N (D, o) (List.mem_append_right _ (.head _))
  refine ⟨⟨F.ns.at' fun o e => hk _ o hD.2.1.symm e, fun b o e2 => hk b o (fun q => ?_) (F.keep b o e2), F.above⟩, fun p hp => ?_⟩
  · subst q; have e3 := hD.2.2; dsimp only at e3; rw [e3] at e2; cases e2
  · rcases List.mem_append.mp hp with hp | hp
    · have n := N p (List.mem_append_left _ hp)
      exact ⟨hk _ _ (h1 p hp) n.1, n.2⟩
    · rcases List.mem_cons.mp hp with rfl | hp
      · exact ⟨e, hD.2⟩
      · have n := N p (List.mem_append_right _ (.tail _ hp))
        exact ⟨hk _ _ (h2 p hp) n.1, n.2⟩
def nlAt (page : Str) (k : Nat) : Int := if chAt page k = Str.ofString "\n" then 1 else 0
def RcPost (w : World) (page : Str) (k : Nat) (line : Int) (sT pb d aL : Nat) (s : Shared) (v : Value) (s' : Shared) : Prop := ∃ h' t1 t2 tk' n' a b c e f' g' n1, v = .str (chAt page k) t1 ∧ s' = { s with heap := h', toks := t2 } ∧ (∀ b o, b ≠ aL → b ≠ d → s.heap.get? b = some o → h'.get? b = some o) ∧
      h'.get? aL = some (listOf #[.int ((k : Int) + ((chAt page k).length : Nat)) tk'] n') ∧ h'.get? d = some (lxD w.params (line + nlAt page k) sT pb a b c e f' g' n1)
def RcR (w : World) (page : Str) (k : Nat) (line : Int) (sT pb d aL : Nat) (s : Shared) (r : Result) (s' : Shared) : Prop := ∃ v, r = .ok (.ret v) ∧ RcPost w page k line sT pb d aL s v s'
theorem rc_same {aL d : Addr} {fx : List (Addr × Obj)} (a1 a2 b1 b2 : Obj) (p3 p4 p5 : Addr × Obj) {p6 : Addr × Obj} : ∀ p ∈ (d, a1) :: (aL, a2) :: p3 :: p4 :: p5 :: p6 :: fx, p.1 ∈ [aL, d] ∨ p ∈ (d, b1) :: (aL, b2) :: p3 :: p4 :: p5 :: p6 :: fx := by
  intro p hp
  rcases List.mem_cons.mp hp with rfl | hp
  · exact .inl (.tail _ (.head _))
  rcases List.mem_cons.mp hp with rfl | hp
  · exact .inl (.head _)
  · exact .inr (.tail _ (.tail _ hp))
section
local macro_rules | `(tactic| walk_at "getMethod ref") => `(tactic| (k_here; refine stop ?_))
local macro_rules | `(tactic| walk_at "callWith ref") => `(tactic| (k_here; k_dflt (refine' callWith_F ?k1 ?_; (case k1 => exact FnAt.of (by k_asm) (by k_mem)); k_whole)))
local macro_rules | `(tactic| walk_at "call ref") => `(tactic| (k_here; refine stop ?_))
namespace RDC
abbrev qT := (World) × (List Str) × (ExcName → Option Value) × (Str → Option Value) × (Str → Option Value) × (Nat) × (Option (List Env)) × (Option (List Code)) × (Nat) × (Shared) × (Heap) × (Nat) × (Nat) × (Nat) × (Nat) × (Nat) × (Nat) × (Nat) × (Nat) × (Nat) × (Obj) × (Tok) × (Tok) × (Tok) × (Tok) × (Tok) × (Tok) × (Tok) × (FuncData) × (FuncData) × (Array (Option Value)) × (Array (Option Value)) × (List (Addr × Obj)) × (Value) × (Option Addr)
def qP (w : World) (lo : List Str) (me : ExcName → Option Value) (mg : Str → Option Value) (mb : Str → Option Value) (dp : Nat) (fr : Option (List Env)) (gd : Option (List Code)) (un : Nat) (s : Shared) (h₀ : Heap) (x : Nat) (d : Nat) (sT : Nat) (sd : Nat) (f : Nat) (aL : Nat) (pb : Nat) (n1 : Nat) (n2 : Nat) (oD : Obj) (a : Tok) (b : Tok) (c : Tok) (e : Tok) (f' : Tok) (g' : Tok) (tA : Tok) (fd : FuncData) (fdF : FuncData) (sl : Array (Option Value)) (slF : Array (Option Value)) (fx : List (Addr × Obj)) (ocF : Value) (odF : Option Addr) : Prop := ∀ (page : Str) (k : Nat) (line : Int) (g : Got w lo me mg mb h₀ s.heap ((d, lxD w.params line sT pb a b c e f' g' n1) :: (aL, listOf #[.int k tA] n2) :: (x, instObj 77 d) :: (sT, ⟨.type "function", some sd, .func fd, sl⟩) :: (sd, oD) :: (f, ⟨ocF, odF, .func fdF, slF⟩) :: fx)) (hd' : dp + 5 < recursionLimit) (hu' : un + 40 < cLine) (hk : k ≤ 100) (o1 : aL < f) (o2 : f < sT) (o3 : sT < sd) (o4 : sd < d) (o5 : d < x) (hD : NsO oD (fun y => if y = "read" then some (.ref f) else none)) (RD : RdOK w page fx f aL) (ap1 : ∀ p ∈ fx, p.1 ≠ d) (ap2 : ∀ p ∈ fx, p.1 ≠ aL), codeAny (model PySem.Challenge.rw_to0028_01.row.prog w) ⟨none, dp, fr, gd, un⟩ (.call (.ref 60) ⟨[.ref x], []⟩) (RcR w page k line sT pb d aL s) s
theorem qN : Nonempty qT := ⟨(PySem.W.aWorld 0, default, default, default, default, default, default, default, default, {}, default, default, default, default, default, default, default, default, default, default, default, default, default, default, default, default, default, default, default, default, default, default, default, default, default)⟩
noncomputable def qk : qT := (Classical.choice (drink qN fun v => qP v.1 v.2.1 v.2.2.1 v.2.2.2.1 v.2.2.2.2.1 v.2.2.2.2.2.1 v.2.2.2.2.2.2.1 v.2.2.2.2.2.2.2.1 v.2.2.2.2.2.2.2.2.1 v.2.2.2.2.2.2.2.2.2.1 v.2.2.2.2.2.2.2.2.2.2.1 v.2.2.2.2.2.2.2.2.2.2.2.1 v.2.2.2.2.2.2.2.2.2.2.2.2.1 v.2.2.2.2.2.2.2.2.2.2.2.2.2.1 v.2.2.2.2.2.2.2.2.2.2.2.2.2.2.1 v.2.2.2.2.2.2.2.2.2.2.2.2.2.2.2.1 v.2.2.2.2.2.2.2.2.2.2.2.2.2.2.2.2.1 v.2.2.2.2.2.2.2.2.2.2.2.2.2.2.2.2.2.1 v.2.2.2.2.2.2.2.2.2.2.2.2.2.2.2.2.2.2.1 v.2.2.2.2.2.2.2.2.2.2.2.2.2.2.2.2.2.2.2.1 v.2.2.2.2.2.2.2.2.2.2.2.2.2.2.2.2.2.2.2.2.1 v.2.2.2.2.2.2.2.2.2.2.2.2.2.2.2.2.2.2.2.2.2.1 v.2.2.2.2.2.2.2.2.2.2.2.2.2.2.2.2.2.2.2.2.2.2.1 v.2.2.2.2.2.2.2.2.2.2.2.2.2.2.2.2.2.2.2.2.2.2.2.1 v.2.2.2.2.2.2.2.2.2.2.2.2.2.2.2.2.2.2.2.2.2.2.2.2.1 v.2.2.2.2.2.2.2.2.2.2.2.2.2.2.2.2.2.2.2.2.2.2.2.2.2.1 v.2.2.2.2.2.2.2.2.2.2.2.2.2.2.2.2.2.2.2.2.2.2.2.2.2.2.1 v.2.2.2.2.2.2.2.2.2.2.2.2.2.2.2.2.2.2.2.2.2.2.2.2.2.2.2.1 v.2.2.2.2.2.2.2.2.2.2.2.2.2.2.2.2.2.2.2.2.2.2.2.2.2.2.2.2.1 v.2.2.2.2.2.2.2.2.2.2.2.2.2.2.2.2.2.2.2.2.2.2.2.2.2.2.2.2.2.1 v.2.2.2.2.2.2.2.2.2.2.2.2.2.2.2.2.2.2.2.2.2.2.2.2.2.2.2.2.2.2.1 v.2.2.2.2.2.2.2.2.2.2.2.2.2.2.2.2.2.2.2.2.2.2.2.2.2.2.2.2.2.2.2.1 v.2.2.2.2.2.2.2.2.2.2.2.2.2.2.2.2.2.2.2.2.2.2.2.2.2.2.2.2.2.2.2.2.1 v.2.2.2.2.2.2.2.2.2.2.2.2.2.2.2.2.2.2.2.2.2.2.2.2.2.2.2.2.2.2.2.2.2.1 v.2.2.2.2.2.2.2.2.2.2.2.2.2.2.2.2.2.2.2.2.2.2.2.2.2.2.2.2.2.2.2.2.2.2)).1
noncomputable def w : World := qk.1
noncomputable def lo : List Str := qk.2.1
noncomputable def me : ExcName → Option Value := qk.2.2.1
noncomputable def mg : Str → Option Value := qk.2.2.2.1
noncomputable def mb : Str → Option Value := qk.2.2.2.2.1
noncomputable def dp : Nat := qk.2.2.2.2.2.1
noncomputable def fr : Option (List Env) := qk.2.2.2.2.2.2.1
noncomputable def gd : Option (List Code) := qk.2.2.2.2.2.2.2.1
noncomputable def un : Nat := qk.2.2.2.2.2.2.2.2.1
noncomputable def s : Shared := qk.2.2.2.2.2.2.2.2.2.1
noncomputable def h₀ : Heap := qk.2.2.2.2.2.2.2.2.2.2.1
noncomputable def x : Nat := qk.2.2.2.2.2.2.2.2.2.2.2.1
noncomputable def d : Nat := qk.2.2.2.2.2.2.2.2.2.2.2.2.1
noncomputable def sT : Nat := qk.2.2.2.2.2.2.2.2.2.2.2.2.2.1
noncomputable def sd : Nat := qk.2.2.2.2.2.2.2.2.2.2.2.2.2.2.1
noncomputable def f : Nat := qk.2.2.2.2.2.2.2.2.2.2.2.2.2.2.2.1
noncomputable def aL : Nat := qk.2.2.2.2.2.2.2.2.2.2.2.2.2.2.2.2.1
noncomputable def pb : Nat := qk.2.2.2.2.2.2.2.2.2.2.2.2.2.2.2.2.2.1
noncomputable def n1 : Nat := qk.2.2.2.2.2.2.2.2.2.2.2.2.2.2.2.2.2.2.1
noncomputable def n2 : Nat := qk.2.2.2.2.2.2.2.2.2.2.2.2.2.2.2.2.2.2.2.1
noncomputable def oD : Obj := qk.2.2.2.2.2.2.2.2.2.2.2.2.2.2.2.2.2.2.2.2.1
noncomputable def a : Tok := qk.2.2.2.2.2.2.2.2.2.2.2.2.2.2.2.2.2.2.2.2.2.1
noncomputable def b : Tok := qk.2.2.2.2.2.2.2.2.2.2.2.2.2.2.2.2.2.2.2.2.2.2.1
noncomputable def c : Tok := qk.2.2.2.2.2.2.2.2.2.2.2.2.2.2.2.2.2.2.2.2.2.2.2.1
noncomputable def e : Tok := qk.2.2.2.2.2.2.2.2.2.2.2.2.2.2.2.2.2.2.2.2.2.2.2.2.1
noncomputable def f' : Tok := qk.2.2.2.2.2.2.2.2.2.2.2.2.2.2.2.2.2.2.2.2.2.2.2.2.2.1
noncomputable def g' : Tok := qk.2.2.2.2.2.2.2.2.2.2.2.2.2.2.2.2.2.2.2.2.2.2.2.2.2.2.1
noncomputable def tA : Tok := qk.2.2.2.2.2.2.2.2.2.2.2.2.2.2.2.2.2.2.2.2.2.2.2.2.2.2.2.1
noncomputable def fd : FuncData := qk.2.2.2.2.2.2.2.2.2.2.2.2.2.2.2.2.2.2.2.2.2.2.2.2.2.2.2.2.1
noncomputable def fdF : FuncData := qk.2.2.2.2.2.2.2.2.2.2.2.2.2.2.2.2.2.2.2.2.2.2.2.2.2.2.2.2.2.1
noncomputable def sl : Array (Option Value) := qk.2.2.2.2.2.2.2.2.2.2.2.2.2.2.2.2.2.2.2.2.2.2.2.2.2.2.2.2.2.2.1
noncomputable def slF : Array (Option Value) := qk.2.2.2.2.2.2.2.2.2.2.2.2.2.2.2.2.2.2.2.2.2.2.2.2.2.2.2.2.2.2.2.1
noncomputable def fx : List (Addr × Obj) := qk.2.2.2.2.2.2.2.2.2.2.2.2.2.2.2.2.2.2.2.2.2.2.2.2.2.2.2.2.2.2.2.2.1
noncomputable def ocF : Value := qk.2.2.2.2.2.2.2.2.2.2.2.2.2.2.2.2.2.2.2.2.2.2.2.2.2.2.2.2.2.2.2.2.2.1
noncomputable def odF : Option Addr := qk.2.2.2.2.2.2.2.2.2.2.2.2.2.2.2.2.2.2.2.2.2.2.2.2.2.2.2.2.2.2.2.2.2.2
theorem qA (h : qP w lo me mg mb dp fr gd un s h₀ x d sT sd f aL pb n1 n2 oD a b c e f' g' tA fd fdF sl slF fx ocF odF) (w : World) (lo : List Str) (me : ExcName → Option Value) (mg : Str → Option Value) (mb : Str → Option Value) (dp : Nat) (fr : Option (List Env)) (gd : Option (List Code)) (un : Nat) (s : Shared) (h₀ : Heap) (x : Nat) (d : Nat) (sT : Nat) (sd : Nat) (f : Nat) (aL : Nat) (pb : Nat) (n1 : Nat) (n2 : Nat) (oD : Obj) (a : Tok) (b : Tok) (c : Tok) (e : Tok) (f' : Tok) (g' : Tok) (tA : Tok) (fd : FuncData) (fdF : FuncData) (sl : Array (Option Value)) (slF : Array (Option Value)) (fx : List (Addr × Obj)) (ocF : Value) (odF : Option Addr) : qP w lo me mg mb dp fr gd un s h₀ x d sT sd f aL pb n1 n2 oD a b c e f' g' tA fd fdF sl slF fx ocF odF := (Classical.choice (drink qN fun v => qP v.1 v.2.1 v.2.2.1 v.2.2.2.1 v.2.2.2.2.1 v.2.2.2.2.2.1 v.2.2.2.2.2.2.1 v.2.2.2.2.2.2.2.1 v.2.2.2.2.2.2.2.2.1 v.2.2.2.2.2.2.2.2.2.1 v.2.2.2.2.2.2.2.2.2.2.1 v.2.2.2.2.2.2.2.2.2.2.2.1 v.2.2.2.2.2.2.2.2.2.2.2.2.1 v.2.2.2.2.2.2.2.2.2.2.2.2.2.1 v.2.2.2.2.2.2.2.2.2.2.2.2.2.2.1 v.2.2.2.2.2.2.2.2.2.2.2.2.2.2.2.1 v.2.2.2.2.2.2.2.2.2.2.2.2.2.2.2.2.1 v.2.2.2.2.2.2.2.2.2.2.2.2.2.2.2.2.2.1 v.2.2.2.2.2.2.2.2.2.2.2.2.2.2.2.2.2.2.1 v.2.2.2.2.2.2.2.2.2.2.2.2.2.2.2.2.2.2.2.1 v.2.2.2.2.2.2.2.2.2.2.2.2.2.2.2.2.2.2.2.2.1 v.2.2.2.2.2.2.2.2.2.2.2.2.2.2.2.2.2.2.2.2.2.1 v.2.2.2.2.2.2.2.2.2.2.2.2.2.2.2.2.2.2.2.2.2.2.1 v.2.2.2.2.2.2.2.2.2.2.2.2.2.2.2.2.2.2.2.2.2.2.2.1 v.2.2.2.2.2.2.2.2.2.2.2.2.2.2.2.2.2.2.2.2.2.2.2.2.1 v.2.2.2.2.2.2.2.2.2.2.2.2.2.2.2.2.2.2.2.2.2.2.2.2.2.1 v.2.2.2.2.2.2.2.2.2.2.2.2.2.2.2.2.2.2.2.2.2.2.2.2.2.2.1 v.2.2.2.2.2.2.2.2.2.2.2.2.2.2.2.2.2.2.2.2.2.2.2.2.2.2.2.1 v.2.2.2.2.2.2.2.2.2.2.2.2.2.2.2.2.2.2.2.2.2.2.2.2.2.2.2.2.1 v.2.2.2.2.2.2.2.2.2.2.2.2.2.2.2.2.2.2.2.2.2.2.2.2.2.2.2.2.2.1 v.2.2.2.2.2.2.2.2.2.2.2.2.2.2.2.2.2.2.2.2.2.2.2.2.2.2.2.2.2.2.1 v.2.2.2.2.2.2.2.2.2.2.2.2.2.2.2.2.2.2.2.2.2.2.2.2.2.2.2.2.2.2.2.1 v.2.2.2.2.2.2.2.2.2.2.2.2.2.2.2.2.2.2.2.2.2.2.2.2.2.2.2.2.2.2.2.2.1 v.2.2.2.2.2.2.2.2.2.2.2.2.2.2.2.2.2.2.2.2.2.2.2.2.2.2.2.2.2.2.2.2.2.1 v.2.2.2.2.2.2.2.2.2.2.2.2.2.2.2.2.2.2.2.2.2.2.2.2.2.2.2.2.2.2.2.2.2.2)).2 h (w, lo, me, mg, mb, dp, fr, gd, un, s, h₀, x, d, sT, sd, f, aL, pb, n1, n2, oD, a, b, c, e, f', g', tA, fd, fdF, sl, slF, fx, ocF, odF)
set_option maxHeartbeats 1000000 in
theorem qW : qP w lo me mg mb dp fr gd un s h₀ x d sT sd f aL pb n1 n2 oD a b c e f' g' tA fd fdF sl slF fx ocF odF := by
  intro page k line g hd' hu' hk o1 o2 o3 o4 o5 hD RD ap1 ap2
  have X := g.hid.X
  have T := g.hid.T
  (refine' enterXK (K := Mine.Kc w.params) X T g.at' ?k8 ?k6 ?k7 ?k9 ?kB ?_ ?c2 ?c3 ?c4 ?c5; (case k6 => k_is); (case k7 => k_is); (case k8 => exact (show dp < recursionLimit by omega)); (case k9 => exact BindsTo.of_eq rfl); (case c5 => decide); (case kB => exact locs rfl); (case c2 => exact rfl); (case c3 => exact rfl); (case c4 => exact rfl))
  intro h1 F N
  simp only [lxD] at N
  k_steps
  refine unstop ?_
  rename News _ _ _ _ => N2
  rename Fr _ _ _ _ => F2
  refine fn_getMethod (N2 (_, _) (.tail _ (.tail _ (.tail _ (.head _))))).1 rfl rfl (fun c hc => by cases hc) (hD.at' (N2 (_, _) (.tail _ (.tail _ (.tail _ (.tail _ (.head _)))))).1).ns (if_pos rfl) ?_
  k_steps
  refine unstop ?_
  have gR : Got w lo me mg mb _ _ ((aL, listOf #[.int k tA] n2) :: fx) := ⟨⟨X, T⟩, F2.keep, fun p hp => (N2 p ?g1).1, fun p hp => (N2 p ?g2).2.2⟩
  case g1 =>
    rcases List.mem_cons.mp hp with rfl | hp
    · exact .tail _ (.head _)
    · exact .tail _ (.tail _ (.tail _ (.tail _ (.tail _ (.tail _ hp)))))
  case g2 =>
    rcases List.mem_cons.mp hp with rfl | hp
    · exact .tail _ (.head _)
    · exact .tail _ (.tail _ (.tail _ (.tail _ (.tail _ (.tail _ hp)))))
  refine wpAny_mono (RD _ _ _ _ _ _ _ _ _ _ _ gR ⟨rfl, (show dp + 1 + 2 < recursionLimit by omega), ?hu⟩ hk) (fun v s2 h => ?_) fun _ _ h => h
  case hu => exact (show un + 3 + 20 < cLine by omega)
  obtain ⟨h3, t1, t2, tk3, n3, rfl, rfl, hk3, he3⟩ := h
  obtain ⟨F3, N3⟩ := led_set (pre := [(d, _)]) F2 N2 hk3 he3 (List.forall_mem_cons.mpr ⟨Nat.ne_of_gt (by kqd_sub), List.forall_mem_nil _⟩) (List.forall_mem_cons.mpr ⟨Nat.ne_of_gt (by kqd_sub), List.forall_mem_cons.mpr ⟨Nat.ne_of_gt (by kqd_sub), List.forall_mem_cons.mpr ⟨Nat.ne_of_gt (by kqd_sub), List.forall_mem_cons.mpr ⟨Nat.ne_of_gt o1, ap2⟩⟩⟩⟩)
  clear F2 N2
  rw [List.cons_append, List.nil_append] at N3
  have ap1' : ∀ p ∈ fx, d ≠ p.1 := fun p hp e => ap1 p hp e.symm
  k_steps
  · refine' set_dict (es' := [{ hash := PyData.keyHash w.params "lineno", key := .str "lineno" a, val := .int (line + 1) _ }, { hash := PyData.keyHash w.params "instream", key := .str "instream" c, val := .ref sT },
      { hash := PyData.keyHash w.params "whitespace", key := .str "whitespace" e, val := .str "\n\t\x0d " f' }, { hash := PyData.keyHash w.params "pushback", key := .str "pushback" g', val := .ref pb }]) (n' := n1) ?k1 ?k2 ?k3 ?k4 ?k5 ?k6 ?k7 ?k8 ?k9 ?k10 ?k11 ?k12 ?k13 ?_
    (case k1 => k_asm)
    (case k2 => k_asm)
    (case k3 => k_asm)
    (case k4 => k_inst)
    (case k5 => exact rfl)
    (case k6 => k_is)
    (case k7 => k_is)
    (case k8 => k_is)
    (case k9 => k_is)
    (case k10 => k_get)
    (case k11 => exact rfl)
    (case k12 => k_upd)
    (case k13 => exact Nat.le_of_ble_eq_true rfl)
    intro h7 F7 N7
    rename (_ == _) = true => hch
    k_steps
    have kk := fin_keep g.at' F7 N7 [aL, d] (rc_same _ _ _ _ _ _ _)
    have e1 : nlAt page k = 1 := if_pos (eq_of_beq hch)
    exact ⟨_, rfl, _, _, _, _, _, _, _, _, _, _, _, _, rfl, rfl, fun b o h1 h2 => kk b o (by simp [h1, h2]), (N7 _ (.tail _ (.head _))).1, by rw [e1]; exact (N7 _ (.head _)).1⟩
  · rename (_ == _) = false => hch
    rename News _ _ _ _ => N7
    rename Fr _ _ _ _ => F7
    have kk := fin_keep g.at' F7 N7 [aL, d] (rc_same _ _ _ _ _ _ _)
    have e1 : nlAt page k = 0 := if_neg (fun h => by rw [h] at hch; exact absurd hch (by decide))
    exact ⟨_, rfl, _, _, _, _, _, _, _, _, _, _, _, _, rfl, rfl, fun b o h1 h2 => kk b o (by simp [h1, h2]), (N7 _ (.tail _ (.head _))).1, by rw [e1, Int.add_zero]; exact (N7 _ (.head _)).1⟩
end RDC
end
section
variable {w : World} {lo : List Str} {me : ExcName → Option Value} {mg mb : Str → Option Value} {A : Around} {s : Shared} {h₀ : Heap}
theorem rdchar_code {page : Str} {x d sT sd f aL pb k n1 n2 : Nat} {line : Int} {oD : Obj} {a b c e f' g' tA : Tok} {fd fdF : FuncData} {sl slF : Array (Option Value)} {fx : List (Addr × Obj)} {ocF : Value} {odF : Option Addr}
    (g : Got w lo me mg mb h₀ s.heap ((d, lxD w.params line sT pb a b c e f' g' n1) :: (aL, listOf #[.int k tA] n2) :: (x, instObj 77 d) :: (sT, ⟨.type "function", some sd, .func fd, sl⟩) :: (sd, oD) :: (f, ⟨ocF, odF, .func fdF, slF⟩) :: fx)) (R : Rm A 5 40) (hk : k ≤ 100)
    (o1 : aL < f) (o2 : f < sT) (o3 : sT < sd) (o4 : sd < d) (o5 : d < x) (hD : NsO oD (fun y => if y = "read" then some (.ref f) else none)) (RD : RdOK w page fx f aL) (ap1 : ∀ p ∈ fx, p.1 ≠ d) (ap2 : ∀ p ∈ fx, p.1 ≠ aL) :
    codeAny (model PySem.Challenge.rw_to0028_01.row.prog w) A (.call (.ref 60) ⟨[.ref x], []⟩) (RcR w page k line sT pb d aL s) s := by
  obtain ⟨hh, hd0_, hu0_⟩ := R
  obtain ⟨_, dp, fr, gd, un⟩ := A
  cases hh
  exact RDC.qA RDC.qW w lo me mg mb dp fr gd un s h₀ x d sT sd f aL pb n1 n2 oD a b c e f' g' tA fd fdF sl slF fx ocF odF page k line g hd0_ hu0_ hk o1 o2 o3 o4 o5 hD RD ap1 ap2
end

end

section
theorem part_push : True := by
  w_top off
  exact trivial
def PushPost (pv : List Value) (v0 : Value) (pb : Nat) (s : Shared) (v : Value) (s' : Shared) : Prop := ∃ h' t2 n', v = .none ∧ s' = { s with heap := h', toks := t2 } ∧ (∀ b o, b ≠ pb → s.heap.get? b = some o → h'.get? b = some o) ∧ h'.get? pb = some (listOf (pv ++ [v0]).toArray n')
section
variable {w : World} {lo : List Str} {me : ExcName → Option Value} {mg mb : Str → Option Value} {A : Around} {s : Shared} {h₀ : Heap}
set_option maxHeartbeats 1000000 in
theorem push_c {x d sT pb n1 n2 : Nat} {line : Int} {a b c e f' g' t : Tok} {pv : List Value} {u : Str}
    (g : Got w lo me mg mb h₀ s.heap [(pb, listOf pv.toArray n2), (d, lxD w.params line sT pb a b c e f' g' n1), (x, instObj 77 d)]) (R : Rm A 5 40) (o1 : d < x) (o2 : x < pb) (hpv : pv.length ≤ 10) :
    wpAny (model PySem.Challenge.rw_to0028_01.row.prog w) A (call (.ref 74) [.ref x, .str u t]) (PushPost pv (.str u t) pb s) (fun _ _ => False) s := by
  obtain ⟨hh, hd0, hu0⟩ := R
  obtain ⟨_, dp, fr, gd, un⟩ := A
  cases hh
  have hd' : dp + 5 < recursionLimit := hd0
  have X := g.hid.X
  have T := g.hid.T
  refine wpAny_call ?_
  (refine' enterXK (K := Mine.Kc w.params) X T g.at' ?k8 ?k6 ?k7 ?k9 ?kB ?_ ?c2 ?c3 ?c4 ?c5; (case k6 => k_is); (case k7 => k_is); (case k8 => exact (show dp < recursionLimit by omega)); (case k9 => exact BindsTo.of_eq rfl); (case c5 => decide); (case kB => exact locs rfl); (case c2 => exact rfl); (case c3 => exact rfl); (case c4 => exact rfl))
  intro h1 F N
  simp only [lxD] at N
  k_steps
  clear N
  rename News _ _ _ _ => N7
  rename Fr _ _ _ _ => F7
  rw [List.push_toArray] at N7
  have kk := fin_keep g.at' F7 N7 [pb] (List.forall_mem_cons.mpr ⟨.inl (.head _), List.forall_mem_cons.mpr ⟨.inr (.tail _ (.head _)), List.forall_mem_cons.mpr ⟨.inr (.tail _ (.tail _ (.head _))), List.forall_mem_nil _⟩⟩⟩)
  exact ⟨_, _, _, rfl, rfl, fun b o h1 => kk b o (fun hm => h1 (List.mem_singleton.mp hm)), (N7 _ (.head _)).1⟩
end

end

section
theorem kind_iter : builtinKind "iter" = none := by decide +kernel
theorem plain_iter : plainId "iter" = true := by decide +kernel
theorem entry_iter : entryFor table "iter" = some Builtin.«iter» := entryFor_of_tree (by kernel_rfl)
theorem args_iter (a b : Value) : argsOk "iter" ⟨[a, b], []⟩ := by unfold argsOk; kernel_rfl
theorem meth_call : typeLookup (.type "method") "__call__" = pure (some (.builtin "method.__call__")) := by rw [typeLookup_type, builtinLookup_eq_fast]; kernel_rfl
theorem slot_ci_next : Slot "callable_iterator" "__next__" "callable_iterator.__next__" :=
  .of (owner := "callable_iterator") (n := "__next__") (by rw [typeLookup_type, builtinLookup_eq_fast]; kernel_rfl) (by decide +kernel) (by decide +kernel) (by decide +kernel)
    (by first | exact .inl (by decide +kernel) | exact .inr (by decide +kernel)) (by rw [isSubtype_type]; kernel_rfl)
theorem entry_ci_next : entryFor table "callable_iterator.__next__" = some Builtin.«callable_iterator.__next__» := entryFor_of_tree (by kernel_rfl)
theorem args_ci_next (a : Value) : argsOk "callable_iterator.__next__" ⟨[a], []⟩ := by unfold argsOk; kernel_rfl
abbrev ciObj (q : Addr) (t : Tok) (b : Bool) : Obj := { cls := .type "callable_iterator", data := .fields #[.ref q, .str "" t, .bool b] }
section
variable {prog : Program} {w : World} {A : Around} {E : Value → Shared → Prop} {s : Shared}
theorem call_iter2 {q f x : Addr} {t : Tok} {Q : Value → Shared → Prop} (hq : s.heap.get? q = some (methodObj (.ref f) (.ref x)))
    (h : Q (.ref s.heap.objs.size) { s with heap := s.heap.push (ciObj q t false) }) :
    wpAny (model prog w) A (call (.builtin "iter") [.ref q, .str "" t]) Q E s := by
  have hT : s.TypeIs (.ref q) "method" := ⟨_, hq, rfl⟩
  have hv := meth_call
  refine call_function_entry kind_iter plain_iter entry_iter (args_iter _ _) ?_
  unfold Builtin.«iter»
  refine wpAny_bind (m := someArgs "iter" 1 2 _) (wpAny_pure ?_)
  refine wpAny_bind (wpAny_specialOf hT hv ?_)
  refine wpAny_bind (wpAny_rule ?_)
  simp only [newFields]
  refine wpAny_bind (wpAny_newObj_type ?_ (by size_fits))
  exact wpAny_pure ⟨_, rfl, h⟩

theorem wpAny_borrowed {M : Model} {f : Value} {pos : List Value} {Q : Value → Shared → Prop} (hc : codeAny M A (.call f ⟨pos, []⟩) (fun r s' => match r with | .ok (.ret v) => Q v s' | .ok _ => False | .error e => E e s') s) : wpAny M A (callBorrowed f pos) Q E s := fun Γ p hΓ => by
  obtain ⟨r, s₁, h1, h2⟩ := hc _ p rfl (hΓ.enter _ none p (by intro x; cases x))
  refine ⟨r, s₁, h1, ?_⟩
  cases r with
  | ok f => cases f with
    | ret v => exact h2
    | _ => exact h2.elim
  | error e => exact h2
theorem wpAny_outOfASlot {q f x : Addr} {o : Obj} {fd : FuncData} {Q : Value → Shared → Prop} (hq : s.heap.get? q = some (methodObj (.ref f) (.ref x))) (hf : s.heap.get? f = some o) (hd : o.data = .func fd)
    (h : codeAny (model prog w) A (.call (.ref q) ⟨[], []⟩) (fun r s' => match r with | .ok (.ret v) => Q v s' | .ok _ => False | .error e => E e s') s) : wpAny (model prog w) A (callOutOfASlot (.ref q)) Q E s := by
  unfold callOutOfASlot borrowsExactly
  refine wpAny_bind ?_
  refine wpAny_bind (wpAny_load hq ?_)
  dsimp only
  rw [if_pos (show (Value.type "method" == Value.type "method") = true by decide)]
  refine wpAny_bind (wpAny_load hf ?_)
  rw [hd]
  exact wpAny_pure (wpAny_borrowed h)

set_option maxHeartbeats 1000000 in
theorem ci_next {ci q f x : Addr} {o : Obj} {fd : FuncData} {t : Tok} {Q : Option Value → Shared → Prop} (hh : A.handled = none) (hci : s.heap.get? ci = some (ciObj q t false)) (hq : s.heap.get? q = some (methodObj (.ref f) (.ref x))) (hf : s.heap.get? f = some o) (hd : o.data = .func fd)
    (hc : codeAny (model prog w) A.in1 (.call (.ref q) ⟨[], []⟩) (fun r s' => ∃ u tu, r = .ok (.ret (.str u tu)) ∧ s'.heap.get? ci = some (ciObj q t false) ∧ s'.heap.get? q = some (methodObj (.ref f) (.ref x)) ∧ s'.heap.get? f = some o ∧
      if u = Str.ofString "" then (∀ h', (∀ b o, b ≠ ci → s'.heap.get? b = some o → h'.get? b = some o) → Q none { s' with heap := h' }) else Q (some (.str u tu)) s') s) :
    wpAny (model prog w) A (pyNext (.ref ci)) Q E s := by
  have hT : s.TypeIs (.ref ci) "callable_iterator" := ⟨_, hci, rfl⟩
  unfold pyNext
  refine wpAny_bind (wpAny_attempt (wpAny_callSpecial?_slot (name := Str.ofString "__next__") hT slot_ci_next (wpAny_call_entry slot_ci_next hT entry_ci_next ?_ (args_ci_next _))))
  unfold Builtin.«callable_iterator.__next__»
  refine wpAny_bind (m := slotArgs _ _ _) (wpAny_pure ?_)
  refine wpAny_bind (wpAny_field hci rfl (x := .bool false) rfl ?_)
  dsimp only
  rw [if_neg (show ¬ ((Value.bool false == Value.bool true) = true) by decide)]
  refine wpAny_bind (wpAny_field hci rfl (x := .ref q) rfl ?_)
  refine wpAny_bind (wpAny_attempt (wpAny_outOfASlot hq hf hd (codeAny_mono hc fun r s' h => ?_)))
  obtain ⟨u, tu, rfl, hci', hq', hf', h⟩ := h
  dsimp only
  refine wpAny_bind (wpAny_field hci' rfl (x := .bool false) rfl ?_)
  rw [if_neg (show ¬ ((Value.bool false == Value.bool true) = true) by decide)]
  refine wpAny_bind (wpAny_field hci' rfl (x := .str "" t) rfl ?_)
  refine wpAny_bind (wpAny_holding (wpAny_eqBool_str ?_))
  by_cases hu : u = Str.ofString ""
  · rw [if_pos hu] at h
    rw [if_neg (by rw [hu]; decide)]
    refine wpAny_bind (wpAny_rule ?_)
    refine wpAny_bind ?_
    refine wpAny_bind (wpAny_field hci' rfl (x := .ref q) rfl ?_)
    refine wpAny_bind ?_
    unfold slotLetsGo borrowsExactly
    dsimp only
    refine wpAny_bind ?_
    refine wpAny_bind (wpAny_load hq' ?_)
    dsimp only
    rw [if_pos (show (Value.type "method" == Value.type "method") = true by decide)]
    refine wpAny_bind (wpAny_load hf' ?_)
    rw [hd]
    refine wpAny_pure ?_
    refine wpAny_pure ?_
    refine wpAny_bind (wpAny_setField_rec hci' (by simp) fun h1 e1 k1 => ?_)
    refine wpAny_bind (wpAny_setField_rec e1 (by simp) fun h2 e2 k2 => ?_)
    refine wpAny_setField_rec e2 (by simp) fun h3 e3 k3 => ?_
    show wpAny _ _ (newExc (.type "StopIteration") [] >>= _) _ _ _
    refine wpAny_bind ?_
    simp only [newExc, newTuple]
    refine wpAny_bind (wpAny_newObj_type ?_ (by size_fits))
    refine wpAny_bind (m := firstArgMember _ _) (wpAny_of_eq (a := Value.none) (by first | rfl | (simp only [firstArgMember]; rfl)) ?_)
    refine wpAny_newObj_type ?_ (by size_fits)
    simp only [raiseNew]
    refine wpAny_bind (wpAny_handled ?_)
    first | rw [show A.in1.handled = none from hh] | rw [hh]
    refine wpAny_bind (wpAny_pure (wpAny_throw ?_))
    refine wpAny_bind (wpAny_isInstance (T := "StopIteration") (b := true) ⟨_, Heap.get?_push_size _ rfl, rfl⟩ isSubtype_stop ?_)
    refine wpAny_pure (h _ fun b o' hb e => ?_)
    exact Heap.get?_push_of_some _ (Heap.get?_push_of_some _ (k3.extBut b o' hb (k2.extBut b o' hb (k1.extBut b o' hb e))))
  · rw [if_neg hu] at h
    rw [if_pos (by simp; exact fun e => hu e.symm)]
    exact wpAny_pure ⟨_, rfl, wpAny_pure h⟩

theorem slot_ci_iter : Slot "callable_iterator" "__iter__" "callable_iterator.__iter__" :=
  .of (owner := "callable_iterator") (n := "__iter__") (by rw [typeLookup_type, builtinLookup_eq_fast]; kernel_rfl) (by decide +kernel) (by decide +kernel) (by decide +kernel)
    (by first | exact .inl (by decide +kernel) | exact .inr (by decide +kernel)) (by rw [isSubtype_type]; kernel_rfl)
theorem args_ci_iter (a : Value) : argsOk "callable_iterator.__iter__" ⟨[a], []⟩ := by unfold argsOk; kernel_rfl
theorem entry_ci_iter : entryFor table "callable_iterator.__iter__" = some Builtin.«dict_keyiterator.__iter__» :=
  entryFor_alias (id' := "dict_keyiterator.__iter__") (by kernel_rfl) (by first | rfl | decide +kernel | (unfold String.splitOn; simp +decide [String.splitOnAux])) (by decide +kernel) (by kernel_rfl)
theorem ci_iter {ci q : Addr} {t : Tok} {b : Bool} {Q : Value → Shared → Prop} (hci : s.heap.get? ci = some (ciObj q t b)) (h : Q (.ref ci) s) : wpAny (model prog w) A (pyIter (.ref ci)) Q E s := by
  have hT : s.TypeIs (.ref ci) "callable_iterator" := ⟨_, hci, rfl⟩
  refine wpAny_pyIter_slot hT slot_ci_iter (wpAny_call_entry slot_ci_iter hT entry_ci_iter ?_ (args_ci_iter _))
  show wpAny _ _ (ret (.ref ci)) _ _ s
  exact wpAny_pure ⟨_, rfl, "callable_iterator", _, hT, slot_ci_next.lookup, h⟩
end

end

section
section
variable {prog : Program} {w : World} {A : Around} {env : Env} {s : Shared}
theorem for_turn {R : Result → Shared → Prop} {target : Expr} {it : Value} {body : List Stmt}
    (h : wpAny (model prog w) A (pyNext it) (fun r s₁ => match r with
      | none => R (.ok .next) s₁
      | some v => wpAny (model prog w) A (letOwnedTupleGo target it v) (fun _ s₁' => wpAny (model prog w) A (assign target env v) (fun _ s₂ => wpAny (model prog w) A (execs body env) (fun f s₃ => match f with
          | .next | .cont => codeAny (model prog w) A (.forLoop target it body [] env) R s₃
          | .brk => R (.ok .next) s₃
          | .ret v => R (.ok (.ret v)) s₃) (fun _ _ => False) s₂) (fun _ _ => False) s₁') (fun _ _ => False) s₁) (fun _ _ => False) s) :
    codeAny (model prog w) A (.forLoop target it body [] env) R s := by
  refine codeAny_of_tree ?_
  show wpAny _ A ((forTurn target it body [] env).onRaise (fun x => do noteFrame x env; theTreesLotGoes x)) _ _ s
  refine wpAny_onRaise ?_
  simp only [forTurn]
  refine wpAny_bind (wpAny_standAt (wpAny_bind (wpAny_onRaise (wpAny_mono h (fun r s₁ h₁ => ?_) fun _ _ h' => h'.elim))))
  cases r with
  | none => exact wpAny_pure ⟨rfl, codeAny_of_tree (wpAny_pure h₁)⟩
  | some v =>
    refine wpAny_bind (wpAny_mono h₁ (fun _ s₁' h₁' => wpAny_bind (wpAny_mono h₁' (fun _ s₂ h₂ => wpAny_bind (wpAny_mono h₂ (fun f s₃ h₃ => ?_) fun _ _ x => x.elim)) fun _ _ x => x.elim)) fun _ _ x => x.elim)
    cases f with
    | next => exact wpAny_pure ⟨rfl, h₃⟩
    | cont => exact wpAny_pure ⟨rfl, h₃⟩
    | brk => exact wpAny_pure h₃
    | ret v => exact wpAny_pure h₃
end

end

section
theorem part_pop : True := by
  w_top off
  exact trivial
local macro_rules | `(tactic| walk_at "pad") => `(tactic| fail)
def PopPost (v0 : Value) (pb : Nat) (s : Shared) (v : Value) (s' : Shared) : Prop := ∃ h' t2 n', v = v0 ∧ s' = { s with heap := h', toks := t2 } ∧ (∀ b o, b ≠ pb → s.heap.get? b = some o → h'.get? b = some o) ∧ h'.get? pb = some (listOf #[] n')
section
variable {w : World} {lo : List Str} {me : ExcName → Option Value} {mg mb : Str → Option Value} {A : Around} {s : Shared} {h₀ : Heap}
set_option maxHeartbeats 1000000 in
theorem pop_c {x d sT pb n1 n2 : Nat} {line : Int} {a b c e f' g' t : Tok} {u : Str}
    (g : Got w lo me mg mb h₀ s.heap [(pb, listOf #[.str u t] n2), (d, lxD w.params line sT pb a b c e f' g' n1), (x, instObj 77 d)]) (R : Rm A 5 40) (o1 : d < x) (o2 : x < pb) :
    wpAny (model PySem.Challenge.rw_to0028_01.row.prog w) A (call (.ref 67) [.ref x]) (PopPost (.str u t) pb s) (fun _ _ => False) s := by
  obtain ⟨hh, hd0, hu0⟩ := R
  obtain ⟨_, dp, fr, gd, un⟩ := A
  cases hh
  have hd' : dp + 5 < recursionLimit := hd0
  have X := g.hid.X
  have T := g.hid.T
  refine wpAny_call ?_
  (refine' enterXK (K := Mine.Kc w.params) X T g.at' ?k8 ?k6 ?k7 ?k9 ?kB ?_ ?c2 ?c3 ?c4 ?c5; (case k6 => k_is); (case k7 => k_is); (case k8 => exact (show dp < recursionLimit by omega)); (case k9 => exact BindsTo.of_eq rfl); (case c5 => decide); (case kB => exact locs rfl); (case c2 => exact rfl); (case c3 => exact rfl); (case c4 => exact rfl))
  intro h1 F N
  simp only [lxD] at N
  k_steps
  clear N F
  rename News _ _ _ _ => N7
  rename Fr _ _ _ _ => F7
  have kk := fin_keep g.at' F7 N7 [pb] (List.forall_mem_cons.mpr ⟨.inl (.head _), List.forall_mem_cons.mpr ⟨.inr (.tail _ (.head _)), List.forall_mem_cons.mpr ⟨.inr (.tail _ (.tail _ (.head _))), List.forall_mem_nil _⟩⟩⟩)
  exact ⟨_, _, _, rfl, rfl, fun b o h1 => kk b o (fun hm => h1 (List.mem_singleton.mp hm)), (N7 _ (.head _)).1⟩
end

end

section
theorem led_two {h₀ h h' : Heap} {L d aL : Addr} {m : Str → Option Value} {o1 o2 o1' o2' : Obj} {pre post : List (Addr × Obj)} (F : Fr h₀ L h m) (N : News h₀ L h (pre ++ (d, o1) :: (aL, o2) :: post)) (hk : ∀ b o, b ≠ aL → b ≠ d → h.get? b = some o → h'.get? b = some o)
    (ea : h'.get? aL = some o2') (ed : h'.get? d = some o1') (h1 : ∀ p ∈ pre, p.1 ≠ aL ∧ p.1 ≠ d) (h2 : ∀ p ∈ post, p.1 ≠ aL ∧ p.1 ≠ d) : Fr h₀ L h' m ∧ News h₀ L h' (pre ++ (d, o1') :: (aL, o2') :: post) := by
  have hd := N (d, o1) (List.mem_append_right _ (.head _))
  have ha := N (aL, o2) (List.mem_append_right _ (.tail _ (.head _)))
  refine ⟨⟨F.ns.at' fun o e => hk _ o ha.2.1.symm hd.2.1.symm e, fun b o e => hk b o (fun q => ?_) (fun q => ?_) (F.keep b o e), F.above⟩, fun p hp => ?_⟩
  · subst q; have := ha.2.2; dsimp only at this; rw [this] at e; cases e
  · subst q; have := hd.2.2; dsimp only at this; rw [this] at e; cases e
  · rcases List.mem_append.mp hp with hp | hp
    · have n := N p (List.mem_append_left _ hp)
      exact ⟨hk _ _ (h1 p hp).1 (h1 p hp).2 n.1, n.2⟩
    rcases List.mem_cons.mp hp with rfl | hp
    · exact ⟨ed, hd.2⟩
    rcases List.mem_cons.mp hp with rfl | hp
    · exact ⟨ea, ha.2⟩
    · have n := N p (List.mem_append_right _ (.tail _ (.tail _ hp)))
      exact ⟨hk _ _ (h2 p hp).1 (h2 p hp).2 n.1, n.2⟩
section
variable {w : World} {lo : List Str} {me : ExcName → Option Value} {mg mb : Str → Option Value} {A : Around} {s : Shared} {h₀ : Heap} {L : Addr} {m : Str → Option Value}
set_option maxHeartbeats 1000000 in
theorem draw {page : Str} {ci q x d sT sd f aL pb k n1 n2 : Nat} {line : Int} {oD oP : Obj} {a b c e f' g' tA t : Tok} {fd fdF : FuncData} {sl slF : Array (Option Value)} {fx : List (Addr × Obj)} {ocF : Value} {odF : Option Addr} {Q : Option Value → Shared → Prop} {E : Value → Shared → Prop}
    (X : (Mine.Kc w.params).In h₀) (T : Top topProg lo me mg mb h₀) (F : Fr h₀ L s.heap m)
    (N : News h₀ L s.heap ((ci, ciObj q t false) :: (q, methodObj (.ref 60) (.ref x)) :: (pb, oP) :: (d, lxD w.params line sT pb a b c e f' g' n1) :: (aL, listOf #[.int k tA] n2) :: (x, instObj 77 d) :: (sT, ⟨.type "function", some sd, .func fd, sl⟩) :: (sd, oD) :: (f, ⟨ocF, odF, .func fdF, slF⟩) :: fx)) (R : Rm A 8 60) (hk : k ≤ 100)
    (o1 : aL < f) (o2 : f < sT) (o3 : sT < sd) (o4 : sd < d) (o5 : d < x) (o6 : x < pb) (o7 : pb < q) (o8 : q < ci) (hD : NsO oD (fun y => if y = "read" then some (.ref f) else none)) (RD : RdOK w page fx f aL) (ap1 : ∀ p ∈ fx, p.1 ≠ d) (ap2 : ∀ p ∈ fx, p.1 ≠ aL) (ap3 : ∀ p ∈ fx, p.1 < q)
    (hE : chAt page k = Str.ofString "" → ∀ h' tk a b c e f' g' n1 tA n2, Fr h₀ L h' m → News h₀ L h' ((q, methodObj (.ref 60) (.ref x)) :: (pb, oP) :: (d, lxD w.params (line + nlAt page k) sT pb a b c e f' g' n1) :: (aL, listOf #[.int ((k : Int) + ((chAt page k).length : Nat)) tA] n2) :: (x, instObj 77 d) :: (sT, ⟨.type "function", some sd, .func fd, sl⟩) :: (sd, oD) :: (f, ⟨ocF, odF, .func fdF, slF⟩) :: fx) → Q none { s with heap := h', toks := tk })
    (hS : chAt page k ≠ Str.ofString "" → ∀ h' tk a b c e f' g' n1 tA n2 tc, Fr h₀ L h' m → News h₀ L h' ((ci, ciObj q t false) :: (q, methodObj (.ref 60) (.ref x)) :: (pb, oP) :: (d, lxD w.params (line + nlAt page k) sT pb a b c e f' g' n1) :: (aL, listOf #[.int ((k : Int) + ((chAt page k).length : Nat)) tA] n2) :: (x, instObj 77 d) :: (sT, ⟨.type "function", some sd, .func fd, sl⟩) :: (sd, oD) :: (f, ⟨ocF, odF, .func fdF, slF⟩) :: fx) → Q (some (.str (chAt page k) tc)) { s with heap := h', toks := tk }) :
    wpAny (model PySem.Challenge.rw_to0028_01.row.prog w) A (pyNext (.ref ci)) Q E s := by
  obtain ⟨hh, hd0, hu0⟩ := R
  have h60 : ∃ o fd, s.heap.get? 60 = some o ∧ o.data = .func fd := ⟨_, _, F.keep _ _ (X 60 _ rfl), rfl⟩
  obtain ⟨o60, fd60, h60, hd60⟩ := h60
  refine ci_next hh (N _ (.head _)).1 (N (q, _) (.tail _ (.head _))).1 h60 hd60 (method_call (N (q, _) (.tail _ (.head _))).1 (codeAny_mono (rdchar_code (h₀ := h₀) ⟨⟨X, T⟩, F.keep, fun p hp => (N p (.tail _ (.tail _ (.tail _ hp)))).1, fun p hp => (N p (.tail _ (.tail _ (.tail _ hp)))).2.2⟩ ⟨hh, ?hdd, ?huu⟩ hk o1 o2 o3 o4 o5 hD RD ap1 ap2) fun r s' h => ?_))
  case hdd => exact (show A.depth + 5 < recursionLimit by omega)
  case huu => exact (show A.units + 1 + 40 < cLine by omega)
  obtain ⟨v, rfl, h', t1, t2, tk', n', a', b', c', e', f'', g'', n1', rfl, rfl, hkk, hal, hdd'⟩ := h
  have k60 : h₀.get? 60 = some _ := X 60 _ rfl
  have n1 : (60 : Addr) ≠ aL := fun q => by have := (N (aL, _) (.tail _ (.tail _ (.tail _ (.tail _ (.head _)))))).2.2; dsimp only at this; rw [← q, k60] at this; cases this
  have n2 : (60 : Addr) ≠ d := fun q => by have := (N (d, _) (.tail _ (.tail _ (.tail _ (.head _))))).2.2; dsimp only at this; rw [← q, k60] at this; cases this
  have go : ∀ hx, (∀ b o, b ≠ ci → h'.get? b = some o → hx.get? b = some o) → ∀ oC, hx.get? ci = some oC → Fr h₀ L hx m ∧ News h₀ L hx ((ci, oC) :: (q, methodObj (.ref 60) (.ref x)) :: (pb, oP) :: (d, lxD w.params (line + nlAt page k) sT pb a' b' c' e' f'' g'' n1') :: (aL, listOf #[.int ((k : Int) + ((chAt page k).length : Nat)) tk'] n') :: (x, instObj 77 d) :: (sT, ⟨.type "function", some sd, .func fd, sl⟩) :: (sd, oD) :: (f, ⟨ocF, odF, .func fdF, slF⟩) :: fx) := by
    intro hx hc oC eC
    have F1 : Fr h₀ L h' m ∧ News h₀ L h' ([(ci, ciObj q t false), (q, methodObj (.ref 60) (.ref x)), (pb, oP)] ++ (d, lxD w.params (line + nlAt page k) sT pb a' b' c' e' f'' g'' n1') :: (aL, listOf #[.int ((k : Int) + ((chAt page k).length : Nat)) tk'] n') :: ((x, instObj 77 d) :: (sT, ⟨.type "function", some sd, .func fd, sl⟩) :: (sd, oD) :: (f, ⟨ocF, odF, .func fdF, slF⟩) :: fx)) :=
      led_two F N hkk hal hdd' (List.forall_mem_cons.mpr ⟨⟨Nat.ne_of_gt (by kqd_sub), Nat.ne_of_gt (by kqd_sub)⟩, List.forall_mem_cons.mpr ⟨⟨Nat.ne_of_gt (by kqd_sub), Nat.ne_of_gt (by kqd_sub)⟩, List.forall_mem_cons.mpr ⟨⟨Nat.ne_of_gt (by kqd_sub), Nat.ne_of_gt (by kqd_sub)⟩, List.forall_mem_nil _⟩⟩⟩)
        (List.forall_mem_cons.mpr ⟨⟨Nat.ne_of_gt (by kqd_sub), Nat.ne_of_gt (by kqd_sub)⟩, List.forall_mem_cons.mpr ⟨⟨Nat.ne_of_gt (by kqd_sub), Nat.ne_of_lt (by kqd_sub)⟩, List.forall_mem_cons.mpr ⟨⟨Nat.ne_of_gt (by kqd_sub), Nat.ne_of_lt (by kqd_sub)⟩, List.forall_mem_cons.mpr ⟨⟨Nat.ne_of_gt (by kqd_sub), Nat.ne_of_lt (by kqd_sub)⟩, fun p hp => ⟨ap2 p hp, ap1 p hp⟩⟩⟩⟩⟩)
    obtain ⟨F1, N1⟩ := F1
    refine led_set (pre := []) F1 N1 hc eC (List.forall_mem_nil _) (List.forall_mem_cons.mpr ⟨Nat.ne_of_lt (by kqd_sub), List.forall_mem_cons.mpr ⟨Nat.ne_of_lt (by kqd_sub), List.forall_mem_cons.mpr ⟨Nat.ne_of_lt (by kqd_sub), List.forall_mem_cons.mpr ⟨Nat.ne_of_lt (by kqd_sub), List.forall_mem_cons.mpr ⟨Nat.ne_of_lt (by kqd_sub), List.forall_mem_cons.mpr ⟨Nat.ne_of_lt (by kqd_sub), List.forall_mem_cons.mpr ⟨Nat.ne_of_lt (by kqd_sub), List.forall_mem_cons.mpr ⟨Nat.ne_of_lt (by kqd_sub), fun p hp => Nat.ne_of_lt (Nat.lt_trans (ap3 p hp) o8)⟩⟩⟩⟩⟩⟩⟩⟩)
  refine ⟨_, _, rfl, hkk _ _ (Nat.ne_of_gt (by kqd_sub)) (Nat.ne_of_gt (by kqd_sub)) (N _ (.head _)).1, hkk _ _ (Nat.ne_of_gt (by kqd_sub)) (Nat.ne_of_gt (by kqd_sub)) (N (q, _) (.tail _ (.head _))).1, hkk _ _ n1 n2 h60, ?_⟩
  have e1 : h'.get? ci = some (ciObj q t false) := hkk _ _ (Nat.ne_of_gt (by kqd_sub)) (Nat.ne_of_gt (by kqd_sub)) (N _ (.head _)).1
  by_cases hu : chAt page k = Str.ofString ""
  · rw [if_pos hu]
    intro hx hc
    obtain ⟨F2, N2⟩ := go h' (fun _ _ _ e => e) _ e1
    refine hE hu _ _ _ _ _ _ _ _ _ _ _ ⟨F2.ns.at' fun o e => hc _ o (N2 _ (.head _)).2.1.symm e, fun b o e => hc b o (fun q => ?_) (F2.keep b o e), F2.above⟩ fun p hp => ⟨hc _ _ ?_ (N2 p (.tail _ hp)).1, (N2 p (.tail _ hp)).2⟩
    · have := (N2 _ (.head _)).2.2
      dsimp only at this
      rw [← q, e] at this; cases this
    · revert p
      exact (List.forall_mem_cons.mpr ⟨Nat.ne_of_lt (by kqd_sub), List.forall_mem_cons.mpr ⟨Nat.ne_of_lt (by kqd_sub), List.forall_mem_cons.mpr ⟨Nat.ne_of_lt (by kqd_sub), List.forall_mem_cons.mpr ⟨Nat.ne_of_lt (by kqd_sub), List.forall_mem_cons.mpr ⟨Nat.ne_of_lt (by kqd_sub), List.forall_mem_cons.mpr ⟨Nat.ne_of_lt (by kqd_sub), List.forall_mem_cons.mpr ⟨Nat.ne_of_lt (by kqd_sub), List.forall_mem_cons.mpr ⟨Nat.ne_of_lt (by kqd_sub), fun p hp => Nat.ne_of_lt (Nat.lt_trans (ap3 p hp) o8)⟩⟩⟩⟩⟩⟩⟩⟩)
  · rw [if_neg hu]
    obtain ⟨F2, N2⟩ := go h' (fun _ _ _ e => e) _ e1
    exact hS hu _ _ _ _ _ _ _ _ _ _ _ _ F2 N2
end

end

section
theorem part_gettok : True := by
  w_top off
  exact trivial
local macro_rules | `(tactic| walk_at "pad") => `(tactic| fail)
local macro_rules | `(tactic| walk_at "pad") => `(tactic| fail)
theorem iter_led {prog : Program} {w : World} {A : Around} {E : Value → Shared → Prop} {s : Shared} {h₀ : Heap} {L q f x : Addr} {m : Str → Option Value} {rest : List (Addr × Obj)} {t : Tok} {Q : Value → Shared → Prop} (F : Fr h₀ L s.heap m) (N : News h₀ L s.heap ((q, methodObj (.ref f) (.ref x)) :: rest))
    (h : ∀ h' ci, Fr h₀ L h' m → News h₀ L h' ((ci, ciObj q t false) :: (q, methodObj (.ref f) (.ref x)) :: rest) → (∀ p ∈ (q, methodObj (.ref f) (.ref x)) :: rest, p.1 < ci) → Q (.ref ci) { s with heap := h' }) : wpAny (model prog w) A (call (.builtin "iter") [.ref q, .str "" t]) Q E s := by
  refine call_iter2 (N _ (.head _)).1 ?_
  obtain ⟨F3, N3, l3⟩ := led_new F N (fun b o e => Heap.get?_push_of_some (ciObj q t false) e) (Nat.le_refl _) (Heap.get?_push_size (o := ciObj q t false) _ rfl)
  exact h _ _ F3 N3 l3
theorem e_app (u : Str) : Str.ofString "" ++ u = u := by cases u with | mk c => show (⟨#[] ++ c⟩ : Str) = ⟨c⟩; rw [Array.empty_append]
theorem nl_1 {page : Str} {k : Nat} {line : Int} (e : chAt page k = Str.ofString "\n") : line + nlAt page k = line + 1 := by rw [show nlAt page k = 1 from if_pos e]
theorem nl_0 {page u : Str} {k : Nat} {line : Int} (e : chAt page k = u) (h : u ≠ Str.ofString "\n") : line + nlAt page k = line := by rw [show nlAt page k = 0 from if_neg (by rw [e]; exact h), Int.add_zero]
theorem kk_1 {page u : Str} {k : Nat} (e : chAt page k = u) (h : u.length = 1) : (k : Int) + ((chAt page k).length : Nat) = ((k + 1 : Nat) : Int) := by rw [e, h]; rfl
def Sg (u : Str) : Prop := (u == Str.ofString "\"") = false ∧ (u == Str.ofString "\\") = false ∧ List.isEmpty (Builtin.Str.occurrences (Str.ofString "\n\t\x0d ") u 0 (Str.length (Str.ofString "\n\t\x0d ")) 1) = true ∧ u.length = 1 ∧ u ≠ Str.ofString "" ∧ u ≠ Str.ofString "\n"
inductive Sh0 (page : Str) (k : Nat) (line : Int) : Str → Nat → Int → Prop
  | done : chAt page k = Str.ofString "" → Sh0 page k line (Str.ofString "") k line
  | esc {u : Str} : Sg u → chAt page k = Str.ofString "\\" → chAt page (k + 1) = u → chAt page (k + 1 + 1) = Str.ofString "\n" → Sh0 page k line u (k + 1 + 1 + 1) (line + 1)
  | quo {u : Str} : Sg u → chAt page k = Str.ofString "\"" → chAt page (k + 1) = u → chAt page (k + 1 + 1) = Str.ofString "\"" → Sh0 page k line u (k + 1 + 1 + 1) line
  | bare {u : Str} : Sg u → chAt page k = u → chAt page (k + 1) = Str.ofString "\n" → Sh0 page k line u (k + 1 + 1) (line + 1)
inductive Sh (page : Str) (k : Nat) (line : Int) (u : Str) (k' : Nat) (line' : Int) : Prop
  | at0 : Sh0 page k line u k' line' → Sh page k line u k' line'
  | at1 : chAt page k = Str.ofString "\n" → Sh0 page (k + 1) (line + 1) u k' line' → Sh page k line u k' line'
def TkPost (w : World) (tok : Str) (k' : Nat) (line' : Int) (sT pb d aL : Nat) (s : Shared) (v : Value) (s' : Shared) : Prop := ∃ h' t1 t2 tk' n' a b c e f' g' n1, v = .str tok t1 ∧ s' = { s with heap := h', toks := t2 } ∧ (∀ b o, b ≠ aL → b ≠ d → s.heap.get? b = some o → h'.get? b = some o) ∧
      h'.get? aL = some (listOf #[.int (k' : Nat) tk'] n') ∧ h'.get? d = some (lxD w.params line' sT pb a b c e f' g' n1)
section
variable {w : World} {lo : List Str} {me : ExcName → Option Value} {mg mb : Str → Option Value} {A : Around} {s : Shared} {h₀ : Heap} {L : Addr} {m : Str → Option Value}
theorem draw1 {page : Str} {ci q x d sT sd f aL pb k n0 n1 n2 : Nat} {line : Int} {oD : Obj} {a b c e f' g' tA t : Tok} {fd fdF : FuncData} {sl slF : Array (Option Value)} {fx : List (Addr × Obj)} {ocF : Value} {odF : Option Addr} {u : Str} {k' : Nat} {line' : Int} {Q : Option Value → Shared → Prop} {E : Value → Shared → Prop}
    (X : (Mine.Kc w.params).In h₀) (T : Top topProg lo me mg mb h₀) (F : Fr h₀ L s.heap m)
    (N : News h₀ L s.heap ((ci, ciObj q t false) :: (q, methodObj (.ref 60) (.ref x)) :: (pb, listOf #[] n0) :: (d, lxD w.params line sT pb a b c e f' g' n1) :: (aL, listOf #[.int k tA] n2) :: (x, instObj 77 d) :: (sT, ⟨.type "function", some sd, .func fd, sl⟩) :: (sd, oD) :: (f, ⟨ocF, odF, .func fdF, slF⟩) :: fx)) (R : Rm A 8 60) (hk : k ≤ 100)
    (o1 : aL < f) (o2 : f < sT) (o3 : sT < sd) (o4 : sd < d) (o5 : d < x) (o6 : x < pb) (o7 : pb < q) (o8 : q < ci) (hD : NsO oD (fun y => if y = "read" then some (.ref f) else none)) (RD : RdOK w page fx f aL) (ap1 : ∀ p ∈ fx, p.1 ≠ d) (ap2 : ∀ p ∈ fx, p.1 ≠ aL) (ap3 : ∀ p ∈ fx, p.1 < q)
    (hu : u ≠ Str.ofString "") (e1 : chAt page k = u) (el : line + nlAt page k = line') (ek : (k : Int) + ((chAt page k).length : Nat) = ((k' : Nat) : Int))
    (hS : ∀ h' tk a b c e f' g' n1 tA n2 tc, Fr h₀ L h' m → News h₀ L h' ((ci, ciObj q t false) :: (q, methodObj (.ref 60) (.ref x)) :: (pb, listOf #[] n0) :: (d, lxD w.params line' sT pb a b c e f' g' n1) :: (aL, listOf #[.int k' tA] n2) :: (x, instObj 77 d) :: (sT, ⟨.type "function", some sd, .func fd, sl⟩) :: (sd, oD) :: (f, ⟨ocF, odF, .func fdF, slF⟩) :: fx) → Q (some (.str u tc)) { s with heap := h', toks := tk }) :
    wpAny (model PySem.Challenge.rw_to0028_01.row.prog w) A (pyNext (.ref ci)) Q E s := by
  refine draw X T F N R hk o1 o2 o3 o4 o5 o6 o7 o8 hD RD ap1 ap2 ap3 (fun h => absurd (e1.symm.trans h) hu) fun _ h' tk a b c e f' g' n1 tA n2 tc F' N' => ?_
  rw [el, ek] at N'
  rw [e1]
  exact hS h' tk a b c e f' g' n1 tA n2 tc F' N'
theorem read1 {page : Str} {ci q x d sT sd f aL pb k n0 n1 n2 : Nat} {line : Int} {oD : Obj} {a b c e f' g' tA t : Tok} {fd fdF : FuncData} {sl slF : Array (Option Value)} {fx : List (Addr × Obj)} {ocF : Value} {odF : Option Addr} {u : Str} {k' : Nat} {line' : Int} {Q : Value → Shared → Prop} {E : Value → Shared → Prop}
    (X : (Mine.Kc w.params).In h₀) (T : Top topProg lo me mg mb h₀) (F : Fr h₀ L s.heap m)
    (N : News h₀ L s.heap ((ci, ciObj q t false) :: (q, methodObj (.ref 60) (.ref x)) :: (pb, listOf #[] n0) :: (d, lxD w.params line sT pb a b c e f' g' n1) :: (aL, listOf #[.int k tA] n2) :: (x, instObj 77 d) :: (sT, ⟨.type "function", some sd, .func fd, sl⟩) :: (sd, oD) :: (f, ⟨ocF, odF, .func fdF, slF⟩) :: fx)) (R : Rm A 8 60) (hk : k ≤ 100)
    (o1 : aL < f) (o2 : f < sT) (o3 : sT < sd) (o4 : sd < d) (o5 : d < x) (o6 : x < pb) (o7 : pb < q) (o8 : q < ci) (hD : NsO oD (fun y => if y = "read" then some (.ref f) else none)) (RD : RdOK w page fx f aL) (ap1 : ∀ p ∈ fx, p.1 ≠ d) (ap2 : ∀ p ∈ fx, p.1 ≠ aL) (ap3 : ∀ p ∈ fx, p.1 < q)
    (e1 : chAt page k = u) (el : line + nlAt page k = line') (ek : (k : Int) + ((chAt page k).length : Nat) = ((k' : Nat) : Int))
    (hS : ∀ h' tk a b c e f' g' n1 tA n2 tc, Fr h₀ L h' m → News h₀ L h' ((ci, ciObj q t false) :: (q, methodObj (.ref 60) (.ref x)) :: (pb, listOf #[] n0) :: (d, lxD w.params line' sT pb a b c e f' g' n1) :: (aL, listOf #[.int k' tA] n2) :: (x, instObj 77 d) :: (sT, ⟨.type "function", some sd, .func fd, sl⟩) :: (sd, oD) :: (f, ⟨ocF, odF, .func fdF, slF⟩) :: fx) → Q (.str u tc) { s with heap := h', toks := tk }) :
    wpAny (model PySem.Challenge.rw_to0028_01.row.prog w) A (call (.ref 60) [.ref x]) Q E s := by
  obtain ⟨hh, hd0, hu0⟩ := R
  refine wpAny_call (codeAny_mono (rdchar_code (h₀ := h₀) ⟨⟨X, T⟩, F.keep, fun p hp => (N p (.tail _ (.tail _ (.tail _ hp)))).1, fun p hp => (N p (.tail _ (.tail _ (.tail _ hp)))).2.2⟩ ⟨hh, (show A.depth + 5 < recursionLimit by omega), (show A.units + 40 < cLine by omega)⟩ hk o1 o2 o3 o4 o5 hD RD ap1 ap2) fun r s' h => ?_)
  obtain ⟨v, rfl, h', t1, t2, tk', n', a', b', c', e', f'', g'', n1', rfl, rfl, hkk, hal, hdd'⟩ := h
  obtain ⟨F', N'⟩ : Fr h₀ L h' m ∧ News h₀ L h' ([(ci, ciObj q t false), (q, methodObj (.ref 60) (.ref x)), (pb, listOf #[] n0)] ++ (d, lxD w.params (line + nlAt page k) sT pb a' b' c' e' f'' g'' n1') :: (aL, listOf #[.int ((k : Int) + ((chAt page k).length : Nat)) tk'] n') :: ((x, instObj 77 d) :: (sT, ⟨.type "function", some sd, .func fd, sl⟩) :: (sd, oD) :: (f, ⟨ocF, odF, .func fdF, slF⟩) :: fx)) :=
      led_two F N hkk hal hdd' (List.forall_mem_cons.mpr ⟨⟨Nat.ne_of_gt (by kqd_sub), Nat.ne_of_gt (by kqd_sub)⟩, List.forall_mem_cons.mpr ⟨⟨Nat.ne_of_gt (by kqd_sub), Nat.ne_of_gt (by kqd_sub)⟩, List.forall_mem_cons.mpr ⟨⟨Nat.ne_of_gt (by kqd_sub), Nat.ne_of_gt (by kqd_sub)⟩, List.forall_mem_nil _⟩⟩⟩)
        (List.forall_mem_cons.mpr ⟨⟨Nat.ne_of_gt (by kqd_sub), Nat.ne_of_gt (by kqd_sub)⟩, List.forall_mem_cons.mpr ⟨⟨Nat.ne_of_gt (by kqd_sub), Nat.ne_of_lt (by kqd_sub)⟩, List.forall_mem_cons.mpr ⟨⟨Nat.ne_of_gt (by kqd_sub), Nat.ne_of_lt (by kqd_sub)⟩, List.forall_mem_cons.mpr ⟨⟨Nat.ne_of_gt (by kqd_sub), Nat.ne_of_lt (by kqd_sub)⟩, fun p hp => ⟨ap2 p hp, ap1 p hp⟩⟩⟩⟩⟩)
  rw [el, ek] at N'
  rw [e1]
  exact hS _ _ _ _ _ _ _ _ _ _ _ _ F' N'
theorem lead {page : Str} {ci q x d sT sd f aL pb k n0 n1 n2 : Nat} {line : Int} {oD : Obj} {a b c e f' g' tA t : Tok} {fd fdF : FuncData} {sl slF : Array (Option Value)} {fx : List (Addr × Obj)} {ocF : Value} {odF : Option Addr} {u : Str} {k' : Nat} {line' : Int} {prog : Program} {C : Code} {R : Result → Shared → Prop}
    (S : Sh page k line u k' line') (F : Fr h₀ L s.heap m) (N : News h₀ L s.heap ((ci, ciObj q t false) :: (q, methodObj (.ref 60) (.ref x)) :: (pb, listOf #[] n0) :: (d, lxD w.params line sT pb a b c e f' g' n1) :: (aL, listOf #[.int k tA] n2) :: (x, instObj 77 d) :: (sT, ⟨.type "function", some sd, .func fd, sl⟩) :: (sd, oD) :: (f, ⟨ocF, odF, .func fdF, slF⟩) :: fx)) (hm : m (Str.ofString "ch") = none) (hk : k ≤ 90)
    (core : ∀ (c? : Option Value) (k : Nat) (line : Int) h' tk a b c e f' g' n1 tA n2, k ≤ 91 → Sh0 page k line u k' line' → Fr h₀ L h' (fun y => if y = Str.ofString "ch" then c? else m y) → News h₀ L h' ((ci, ciObj q t false) :: (q, methodObj (.ref 60) (.ref x)) :: (pb, listOf #[] n0) :: (d, lxD w.params line sT pb a b c e f' g' n1) :: (aL, listOf #[.int k tA] n2) :: (x, instObj 77 d) :: (sT, ⟨.type "function", some sd, .func fd, sl⟩) :: (sd, oD) :: (f, ⟨ocF, odF, .func fdF, slF⟩) :: fx) → codeAny (model prog w) A C R { s with heap := h', toks := tk })
    (nl : chAt page k = Str.ofString "\n" → Sh0 page (k + 1) (line + 1) u k' line' → (∀ (v : Value) h' tk a b c e f' g' n1 tA n2, Fr h₀ L h' (fun y => if y = Str.ofString "ch" then some v else m y) → News h₀ L h' ((ci, ciObj q t false) :: (q, methodObj (.ref 60) (.ref x)) :: (pb, listOf #[] n0) :: (d, lxD w.params (line + 1) sT pb a b c e f' g' n1) :: (aL, listOf #[.int (k + 1 : Nat) tA] n2) :: (x, instObj 77 d) :: (sT, ⟨.type "function", some sd, .func fd, sl⟩) :: (sd, oD) :: (f, ⟨ocF, odF, .func fdF, slF⟩) :: fx) → codeAny (model prog w) A C R { s with heap := h', toks := tk }) → codeAny (model prog w) A C R s) :
    codeAny (model prog w) A C R s := by
  cases S with
  | at0 S =>
    have eq1 : (fun y => if y = Str.ofString "ch" then none else m y) = m := funext fun y => by
      by_cases h : y = Str.ofString "ch"
      · rw [if_pos h, h, hm]
      · rw [if_neg h]
    exact core none k line s.heap s.toks a b c e f' g' n1 tA n2 (by omega) S (eq1.symm ▸ F) N
  | at1 h S => exact nl h S fun v h' tk a b c e f' g' n1 tA n2 F N => core (some v) (k + 1) (line + 1) h' tk a b c e f' g' n1 tA n2 (by omega) S F N
theorem tk_same {aL d : Addr} {fx : List (Addr × Obj)} {a1 a2 b1 b2 : Obj} {p0 : Addr × Obj} : ∀ p ∈ p0 :: (d, a1) :: (aL, a2) :: fx, p.1 ∈ [aL, d] ∨ p ∈ p0 :: (d, b1) :: (aL, b2) :: fx := by
  intro p hp
  rcases List.mem_cons.mp hp with rfl | hp
  · exact .inr (.head _)
  rcases List.mem_cons.mp hp with rfl | hp
  · exact .inl (.tail _ (.head _))
  rcases List.mem_cons.mp hp with rfl | hp
  · exact .inl (.head _)
  · exact .inr (.tail _ (.tail _ (.tail _ hp)))
theorem tk_fin {aL d pb sT k' n1 n1' n2 n2' : Nat} {line line' : Int} {a b c e f' g' a' b' c' e' f'' g'' tA tA' t1 : Tok} {k : Int} {u u' : Str} {fx pre : List (Addr × Obj)} {s : Shared} {h' : Heap} {t2 : Nat} {oP : Obj}
    (at' : ∀ p ∈ (pb, oP) :: (d, lxD w.params line sT pb a b c e f' g' n1) :: (aL, listOf #[.int k tA] n2) :: fx, s.heap.get? p.1 = some p.2) (F : Fr (hid s.heap ((pb, oP) :: (d, lxD w.params line sT pb a b c e f' g' n1) :: (aL, listOf #[.int k tA] n2) :: fx)) L h' m)
    (N : News (hid s.heap ((pb, oP) :: (d, lxD w.params line sT pb a b c e f' g' n1) :: (aL, listOf #[.int k tA] n2) :: fx)) L h' (pre ++ (pb, oP) :: (d, lxD w.params line' sT pb a' b' c' e' f'' g'' n1') :: (aL, listOf #[.int (k' : Nat) tA'] n2') :: fx)) (eu : u' = u) :
    TkPost w u k' line' sT pb d aL s (.str u' t1) { s with heap := h', toks := t2 } := by
  have kk := fin_keep at' F N [aL, d] fun p hp => (tk_same p hp).imp_right (List.mem_append_right _)
  exact ⟨_, _, _, _, _, _, _, _, _, _, _, _, by rw [eu], rfl, fun b o h1 h2 => kk b o (by simp [h1, h2]), (N _ (List.mem_append_right _ (.tail _ (.tail _ (.head _))))).1, (N _ (List.mem_append_right _ (.tail _ (.head _)))).1⟩
end
section
local macro_rules | `(tactic| walk_at "call builtin:iter") => `(tactic| (k_here; refine stop ?_))
local macro_rules | `(tactic| walk_at "call ref") => `(tactic| (k_here; refine stop ?_))
local macro_rules | `(tactic| walk_at "exec For Name Name") => `(tactic| (k_here; refine wpAny_For ?_ (fun _ => rfl); k_whole))
namespace GC
abbrev qT := (World) × (List Str) × (ExcName → Option Value) × (Str → Option Value) × (Str → Option Value) × (Shared) × (Heap) × (Nat) × (Option (List Env)) × (Option (List Code)) × (Nat) × (Str) × (Nat) × (Nat) × (Nat) × (Nat) × (Nat) × (Nat) × (Nat) × (Nat) × (Nat) × (Nat) × (Nat) × (Int) × (Obj) × (Tok) × (Tok) × (Tok) × (Tok) × (Tok) × (Tok) × (Tok) × (FuncData) × (FuncData) × (Array (Option Value)) × (Array (Option Value)) × (List (Addr × Obj)) × (Value) × (Option Addr)
def qP (w : World) (lo : List Str) (me : ExcName → Option Value) (mg : Str → Option Value) (mb : Str → Option Value) (s : Shared) (h₀ : Heap) (dp : Nat) (fr : Option (List Env)) (gd : Option (List Code)) (un : Nat) (page : Str) (x : Nat) (d : Nat) (sT : Nat) (sd : Nat) (f : Nat) (aL : Nat) (pb : Nat) (k : Nat) (n0 : Nat) (n1 : Nat) (n2 : Nat) (line : Int) (oD : Obj) (a : Tok) (b : Tok) (c : Tok) (e : Tok) (f' : Tok) (g' : Tok) (tA : Tok) (fd : FuncData) (fdF : FuncData) (sl : Array (Option Value)) (slF : Array (Option Value)) (fx : List (Addr × Obj)) (ocF : Value) (odF : Option Addr) : Prop := ∀ (u : Str) (k' : Nat) (line' : Int) (g : Got w lo me mg mb h₀ s.heap ((pb, listOf #[] n0) :: (d, lxD w.params line sT pb a b c e f' g' n1) :: (aL, listOf #[.int k tA] n2) :: (x, instObj 77 d) :: (sT, ⟨.type "function", some sd, .func fd, sl⟩) :: (sd, oD) :: (f, ⟨ocF, odF, .func fdF, slF⟩) :: fx)) (hd' : dp + 12 < recursionLimit) (hu' : un + 100 < cLine) (hk : k ≤ 90) (S : Sh page k line u k' line') (o1 : aL < f) (o2 : f < sT) (o3 : sT < sd) (o4 : sd < d) (o5 : d < x) (o6 : x < pb) (hD : NsO oD (fun y => if y = "read" then some (.ref f) else none)) (RD : RdOK w page fx f aL) (ap1 : ∀ p ∈ fx, p.1 ≠ d) (ap2 : ∀ p ∈ fx, p.1 ≠ aL), wpAny (model PySem.Challenge.rw_to0028_01.row.prog w) ⟨none, dp, fr, gd, un⟩ (call (.ref 67) [.ref x]) (TkPost w u k' line' sT pb d aL s) (fun _ _ => False) s
theorem qN : Nonempty qT := ⟨(PySem.W.aWorld 0, default, default, default, default, {}, default, default, default, default, default, default, default, default, default, default, default, default, default, default, default, default, default, default, default, default, default, default, default, default, default, default, default, default, default, default, default, default, default)⟩
noncomputable def qk : qT := (Classical.choice (drink qN fun v => qP v.1 v.2.1 v.2.2.1 v.2.2.2.1 v.2.2.2.2.1 v.2.2.2.2.2.1 v.2.2.2.2.2.2.1 v.2.2.2.2.2.2.2.1 v.2.2.2.2.2.2.2.2.1 v.2.2.2.2.2.2.2.2.2.1 v.2.2.2.2.2.2.2.2.2.2.1 v.2.2.2.2.2.2.2.2.2.2.2.1 v.2.2.2.2.2.2.2.2.2.2.2.2.1 v.2.2.2.2.2.2.2.2.2.2.2.2.2.1 v.2.2.2.2.2.2.2.2.2.2.2.2.2.2.1 v.2.2.2.2.2.2.2.2.2.2.2.2.2.2.2.1 v.2.2.2.2.2.2.2.2.2.2.2.2.2.2.2.2.1 v.2.2.2.2.2.2.2.2.2.2.2.2.2.2.2.2.2.1 v.2.2.2.2.2.2.2.2.2.2.2.2.2.2.2.2.2.2.1 v.2.2.2.2.2.2.2.2.2.2.2.2.2.2.2.2.2.2.2.1 v.2.2.2.2.2.2.2.2.2.2.2.2.2.2.2.2.2.2.2.2.1 v.2.2.2.2.2.2.2.2.2.2.2.2.2.2.2.2.2.2.2.2.2.1 v.2.2.2.2.2.2.2.2.2.2.2.2.2.2.2.2.2.2.2.2.2.2.1 v.2.2.2.2.2.2.2.2.2.2.2.2.2.2.2.2.2.2.2.2.2.2.2.1 v.2.2.2.2.2.2.2.2.2.2.2.2.2.2.2.2.2.2.2.2.2.2.2.2.1 v.2.2.2.2.2.2.2.2.2.2.2.2.2.2.2.2.2.2.2.2.2.2.2.2.2.1 v.2.2.2.2.2.2.2.2.2.2.2.2.2.2.2.2.2.2.2.2.2.2.2.2.2.2.1 v.2.2.2.2.2.2.2.2.2.2.2.2.2.2.2.2.2.2.2.2.2.2.2.2.2.2.2.1 v.2.2.2.2.2.2.2.2.2.2.2.2.2.2.2.2.2.2.2.2.2.2.2.2.2.2.2.2.1 v.2.2.2.2.2.2.2.2.2.2.2.2.2.2.2.2.2.2.2.2.2.2.2.2.2.2.2.2.2.1 v.2.2.2.2.2.2.2.2.2.2.2.2.2.2.2.2.2.2.2.2.2.2.2.2.2.2.2.2.2.2.1 v.2.2.2.2.2.2.2.2.2.2.2.2.2.2.2.2.2.2.2.2.2.2.2.2.2.2.2.2.2.2.2.1 v.2.2.2.2.2.2.2.2.2.2.2.2.2.2.2.2.2.2.2.2.2.2.2.2.2.2.2.2.2.2.2.2.1 v.2.2.2.2.2.2.2.2.2.2.2.2.2.2.2.2.2.2.2.2.2.2.2.2.2.2.2.2.2.2.2.2.2.1 v.2.2.2.2.2.2.2.2.2.2.2.2.2.2.2.2.2.2.2.2.2.2.2.2.2.2.2.2.2.2.2.2.2.2.1 v.2.2.2.2.2.2.2.2.2.2.2.2.2.2.2.2.2.2.2.2.2.2.2.2.2.2.2.2.2.2.2.2.2.2.2.1 v.2.2.2.2.2.2.2.2.2.2.2.2.2.2.2.2.2.2.2.2.2.2.2.2.2.2.2.2.2.2.2.2.2.2.2.2.1 v.2.2.2.2.2.2.2.2.2.2.2.2.2.2.2.2.2.2.2.2.2.2.2.2.2.2.2.2.2.2.2.2.2.2.2.2.2.1 v.2.2.2.2.2.2.2.2.2.2.2.2.2.2.2.2.2.2.2.2.2.2.2.2.2.2.2.2.2.2.2.2.2.2.2.2.2.2)).1
noncomputable def w : World := qk.1
noncomputable def lo : List Str := qk.2.1
noncomputable def me : ExcName → Option Value := qk.2.2.1
noncomputable def mg : Str → Option Value := qk.2.2.2.1
noncomputable def mb : Str → Option Value := qk.2.2.2.2.1
noncomputable def s : Shared := qk.2.2.2.2.2.1
noncomputable def h₀ : Heap := qk.2.2.2.2.2.2.1
noncomputable def dp : Nat := qk.2.2.2.2.2.2.2.1
noncomputable def fr : Option (List Env) := qk.2.2.2.2.2.2.2.2.1
noncomputable def gd : Option (List Code) := qk.2.2.2.2.2.2.2.2.2.1
noncomputable def un : Nat := qk.2.2.2.2.2.2.2.2.2.2.1
noncomputable def page : Str := qk.2.2.2.2.2.2.2.2.2.2.2.1
noncomputable def x : Nat := qk.2.2.2.2.2.2.2.2.2.2.2.2.1
noncomputable def d : Nat := qk.2.2.2.2.2.2.2.2.2.2.2.2.2.1
noncomputable def sT : Nat := qk.2.2.2.2.2.2.2.2.2.2.2.2.2.2.1
noncomputable def sd : Nat := qk.2.2.2.2.2.2.2.2.2.2.2.2.2.2.2.1
noncomputable def f : Nat := qk.2.2.2.2.2.2.2.2.2.2.2.2.2.2.2.2.1
noncomputable def aL : Nat := qk.2.2.2.2.2.2.2.2.2.2.2.2.2.2.2.2.2.1
noncomputable def pb : Nat := qk.2.2.2.2.2.2.2.2.2.2.2.2.2.2.2.2.2.2.1
noncomputable def k : Nat := qk.2.2.2.2.2.2.2.2.2.2.2.2.2.2.2.2.2.2.2.1
noncomputable def n0 : Nat := qk.2.2.2.2.2.2.2.2.2.2.2.2.2.2.2.2.2.2.2.2.1
noncomputable def n1 : Nat := qk.2.2.2.2.2.2.2.2.2.2.2.2.2.2.2.2.2.2.2.2.2.1
noncomputable def n2 : Nat := qk.2.2.2.2.2.2.2.2.2.2.2.2.2.2.2.2.2.2.2.2.2.2.1
noncomputable def line : Int := qk.2.2.2.2.2.2.2.2.2.2.2.2.2.2.2.2.2.2.2.2.2.2.2.1
noncomputable def oD : Obj := qk.2.2.2.2.2.2.2.2.2.2.2.2.2.2.2.2.2.2.2.2.2.2.2.2.1
noncomputable def a : Tok := qk.2.2.2.2.2.2.2.2.2.2.2.2.2.2.2.2.2.2.2.2.2.2.2.2.2.1
noncomputable def b : Tok := qk.2.2.2.2.2.2.2.2.2.2.2.2.2.2.2.2.2.2.2.2.2.2.2.2.2.2.1
noncomputable def c : Tok := qk.2.2.2.2.2.2.2.2.2.2.2.2.2.2.2.2.2.2.2.2.2.2.2.2.2.2.2.1
noncomputable def e : Tok := qk.2.2.2.2.2.2.2.2.2.2.2.2.2.2.2.2.2.2.2.2.2.2.2.2.2.2.2.2.1
noncomputable def f' : Tok := qk.2.2.2.2.2.2.2.2.2.2.2.2.2.2.2.2.2.2.2.2.2.2.2.2.2.2.2.2.2.1
noncomputable def g' : Tok := qk.2.2.2.2.2.2.2.2.2.2.2.2.2.2.2.2.2.2.2.2.2.2.2.2.2.2.2.2.2.2.1
noncomputable def tA : Tok := qk.2.2.2.2.2.2.2.2.2.2.2.2.2.2.2.2.2.2.2.2.2.2.2.2.2.2.2.2.2.2.2.1
noncomputable def fd : FuncData := qk.2.2.2.2.2.2.2.2.2.2.2.2.2.2.2.2.2.2.2.2.2.2.2.2.2.2.2.2.2.2.2.2.1
noncomputable def fdF : FuncData := qk.2.2.2.2.2.2.2.2.2.2.2.2.2.2.2.2.2.2.2.2.2.2.2.2.2.2.2.2.2.2.2.2.2.1
noncomputable def sl : Array (Option Value) := qk.2.2.2.2.2.2.2.2.2.2.2.2.2.2.2.2.2.2.2.2.2.2.2.2.2.2.2.2.2.2.2.2.2.2.1
noncomputable def slF : Array (Option Value) := qk.2.2.2.2.2.2.2.2.2.2.2.2.2.2.2.2.2.2.2.2.2.2.2.2.2.2.2.2.2.2.2.2.2.2.2.1
noncomputable def fx : List (Addr × Obj) := qk.2.2.2.2.2.2.2.2.2.2.2.2.2.2.2.2.2.2.2.2.2.2.2.2.2.2.2.2.2.2.2.2.2.2.2.2.1
noncomputable def ocF : Value := qk.2.2.2.2.2.2.2.2.2.2.2.2.2.2.2.2.2.2.2.2.2.2.2.2.2.2.2.2.2.2.2.2.2.2.2.2.2.1
noncomputable def odF : Option Addr := qk.2.2.2.2.2.2.2.2.2.2.2.2.2.2.2.2.2.2.2.2.2.2.2.2.2.2.2.2.2.2.2.2.2.2.2.2.2.2
theorem qA (h : qP w lo me mg mb s h₀ dp fr gd un page x d sT sd f aL pb k n0 n1 n2 line oD a b c e f' g' tA fd fdF sl slF fx ocF odF) (w : World) (lo : List Str) (me : ExcName → Option Value) (mg : Str → Option Value) (mb : Str → Option Value) (s : Shared) (h₀ : Heap) (dp : Nat) (fr : Option (List Env)) (gd : Option (List Code)) (un : Nat) (page : Str) (x : Nat) (d : Nat) (sT : Nat) (sd : Nat) (f : Nat) (aL : Nat) (pb : Nat) (k : Nat) (n0 : Nat) (n1 : Nat) (n2 : Nat) (line : Int) (oD : Obj) (a : Tok) (b : Tok) (c : Tok) (e : Tok) (f' : Tok) (g' : Tok) (tA : Tok) (fd : FuncData) (fdF : FuncData) (sl : Array (Option Value)) (slF : Array (Option Value)) (fx : List (Addr × Obj)) (ocF : Value) (odF : Option Addr) : qP w lo me mg mb s h₀ dp fr gd un page x d sT sd f aL pb k n0 n1 n2 line oD a b c e f' g' tA fd fdF sl slF fx ocF odF := (Classical.choice (drink qN fun v => qP v.1 v.2.1 v.2.2.1 v.2.2.2.1 v.2.2.2.2.1 v.2.2.2.2.2.1 v.2.2.2.2.2.2.1 v.2.2.2.2.2.2.2.1 v.2.2.2.2.2.2.2.2.1 v.2.2.2.2.2.2.2.2.2.1 v.2.2.2.2.2.2.2.2.2.2.1 v.2.2.2.2.2.2.2.2.2.2.2.1 v.2.2.2.2.2.2.2.2.2.2.2.2.1 v.2.2.2.2.2.2.2.2.2.2.2.2.2.1 v.2.2.2.2.2.2.2.2.2.2.2.2.2.2.1 v.2.2.2.2.2.2.2.2.2.2.2.2.2.2.2.1 v.2.2.2.2.2.2.2.2.2.2.2.2.2.2.2.2.1 v.2.2.2.2.2.2.2.2.2.2.2.2.2.2.2.2.2.1 v.2.2.2.2.2.2.2.2.2.2.2.2.2.2.2.2.2.2.1 v.2.2.2.2.2.2.2.2.2.2.2.2.2.2.2.2.2.2.2.1 v.2.2.2.2.2.2.2.2.2.2.2.2.2.2.2.2.2.2.2.2.1 v.2.2.2.2.2.2.2.2.2.2.2.2.2.2.2.2.2.2.2.2.2.1 v.2.2.2.2.2.2.2.2.2.2.2.2.2.2.2.2.2.2.2.2.2.2.1 v.2.2.2.2.2.2.2.2.2.2.2.2.2.2.2.2.2.2.2.2.2.2.2.1 v.2.2.2.2.2.2.2.2.2.2.2.2.2.2.2.2.2.2.2.2.2.2.2.2.1 v.2.2.2.2.2.2.2.2.2.2.2.2.2.2.2.2.2.2.2.2.2.2.2.2.2.1 v.2.2.2.2.2.2.2.2.2.2.2.2.2.2.2.2.2.2.2.2.2.2.2.2.2.2.1 v.2.2.2.2.2.2.2.2.2.2.2.2.2.2.2.2.2.2.2.2.2.2.2.2.2.2.2.1 v.2.2.2.2.2.2.2.2.2.2.2.2.2.2.2.2.2.2.2.2.2.2.2.2.2.2.2.2.1 v.2.2.2.2.2.2.2.2.2.2.2.2.2.2.2.2.2.2.2.2.2.2.2.2.2.2.2.2.2.1 v.2.2.2.2.2.2.2.2.2.2.2.2.2.2.2.2.2.2.2.2.2.2.2.2.2.2.2.2.2.2.1 v.2.2.2.2.2.2.2.2.2.2.2.2.2.2.2.2.2.2.2.2.2.2.2.2.2.2.2.2.2.2.2.1 v.2.2.2.2.2.2.2.2.2.2.2.2.2.2.2.2.2.2.2.2.2.2.2.2.2.2.2.2.2.2.2.2.1 v.2.2.2.2.2.2.2.2.2.2.2.2.2.2.2.2.2.2.2.2.2.2.2.2.2.2.2.2.2.2.2.2.2.1 v.2.2.2.2.2.2.2.2.2.2.2.2.2.2.2.2.2.2.2.2.2.2.2.2.2.2.2.2.2.2.2.2.2.2.1 v.2.2.2.2.2.2.2.2.2.2.2.2.2.2.2.2.2.2.2.2.2.2.2.2.2.2.2.2.2.2.2.2.2.2.2.1 v.2.2.2.2.2.2.2.2.2.2.2.2.2.2.2.2.2.2.2.2.2.2.2.2.2.2.2.2.2.2.2.2.2.2.2.2.1 v.2.2.2.2.2.2.2.2.2.2.2.2.2.2.2.2.2.2.2.2.2.2.2.2.2.2.2.2.2.2.2.2.2.2.2.2.2.1 v.2.2.2.2.2.2.2.2.2.2.2.2.2.2.2.2.2.2.2.2.2.2.2.2.2.2.2.2.2.2.2.2.2.2.2.2.2.2)).2 h (w, lo, me, mg, mb, s, h₀, dp, fr, gd, un, page, x, d, sT, sd, f, aL, pb, k, n0, n1, n2, line, oD, a, b, c, e, f', g', tA, fd, fdF, sl, slF, fx, ocF, odF)
set_option maxHeartbeats 2000000 in
theorem qW : qP w lo me mg mb s h₀ dp fr gd un page x d sT sd f aL pb k n0 n1 n2 line oD a b c e f' g' tA fd fdF sl slF fx ocF odF := by
  intro u k' line' g hd' hu' hk S o1 o2 o3 o4 o5 o6 hD RD ap1 ap2
  have X := g.hid.X
  have T := g.hid.T
  refine wpAny_call ?_
  (refine' enterXK (K := Mine.Kc w.params) X T g.at' ?k8 ?k6 ?k7 ?k9 ?kB ?_ ?c2 ?c3 ?c4 ?c5; (case k6 => k_is); (case k7 => k_is); (case k8 => exact (show dp < recursionLimit by omega)); (case k9 => exact BindsTo.of_eq rfl); (case c5 => decide); (case kB => exact locs rfl); (case c2 => exact rfl); (case c3 => exact rfl); (case c4 => exact rfl))
  intro h1 F N
  simp only [lxD] at N
  k_steps
  refine unstop ?_
  rename News _ _ _ _ => N2
  rename Fr _ _ _ _ => F2
  rename _ ∧ _ => l1
  obtain ⟨p1, p2, p3, p4, p5, p6, p7, pA⟩ := l1
  refine iter_led F2 N2 fun h3 ci F3 N3 l3 => ?_
  clear F2 N2
  have o8 := l3 _ (.head _)
  dsimp only at o8
  clear l3
  k_steps
  rename News _ _ _ _ => N4
  rename Fr _ _ _ _ => F4
  have at' := g.at'
  clear g N
  refine ci_iter (N4 _ (.head _)).1 ?_
  refine lead S F4 N4 rfl hk ?core ?nl
  case nl =>
    intro hc S1 go
    refine for_turn (draw1 X T F4 N4 ⟨rfl, (show dp + 1 + 8 < recursionLimit by omega), (show un + 3 + 60 < cLine by omega)⟩ (by omega) o1 o2 o3 o4 o5 o6 p1 o8 hD RD ap1 ap2 (allLt_mem pA) (by decide) hc (nl_1 hc) (kk_1 hc rfl) ?_)
    intro h5 tk5 a5 b5 c5 e5 f5 g5 n5 tA5 m5 tc F5 N5
    clear F4 N4
    refine wpAny_of_eq rfl ?_
    have w1 : List.isEmpty (Builtin.Str.occurrences (Str.ofString "\n\t\x0d ") (Str.ofString "\n") 0 (Str.length (Str.ofString "\n\t\x0d ")) 1) = false := by decide +kernel
    k_steps
    all_goals try (exfalso; rename List.isEmpty _ = _ => hw; exact Bool.noConfusion (hw.symm.trans w1))
    rename News _ _ _ _ => N6
    rename Fr _ _ _ _ => F6
    exact go _ _ _ _ _ _ _ _ _ _ _ _ F6 N6
  case core =>
    intro c? k line h5 tk5 a5 b5 c5 e5 f5 g5 n5 tA5 m5 hk S F5 N5
    clear F4 N4
    cases S with
    | done hc =>
      refine for_turn (draw X T F5 N5 ⟨rfl, (show dp + 1 + 8 < recursionLimit by omega), (show un + 3 + 60 < cLine by omega)⟩ (by omega) o1 o2 o3 o4 o5 o6 p1 o8 hD RD ap1 ap2 (allLt_mem pA) ?hE fun h => absurd hc h)
      intro _ h6 tk6 a6 b6 c6 e6 f6 g6 n6 tA6 m6 F6 N6
      rw [nl_0 hc (by decide), hc] at N6
      clear F5 N5
      k_steps
      exact tk_fin (pre := [(_, _)]) at' F6 N6 rfl
    | esc hu c1 c2 c3 =>
      obtain ⟨u1, u2, u3, u4, u5, u6⟩ := hu
      refine for_turn (draw1 X T F5 N5 ⟨rfl, (show dp + 1 + 8 < recursionLimit by omega), (show un + 3 + 60 < cLine by omega)⟩ (by omega) o1 o2 o3 o4 o5 o6 p1 o8 hD RD ap1 ap2 (allLt_mem pA) (by decide) c1 (nl_0 c1 (by decide)) (kk_1 c1 rfl) ?_)
      intro h6 tk6 a6 b6 c6 e6 f6 g6 n6 tA6 m6 tc6 F6 N6
      clear F5 N5
      refine wpAny_of_eq rfl ?_
      have w1 : List.isEmpty (Builtin.Str.occurrences (Str.ofString "\n\t\x0d ") (Str.ofString "\\") 0 (Str.length (Str.ofString "\n\t\x0d ")) 1) = true := by decide +kernel
      k_steps
      all_goals try (exfalso; rename List.isEmpty _ = _ => hw; exact Bool.noConfusion (hw.symm.trans w1))
      refine unstop ?_
      rename News _ _ _ _ => N7
      rename Fr _ _ _ _ => F7
      refine read1 X T F7 N7 ⟨rfl, (show dp + 1 + 8 < recursionLimit by omega), (show un + 3 + 60 < cLine by omega)⟩ (by omega) o1 o2 o3 o4 o5 o6 p1 o8 hD RD ap1 ap2 (allLt_mem pA) c2 (nl_0 c2 u6) (kk_1 c2 u4) ?_
      intro h8 tk8 a8 b8 c8 e8 f8 g8 n8 tA8 m8 tc8 F8 N8
      clear F7 N7 w1
      k_steps
      rename News _ _ _ _ => N9
      rename Fr _ _ _ _ => F9
      refine ci_iter (N9 _ (.head _)).1 ?_
      refine for_turn (draw1 X T F9 N9 ⟨rfl, (show dp + 1 + 8 < recursionLimit by omega), (show un + 3 + 60 < cLine by omega)⟩ (by omega) o1 o2 o3 o4 o5 o6 p1 o8 hD RD ap1 ap2 (allLt_mem pA) (by decide) c3 (nl_1 c3) (kk_1 c3 rfl) ?_)
      intro h10 tk10 a10 b10 c10 e10 f10 g10 n10 tA10 m10 tc10 F10 N10
      clear F9 N9
      refine wpAny_of_eq rfl ?_
      have w1 : List.isEmpty (Builtin.Str.occurrences (Str.ofString "\n\t\x0d ") (Str.ofString "\n") 0 (Str.length (Str.ofString "\n\t\x0d ")) 1) = false := by decide +kernel
      k_steps
      all_goals try (exfalso; rename List.isEmpty _ = _ => hw; exact Bool.noConfusion (hw.symm.trans w1))
      rename News _ _ _ _ => N11
      rename Fr _ _ _ _ => F11
      exact tk_fin (pre := [(_, _), (_, _)]) at' F11 N11 (e_app _)
    | quo hu c1 c2 c3 =>
      obtain ⟨u1, u2, u3, u4, u5, u6⟩ := hu
      refine for_turn (draw1 X T F5 N5 ⟨rfl, (show dp + 1 + 8 < recursionLimit by omega), (show un + 3 + 60 < cLine by omega)⟩ (by omega) o1 o2 o3 o4 o5 o6 p1 o8 hD RD ap1 ap2 (allLt_mem pA) (by decide) c1 (nl_0 c1 (by decide)) (kk_1 c1 rfl) ?_)
      intro h6 tk6 a6 b6 c6 e6 f6 g6 n6 tA6 m6 tc6 F6 N6
      clear F5 N5
      refine wpAny_of_eq rfl ?_
      have w1 : List.isEmpty (Builtin.Str.occurrences (Str.ofString "\n\t\x0d ") (Str.ofString "\"") 0 (Str.length (Str.ofString "\n\t\x0d ")) 1) = true := by decide +kernel
      k_steps
      all_goals try (exfalso; rename List.isEmpty _ = _ => hw; exact Bool.noConfusion (hw.symm.trans w1))
      rename News _ _ _ _ => N7
      rename Fr _ _ _ _ => F7
      refine ci_iter (N7 _ (.head _)).1 ?_
      refine for_turn (draw1 X T F7 N7 ⟨rfl, (show dp + 1 + 8 < recursionLimit by omega), (show un + 3 + 60 < cLine by omega)⟩ (by omega) o1 o2 o3 o4 o5 o6 p1 o8 hD RD ap1 ap2 (allLt_mem pA) u5 c2 (nl_0 c2 u6) (kk_1 c2 u4) ?_)
      intro h8 tk8 a8 b8 c8 e8 f8 g8 n8 tA8 m8 tc8 F8 N8
      clear F7 N7 w1
      refine wpAny_of_eq rfl ?_
      k_steps
      all_goals try (exfalso; rename (_ == _) = _ => hw; exact Bool.noConfusion (hw.symm.trans u1))
      all_goals try (exfalso; rename (_ == _) = _ => hw; exact Bool.noConfusion (hw.symm.trans u2))
      rename News _ _ _ _ => N9
      rename Fr _ _ _ _ => F9
      refine for_turn (draw1 X T F9 N9 ⟨rfl, (show dp + 1 + 8 < recursionLimit by omega), (show un + 3 + 60 < cLine by omega)⟩ (by omega) o1 o2 o3 o4 o5 o6 p1 o8 hD RD ap1 ap2 (allLt_mem pA) (by decide) c3 (nl_0 c3 (by decide)) (kk_1 c3 rfl) ?_)
      intro h10 tk10 a10 b10 c10 e10 f10 g10 n10 tA10 m10 tc10 F10 N10
      clear F9 N9
      refine wpAny_of_eq rfl ?_
      k_steps
      rename News _ _ _ _ => N11
      rename Fr _ _ _ _ => F11
      exact tk_fin (pre := [(_, _), (_, _)]) at' F11 N11 (e_app _)
    | bare hu c1 c2 =>
      obtain ⟨u1, u2, u3, u4, u5, u6⟩ := hu
      refine for_turn (draw1 X T F5 N5 ⟨rfl, (show dp + 1 + 8 < recursionLimit by omega), (show un + 3 + 60 < cLine by omega)⟩ (by omega) o1 o2 o3 o4 o5 o6 p1 o8 hD RD ap1 ap2 (allLt_mem pA) u5 c1 (nl_0 c1 u6) (kk_1 c1 u4) ?_)
      intro h6 tk6 a6 b6 c6 e6 f6 g6 n6 tA6 m6 tc6 F6 N6
      clear F5 N5
      refine wpAny_of_eq rfl ?_
      k_steps
      all_goals try (exfalso; rename List.isEmpty _ = _ => hw; exact Bool.noConfusion (hw.symm.trans u3))
      all_goals try (exfalso; rename (_ == _) = _ => hw; exact Bool.noConfusion (hw.symm.trans u1))
      all_goals try (exfalso; rename (_ == _) = _ => hw; exact Bool.noConfusion (hw.symm.trans u2))
      rename News _ _ _ _ => N7
      rename Fr _ _ _ _ => F7
      refine ci_iter (N7 _ (.head _)).1 ?_
      refine for_turn (draw1 X T F7 N7 ⟨rfl, (show dp + 1 + 8 < recursionLimit by omega), (show un + 3 + 60 < cLine by omega)⟩ (by omega) o1 o2 o3 o4 o5 o6 p1 o8 hD RD ap1 ap2 (allLt_mem pA) (by decide) c2 (nl_1 c2) (kk_1 c2 rfl) ?_)
      intro h10 tk10 a10 b10 c10 e10 f10 g10 n10 tA10 m10 tc10 F10 N10
      clear F7 N7
      refine wpAny_of_eq rfl ?_
      have w1 : List.isEmpty (Builtin.Str.occurrences (Str.ofString "\n\t\x0d ") (Str.ofString "\n") 0 (Str.length (Str.ofString "\n\t\x0d ")) 1) = false := by decide +kernel
      k_steps
      all_goals try (exfalso; rename List.isEmpty _ = _ => hw; exact Bool.noConfusion (hw.symm.trans w1))
      rename News _ _ _ _ => N11
      rename Fr _ _ _ _ => F11
      exact tk_fin (pre := [(_, _), (_, _)]) at' F11 N11 (e_app _)
end GC
end
theorem get_c {w : World} {lo : List Str} {me : ExcName → Option Value} {mg mb : Str → Option Value} {A : Around} {s : Shared} {h₀ : Heap} {page : Str} {x d sT sd f aL pb k n0 n1 n2 : Nat} {line : Int} {oD : Obj} {a b c e f' g' tA : Tok} {fd fdF : FuncData} {sl slF : Array (Option Value)} {fx : List (Addr × Obj)} {ocF : Value} {odF : Option Addr} {u : Str} {k' : Nat} {line' : Int}
    (g : Got w lo me mg mb h₀ s.heap ((pb, listOf #[] n0) :: (d, lxD w.params line sT pb a b c e f' g' n1) :: (aL, listOf #[.int k tA] n2) :: (x, instObj 77 d) :: (sT, ⟨.type "function", some sd, .func fd, sl⟩) :: (sd, oD) :: (f, ⟨ocF, odF, .func fdF, slF⟩) :: fx)) (R : Rm A 12 100) (hk : k ≤ 90) (S : Sh page k line u k' line')
    (o1 : aL < f) (o2 : f < sT) (o3 : sT < sd) (o4 : sd < d) (o5 : d < x) (o6 : x < pb) (hD : NsO oD (fun y => if y = "read" then some (.ref f) else none)) (RD : RdOK w page fx f aL) (ap1 : ∀ p ∈ fx, p.1 ≠ d) (ap2 : ∀ p ∈ fx, p.1 ≠ aL) :
    wpAny (model PySem.Challenge.rw_to0028_01.row.prog w) A (call (.ref 67) [.ref x]) (TkPost w u k' line' sT pb d aL s) (fun _ _ => False) s := by
  obtain ⟨hh, hd0, hu0⟩ := R
  obtain ⟨_, dp, fr, gd, un⟩ := A
  cases hh
  exact GC.qA GC.qW w lo me mg mb s h₀ dp fr gd un page x d sT sd f aL pb k n0 n1 n2 line oD a b c e f' g' tA fd fdF sl slF fx ocF odF u k' line' g hd0 hu0 hk S o1 o2 o3 o4 o5 o6 hD RD ap1 ap2

end

section
theorem part_insort : True := by
  w_top off
  exact trivial
def insF (xs : List Int) (x : Int) : List Int := xs.take (bisGo (fun i => xs.getD i 0) x xs.length 0 xs.length) ++ x :: xs.drop (bisGo (fun i => xs.getD i 0) x xs.length 0 xs.length)
def InsPost (xs : List Int) (x : Int) (aa : Nat) (s : Shared) (v : Value) (s' : Shared) : Prop := ∃ h' t2 n' vs', v = .none ∧ s' = { s with heap := h', toks := t2 } ∧ (∀ b o, b ≠ aa → s.heap.get? b = some o → h'.get? b = some o) ∧ h'.get? aa = some (listOf (vs' : List Value).toArray n') ∧ IntsAre vs' (insF xs x)
theorem ints_ins {vs : List Value} {xs : List Int} (h : IntsAre vs xs) (k : Nat) (x : Int) (t : Tok) : IntsAre (vs.take k ++ .int x t :: vs.drop k) (xs.take k ++ x :: xs.drop k) := by
  induction k generalizing vs xs with
  | zero => exact .cons x t h
  | succ k ih =>
    cases h with
    | nil => exact .cons x t .nil
    | cons y u h => exact .cons y u (ih h)
theorem fits_ix (k : Nat) (h : k ≤ 500) : Builtin.List.listFitsIndex (k : Int) = true := by
  simp only [Builtin.List.listFitsIndex]
  simp
  omega
theorem ins_at (vs : List Value) (n k : Nat) (y : Value) (hl : vs.length = n) (hk : k ≤ n) : kl_ins vs.toArray.toList (k : Int) y = vs.take k ++ y :: vs.drop k := by
  have e : min (k : Int).toNat vs.toArray.toList.length = k := by simp; omega
  unfold kl_ins
  rw [if_neg (by omega), e]
section
local macro_rules | `(tactic| walk_at "call ref") => `(tactic| (k_here; refine stop ?_))
local macro_rules | `(tactic| walk_at "call builtin:list.insert") => `(tactic| (k_here; refine stop ?_))
namespace SC
abbrev qT := (World) × (List Str) × (ExcName → Option Value) × (Str → Option Value) × (Str → Option Value) × (Nat) × (Option (List Env)) × (Option (List Code)) × (Nat) × (Shared) × (Heap) × (Nat) × (Nat) × (Tok)
def qP (w : World) (lo : List Str) (me : ExcName → Option Value) (mg : Str → Option Value) (mb : Str → Option Value) (dp : Nat) (fr : Option (List Env)) (gd : Option (List Code)) (un : Nat) (s : Shared) (h₀ : Heap) (aa : Nat) (n : Nat) (t : Tok) : Prop := ∀ (vs : List Value) (xs : List Int) (g : Got w lo me mg mb h₀ s.heap [(aa, listOf vs.toArray n)]) (hd' : dp + 4 < recursionLimit) (hu' : un + 40 < cLine) (hI : IntsAre vs xs) (hn : xs.length ≤ 500) (x : Int), wpAny (model PySem.Challenge.rw_to0028_01.row.prog w) ⟨none, dp, fr, gd, un⟩ (call (.ref 30) [.ref aa, .int x t]) (InsPost xs x aa s) (fun _ _ => False) s
theorem qN : Nonempty qT := ⟨(PySem.W.aWorld 0, default, default, default, default, default, default, default, default, {}, default, default, default, default)⟩
noncomputable def qk : qT := (Classical.choice (drink qN fun v => qP v.1 v.2.1 v.2.2.1 v.2.2.2.1 v.2.2.2.2.1 v.2.2.2.2.2.1 v.2.2.2.2.2.2.1 v.2.2.2.2.2.2.2.1 v.2.2.2.2.2.2.2.2.1 v.2.2.2.2.2.2.2.2.2.1 v.2.2.2.2.2.2.2.2.2.2.1 v.2.2.2.2.2.2.2.2.2.2.2.1 v.2.2.2.2.2.2.2.2.2.2.2.2.1 v.2.2.2.2.2.2.2.2.2.2.2.2.2)).1
noncomputable def w : World := qk.1
noncomputable def lo : List Str := qk.2.1
noncomputable def me : ExcName → Option Value := qk.2.2.1
noncomputable def mg : Str → Option Value := qk.2.2.2.1
noncomputable def mb : Str → Option Value := qk.2.2.2.2.1
noncomputable def dp : Nat := qk.2.2.2.2.2.1
noncomputable def fr : Option (List Env) := qk.2.2.2.2.2.2.1
noncomputable def gd : Option (List Code) := qk.2.2.2.2.2.2.2.1
noncomputable def un : Nat := qk.2.2.2.2.2.2.2.2.1
noncomputable def s : Shared := qk.2.2.2.2.2.2.2.2.2.1
noncomputable def h₀ : Heap := qk.2.2.2.2.2.2.2.2.2.2.1
noncomputable def aa : Nat := qk.2.2.2.2.2.2.2.2.2.2.2.1
noncomputable def n : Nat := qk.2.2.2.2.2.2.2.2.2.2.2.2.1
noncomputable def t : Tok := qk.2.2.2.2.2.2.2.2.2.2.2.2.2
theorem qA (h : qP w lo me mg mb dp fr gd un s h₀ aa n t) (w : World) (lo : List Str) (me : ExcName → Option Value) (mg : Str → Option Value) (mb : Str → Option Value) (dp : Nat) (fr : Option (List Env)) (gd : Option (List Code)) (un : Nat) (s : Shared) (h₀ : Heap) (aa : Nat) (n : Nat) (t : Tok) : qP w lo me mg mb dp fr gd un s h₀ aa n t := (Classical.choice (drink qN fun v => qP v.1 v.2.1 v.2.2.1 v.2.2.2.1 v.2.2.2.2.1 v.2.2.2.2.2.1 v.2.2.2.2.2.2.1 v.2.2.2.2.2.2.2.1 v.2.2.2.2.2.2.2.2.1 v.2.2.2.2.2.2.2.2.2.1 v.2.2.2.2.2.2.2.2.2.2.1 v.2.2.2.2.2.2.2.2.2.2.2.1 v.2.2.2.2.2.2.2.2.2.2.2.2.1 v.2.2.2.2.2.2.2.2.2.2.2.2.2)).2 h (w, lo, me, mg, mb, dp, fr, gd, un, s, h₀, aa, n, t)
set_option maxHeartbeats 1000000 in
theorem qW : qP w lo me mg mb dp fr gd un s h₀ aa n t := by
  intro vs xs g hd' hu' hI hn x
  have X := g.hid.X
  have T := g.hid.T
  refine wpAny_call ?_
  (refine' enterXK (K := Mine.Kc w.params) X T g.at' ?k8 ?k6 ?k7 ?k9 ?kB ?_ ?c2 ?c3 ?c4 ?c5; (case k6 => k_is); (case k7 => k_is); (case k8 => exact (show dp < recursionLimit by omega)); (case k9 => (refine' kp_binds ?kx ?ke; (case kx => exact X.keeps fun b o e => of_hideAll _ e); (case ke => exact fun _ => rfl))); (case c5 => decide); (case kB => exact locs rfl); (case c2 => exact rfl); (case c3 => exact rfl); (case c4 => exact rfl))
  intro h1 F N
  k_steps
  refine unstop ?_
  refine wpAny_mono (bisect_c (X.keeps F.keep) (T.keeps F.keep) ⟨rfl, (show dp + 1 + 2 < recursionLimit by omega), (show un + 3 + 20 < cLine by omega)⟩ aa vs xs hI ⟨_, (N _ (.head _)).1, rfl, _, rfl⟩ (by omega) x t _) (fun v s2 h => ?_) fun _ _ h => h
  obtain ⟨h2, tk2, rfl, k2, tt, rfl⟩ := h
  have F2 := F.keeps k2
  have N2 := N.keeps k2
  clear F N
  k_steps
  refine unstop ?_
  rename News _ _ _ _ => N4
  rename Fr _ _ _ _ => F4
  refine kl_insert F4 N4 (fits_ix _ (Nat.le_trans (bisGo_le _ _ _ _ _ (Nat.zero_le _)) hn)) (ins_at vs xs.length (bisGo (fun i => xs.getD i 0) x xs.length 0 xs.length) (.int x t) (by rw [hI.length]) (bisGo_le _ _ _ _ _ (Nat.zero_le _))) (.head (List.forall_mem_nil _)) (by show vs.length ≤ _; rw [hI.length]; exact Nat.le_trans hn (by decide)) fun h7 F7 N7 => ?_
  clear F4 N4
  k_steps
  have kk := fin_keep g.at' F7 N7 [aa] (List.forall_mem_cons.mpr ⟨.inl (.head _), List.forall_mem_nil _⟩)
  exact ⟨_, _, _, _, rfl, rfl, fun b o h1 => kk b o (fun hm => h1 (List.mem_singleton.mp hm)), (N7 _ (.head _)).1, ints_ins hI _ _ _⟩
end SC
end
section
variable {w : World} {lo : List Str} {me : ExcName → Option Value} {mg mb : Str → Option Value} {A : Around} {s : Shared} {h₀ : Heap}
theorem insort_c {aa n : Nat} {vs : List Value} {xs : List Int} (g : Got w lo me mg mb h₀ s.heap [(aa, listOf vs.toArray n)]) (R : Rm A 4 40) (hI : IntsAre vs xs) (hn : xs.length ≤ 500) (x : Int) (t : Tok) :
    wpAny (model PySem.Challenge.rw_to0028_01.row.prog w) A (call (.ref 30) [.ref aa, .int x t]) (InsPost xs x aa s) (fun _ _ => False) s := by
  obtain ⟨hh, hd0_, hu0_⟩ := R
  obtain ⟨_, dp, fr, gd, un⟩ := A
  cases hh
  exact SC.qA SC.qW w lo me mg mb dp fr gd un s h₀ aa n t vs xs g hd0_ hu0_ hI hn x
end

end

section
theorem part_inorder : True := by
  w_top off
  exact trivial
local macro_rules | `(tactic| walk_at "pad") => `(tactic| fail)
local macro_rules | `(tactic| walk_at "pad") => `(tactic| fail)
local macro_rules | `(tactic| walk_at "pad") => `(tactic| fail)
section
variable {w : World} {lo : List Str} {me : ExcName → Option Value} {mg mb : Str → Option Value} {A : Around} {s : Shared} {h₀ : Heap} {L : Addr} {m : Str → Option Value}
theorem get_w {page : Str} {x d sT sd f aL pb k n0 n1 n2 : Nat} {line : Int} {oD : Obj} {a b c e f' g' tA : Tok} {fd fdF : FuncData} {sl slF : Array (Option Value)} {fx pre : List (Addr × Obj)} {ocF : Value} {odF : Option Addr} {u : Str} {k' : Nat} {line' : Int} {Q : Value → Shared → Prop} {E : Value → Shared → Prop}
    (X : (Mine.Kc w.params).In h₀) (T : Top topProg lo me mg mb h₀) (F : Fr h₀ L s.heap m)
    (N : News h₀ L s.heap (pre ++ (pb, listOf #[] n0) :: (d, lxD w.params line sT pb a b c e f' g' n1) :: (aL, listOf #[.int k tA] n2) :: (x, instObj 77 d) :: (sT, ⟨.type "function", some sd, .func fd, sl⟩) :: (sd, oD) :: (f, ⟨ocF, odF, .func fdF, slF⟩) :: fx)) (R : Rm A 12 100) (hk : k ≤ 90) (S : Sh page k line u k' line')
    (o1 : aL < f) (o2 : f < sT) (o3 : sT < sd) (o4 : sd < d) (o5 : d < x) (o6 : x < pb) (hD : NsO oD (fun y => if y = "read" then some (.ref f) else none)) (RD : RdOK w page fx f aL) (ap1 : ∀ p ∈ fx, p.1 ≠ d) (ap2 : ∀ p ∈ fx, p.1 ≠ aL)
    (hp : ∀ p ∈ pre, p.1 ≠ aL ∧ p.1 ≠ d)
    (hS : ∀ h' tk a b c e f' g' n1 tA n2 tu, Fr h₀ L h' m → News h₀ L h' (pre ++ (pb, listOf #[] n0) :: (d, lxD w.params line' sT pb a b c e f' g' n1) :: (aL, listOf #[.int k' tA] n2) :: (x, instObj 77 d) :: (sT, ⟨.type "function", some sd, .func fd, sl⟩) :: (sd, oD) :: (f, ⟨ocF, odF, .func fdF, slF⟩) :: fx) → Q (.str u tu) { s with heap := h', toks := tk }) :
    wpAny (model PySem.Challenge.rw_to0028_01.row.prog w) A (call (.ref 67) [.ref x]) Q E s := by
  refine wpAny_mono (get_c (h₀ := h₀) ⟨⟨X, T⟩, F.keep, fun p hp => (N p (List.mem_append_right _ hp)).1, fun p hp => (N p (List.mem_append_right _ hp)).2.2⟩ R hk S o1 o2 o3 o4 o5 o6 hD RD ap1 ap2) (fun v s' h => ?_) fun _ _ h => h.elim
  obtain ⟨h', t1, t2, tk', n', a', b', c', e', f'', g'', n1', rfl, rfl, hkk, hal, hdd'⟩ := h
  have N0 : News h₀ L s.heap ((pre ++ [(pb, listOf #[] n0)]) ++ (d, lxD w.params line sT pb a b c e f' g' n1) :: (aL, listOf #[.int k tA] n2) :: ((x, instObj 77 d) :: (sT, ⟨.type "function", some sd, .func fd, sl⟩) :: (sd, oD) :: (f, ⟨ocF, odF, .func fdF, slF⟩) :: fx)) := by rw [List.append_assoc]; exact N
  have hp2 : ∀ p ∈ pre ++ [(pb, listOf #[] n0)], p.1 ≠ aL ∧ p.1 ≠ d := fun p hq => by
    rcases List.mem_append.mp hq with hq | hq
    · exact hp p hq
    · rw [List.mem_singleton.mp hq]; exact ⟨Nat.ne_of_gt (by kqd_sub), Nat.ne_of_gt (by kqd_sub)⟩
  obtain ⟨F', N'⟩ := led_two F N0 hkk hal hdd' hp2
        (List.forall_mem_cons.mpr ⟨⟨Nat.ne_of_gt (by kqd_sub), Nat.ne_of_gt (by kqd_sub)⟩, List.forall_mem_cons.mpr ⟨⟨Nat.ne_of_gt (by kqd_sub), Nat.ne_of_lt (by kqd_sub)⟩, List.forall_mem_cons.mpr ⟨⟨Nat.ne_of_gt (by kqd_sub), Nat.ne_of_lt (by kqd_sub)⟩, List.forall_mem_cons.mpr ⟨⟨Nat.ne_of_gt (by kqd_sub), Nat.ne_of_lt (by kqd_sub)⟩, fun p hp => ⟨ap2 p hp, ap1 p hp⟩⟩⟩⟩⟩)
  rw [List.append_assoc] at N'
  exact hS _ _ _ _ _ _ _ _ _ _ _ _ F' N'
end
theorem while_ord {prog : Program} {w : World} {A : Around} {env : Env} {h₀ : Heap} {s : Shared} {test : Expr} {body : List Stmt} {pos : Pos} {Q : Flow → Shared → Prop} {E : Value → Shared → Prop} {m : Str → Option Value} {r : Addr} {o : Obj} {rest : List (Addr × Obj)}
    (F : Fr h₀ env.locals s.heap m) (N : News h₀ env.locals s.heap ((r, o) :: rest)) (J : Addr → Nat → (Str → Option Value) → List (Addr × Obj) → Prop) (n : Nat) (h0 : J r n m ((r, o) :: rest))
    (turn : ∀ k m₁ news₁ h tk, J r k m₁ news₁ → Fr h₀ env.locals h m₁ → News h₀ env.locals h news₁ →
      wpAny (model prog w) A (isTrue test env (eval test env)) (fun b s₂ => if b = true then wpAny (model prog w) A (execs body env) (WEnd h₀ env.locals { s with heap := h, toks := tk } k (J r) Q) (fun _ _ => False) s₂ else Q .next s₂) (fun _ _ => False) { s with heap := h, toks := tk }) :
    wpAny (model prog w) A (exec (.While test body [] pos) env) Q E s := while_ruleF F N (J r) n h0 turn
def signOf (p : Int) : Str := (["+", "-", "*", "/", "|", "&", "<", ">"] : List Str).getD (p - 1).toNat ""
theorem insF_len (xs : List Int) (x : Int) : (insF xs x).length = xs.length + 1 := by
  unfold insF
  rw [List.length_append, List.length_cons, List.length_take, List.length_drop]
  have := bisGo_le (fun i => xs.getD i 0) x xs.length 0 xs.length (Nat.zero_le _)
  omega
section
variable {w : World} {lo : List Str} {me : ExcName → Option Value} {mg mb : Str → Option Value} {A : Around} {s : Shared} {h₀ : Heap} {L : Addr} {m : Str → Option Value}
theorem ins_w {Q : Value → Shared → Prop} {E : Value → Shared → Prop} {r n : Nat} {vs : List Value} {xs : List Int} {x : Int} {t : Tok} {post : List (Addr × Obj)} (X : (Mine.Kc w.params).In h₀) (T : Top topProg lo me mg mb h₀) (F : Fr h₀ L s.heap m) (N : News h₀ L s.heap ((r, listOf vs.toArray n) :: post)) (R : Rm A 4 40) (hI : IntsAre vs xs) (hn : xs.length ≤ 500)
    (hp : ∀ p ∈ post, p.1 ≠ r) (h : ∀ h' tk (vs' : List Value) n', IntsAre vs' (insF xs x) → Fr h₀ L h' m → News h₀ L h' ((r, listOf vs'.toArray n') :: post) → Q .none { s with heap := h', toks := tk }) :
    wpAny (model PySem.Challenge.rw_to0028_01.row.prog w) A (call (.ref 30) [.ref r, .int x t]) Q E s := by
  refine wpAny_mono (insort_c (h₀ := h₀) ⟨⟨X, T⟩, F.keep, List.forall_mem_cons.mpr ⟨(N _ (.head _)).1, List.forall_mem_nil _⟩, List.forall_mem_cons.mpr ⟨(N _ (.head _)).2.2, List.forall_mem_nil _⟩⟩ R hI hn x t) (fun v s' y => ?_) fun _ _ y => y.elim
  obtain ⟨h', t2, n', vs', rfl, rfl, hk, e, hI'⟩ := y
  obtain ⟨F', N'⟩ := led_set (pre := []) F N hk e (List.forall_mem_nil _) hp
  exact h _ _ _ _ hI' F' N'
end
theorem sign_ne {p : Int} (h1 : 1 ≤ p) (h8 : p ≤ 8) : ¬ (signOf p != Str.ofString "") = false := by
  rcases eight h1 h8 with rfl | rfl | rfl | rfl | rfl | rfl | rfl | rfl <;> decide
theorem each_of {κ : Type} [DecidableEq κ] {h₀ : Heap} {k : κ} {P : Value → Prop} {els : Prop} {d : KTD.Dat} : ∀ {D : List (κ × KTD.Dat)}, KTD.datumAt k D = some d → KTD.Opened h₀ P d → KTD.Each h₀ k P els D
  | [], h, _ => by simp [KTD.datumAt] at h
  | (x, d') :: D, h, o => by
    have hd' : (if decide (k = x) = true then some d' else KTD.datumAt k D) = some d := h
    show if decide (k = x) = true then KTD.Opened h₀ P d' else KTD.Each h₀ k P els D
    by_cases hx : k = x
    · rw [if_pos (decide_eq_true hx)] at hd' ⊢; cases hd'; exact o
    · rw [if_neg (by simp [hx])] at hd' ⊢; exact each_of hd' o
inductive Toks (page : Str) : Nat → Int → List Int → Nat → Int → Prop
  | nil {k k' : Nat} {line line' : Int} : k ≤ 90 → Sh page k line (Str.ofString "") k' line' → k' ≤ 90 → chAt page k' = Str.ofString "" → Toks page k line [] k' line'
  | cons {k k1 k' : Nat} {line line1 line' : Int} {p : Int} {ps : List Int} : k ≤ 90 → Sh page k line (signOf p) k1 line1 → 1 ≤ p → p ≤ 8 → Toks page k1 line1 ps k' line' → Toks page k line (p :: ps) k' line'
inductive Cur (page : Str) (k' : Nat) (line' : Int) : Str → Nat → Int → List Int → Prop
  | fin : Cur page k' line' (Str.ofString "") k' line' []
  | more {p : Int} {ps : List Int} {k1 : Nat} {line1 : Int} : 1 ≤ p → p ≤ 8 → Toks page k1 line1 ps k' line' → Cur page k' line' (signOf p) k1 line1 (p :: ps)
theorem Toks.get {page : Str} {k : Nat} {line : Int} {ps : List Int} {k' : Nat} {line' : Int} (h : Toks page k line ps k' line') : ∃ u k1 line1, k ≤ 90 ∧ Sh page k line u k1 line1 ∧ Cur page k' line' u k1 line1 ps := by
  cases h with
  | nil h1 h2 _ _ => exact ⟨_, _, _, h1, h2, .fin⟩
  | cons h1 h2 h3 h4 h5 => exact ⟨_, _, _, h1, h2, .more h3 h4 h5⟩
def insAll (acc : List Int) : List Int → List Int
  | [] => acc
  | p :: ps => insAll (insF acc p) ps
structure OrdJ (w : World) (page : Str) (k' : Nat) (line' : Int) (sT pb d aL x r n0 : Nat) (goal : List Int) (rest : List (Addr × Obj)) (n : Nat) (m' : Str → Option Value) (acc qs : List Int) (u : Str) (t : Tok) (k1 : Nat) (line1 : Int) : Prop where
  e1 : m' "word" = some (.str u t)
  e2 : m' "row" = some (.ref r)
  e3 : m' "lexer" = some (.ref x)
  hc : Cur page k' line' u k1 line1 qs
  hq : insAll acc qs = goal
  hn : acc.length + qs.length ≤ 20
  hk : n = qs.length
def OrdQ (w : World) (page : Str) (k' : Nat) (line' : Int) (sT pb d aL x r n0 : Nat) (goal : List Int) (rest : List (Addr × Obj)) (n : Nat) (m' : Str → Option Value) (news' : List (Addr × Obj)) : Prop := ∃ acc qs u t k1 line1 vs nr a b c e f' g' n1 tA n2, OrdJ w page k' line' sT pb d aL x r n0 goal rest n m' acc qs u t k1 line1 ∧ IntsAre vs acc ∧
  news' = (r, listOf (vs : List Value).toArray nr) :: (pb, listOf #[] n0) :: (d, lxD w.params line1 sT pb a b c e f' g' n1) :: (aL, listOf #[.int (k1 : Nat) tA] n2) :: rest
def OrdPost (w : World) (qs : List Int) (k' : Nat) (line' : Int) (sT pb d aL : Nat) (s : Shared) (v : Value) (s' : Shared) : Prop := ∃ h' t2 r nr vs tk' n' a b c e f' g' n1, v = .ref r ∧ s' = { s with heap := h', toks := t2 } ∧ (∀ b o, b ≠ aL → b ≠ d → s.heap.get? b = some o → h'.get? b = some o) ∧
      h'.get? aL = some (listOf #[.int (k' : Nat) tk'] n') ∧ h'.get? d = some (lxD w.params line' sT pb a b c e f' g' n1) ∧ s.heap.get? r = none ∧ h'.get? r = some (listOf (vs : List Value).toArray nr) ∧ IntsAre vs qs
theorem ord_fin {w : World} {L : Addr} {m : Str → Option Value} {aL d pb sT sd x f r k' n1 n1' n2 n2' nr t2 : Nat} {line line' : Int} {a b c e f' g' a' b' c' e' f'' g'' tA tA' : Tok} {k : Int} {fx : List (Addr × Obj)} {s : Shared} {h' : Heap} {oP oX oS oD oF : Obj} {vs : List Value} {qs acc : List Int}
    (at' : ∀ p ∈ (pb, oP) :: (d, lxD w.params line sT pb a b c e f' g' n1) :: (aL, listOf #[.int k tA] n2) :: (x, oX) :: (sT, oS) :: (sd, oD) :: (f, oF) :: fx, s.heap.get? p.1 = some p.2) (F : Fr (hid s.heap ((pb, oP) :: (d, lxD w.params line sT pb a b c e f' g' n1) :: (aL, listOf #[.int k tA] n2) :: (x, oX) :: (sT, oS) :: (sd, oD) :: (f, oF) :: fx)) L h' m)
    (N : News (hid s.heap ((pb, oP) :: (d, lxD w.params line sT pb a b c e f' g' n1) :: (aL, listOf #[.int k tA] n2) :: (x, oX) :: (sT, oS) :: (sd, oD) :: (f, oF) :: fx)) L h' ((r, listOf vs.toArray nr) :: (pb, oP) :: (d, lxD w.params line' sT pb a' b' c' e' f'' g'' n1') :: (aL, listOf #[.int (k' : Nat) tA'] n2') :: (x, oX) :: (sT, oS) :: (sd, oD) :: (f, oF) :: fx)) (hI : IntsAre vs acc) (hq : acc = qs)
    (p1 : pb < r) (p2 : d < r) (p3 : aL < r) (p4 : x < r) (p5 : sT < r) (p6 : sd < r) (p7 : f < r) (pA : AllLt r fx) :
    OrdPost w qs k' line' sT pb d aL s (.ref r) { s with heap := h', toks := t2 } := by
  subst hq
  have kk := fin_keep at' F N [aL, d] fun p hp => (tk_same p hp).imp_right (List.mem_cons_of_mem _)
  exact ⟨_, _, _, _, _, _, _, _, _, _, _, _, _, _, rfl, rfl, fun b o h1 h2 => kk b o (by simp [h1, h2]), (N _ (.tail _ (.tail _ (.tail _ (.head _))))).1, (N _ (.tail _ (.tail _ (.head _)))).1,
    fin_new N (.head _) (List.forall_mem_cons.mpr ⟨Nat.ne_of_lt p1, List.forall_mem_cons.mpr ⟨Nat.ne_of_lt p2, List.forall_mem_cons.mpr ⟨Nat.ne_of_lt p3, List.forall_mem_cons.mpr ⟨Nat.ne_of_lt p4, List.forall_mem_cons.mpr ⟨Nat.ne_of_lt p5, List.forall_mem_cons.mpr ⟨Nat.ne_of_lt p6, List.forall_mem_cons.mpr ⟨Nat.ne_of_lt p7, fun p hp => Nat.ne_of_lt (allLt_mem pA p hp)⟩⟩⟩⟩⟩⟩⟩), (N _ (.head _)).1, hI⟩
section
local macro_rules | `(tactic| walk_at "call ref") => `(tactic| (k_here; refine stop ?_))
local macro_rules | `(tactic| walk_at "Each") => `(tactic| (k_here; refine stop ?_))
local macro_rules | `(tactic| walk_at "exec While") => `(tactic| (k_here; refine stop ?_))
namespace OC
abbrev qT := (World) × (List Str) × (ExcName → Option Value) × (Str → Option Value) × (Str → Option Value) × (Shared) × (Heap) × (Nat) × (Option (List Env)) × (Option (List Code)) × (Nat) × (Str) × (Nat) × (Nat) × (Nat) × (Nat) × (Nat) × (Nat) × (Nat) × (Nat) × (Nat) × (Nat) × (Nat) × (Int) × (Obj) × (Tok) × (Tok) × (Tok) × (Tok) × (Tok) × (Tok) × (Tok) × (FuncData) × (FuncData) × (Array (Option Value)) × (Array (Option Value)) × (List (Addr × Obj)) × (Value) × (Option Addr) × (Nat) × (Int) × (List Int)
def qP (w : World) (lo : List Str) (me : ExcName → Option Value) (mg : Str → Option Value) (mb : Str → Option Value) (s : Shared) (h₀ : Heap) (dp : Nat) (fr : Option (List Env)) (gd : Option (List Code)) (un : Nat) (page : Str) (x : Nat) (d : Nat) (sT : Nat) (sd : Nat) (f : Nat) (aL : Nat) (pb : Nat) (k : Nat) (n0 : Nat) (n1 : Nat) (n2 : Nat) (line : Int) (oD : Obj) (a : Tok) (b : Tok) (c : Tok) (e : Tok) (f' : Tok) (g' : Tok) (tA : Tok) (fd : FuncData) (fdF : FuncData) (sl : Array (Option Value)) (slF : Array (Option Value)) (fx : List (Addr × Obj)) (ocF : Value) (odF : Option Addr) (k' : Nat) (line' : Int) (ps : List Int) : Prop := ∀  (g : Got w lo me mg mb h₀ s.heap ((pb, listOf #[] n0) :: (d, lxD w.params line sT pb a b c e f' g' n1) :: (aL, listOf #[.int k tA] n2) :: (x, instObj 77 d) :: (sT, ⟨.type "function", some sd, .func fd, sl⟩) :: (sd, oD) :: (f, ⟨ocF, odF, .func fdF, slF⟩) :: fx)) (hd' : dp + 20 < recursionLimit) (hu' : un + 200 < cLine) (S : Toks page k line ps k' line') (hl : ps.length ≤ 20) (o1 : aL < f) (o2 : f < sT) (o3 : sT < sd) (o4 : sd < d) (o5 : d < x) (o6 : x < pb) (hD : NsO oD (fun y => if y = "read" then some (.ref f) else none)) (RD : RdOK w page fx f aL) (ap1 : ∀ p ∈ fx, p.1 ≠ d) (ap2 : ∀ p ∈ fx, p.1 ≠ aL), wpAny (model PySem.Challenge.rw_to0028_01.row.prog w) ⟨none, dp, fr, gd, un⟩ (call (.ref 124) [.ref x]) (OrdPost w (insAll [] ps) k' line' sT pb d aL s) (fun _ _ => False) s
theorem qN : Nonempty qT := ⟨(PySem.W.aWorld 0, default, default, default, default, {}, default, default, default, default, default, default, default, default, default, default, default, default, default, default, default, default, default, default, default, default, default, default, default, default, default, default, default, default, default, default, default, default, default, default, default, default)⟩
noncomputable def qk : qT := (Classical.choice (drink qN fun v => qP v.1 v.2.1 v.2.2.1 v.2.2.2.1 v.2.2.2.2.1 v.2.2.2.2.2.1 v.2.2.2.2.2.2.1 v.2.2.2.2.2.2.2.1 v.2.2.2.2.2.2.2.2.1 v.2.2.2.2.2.2.2.2.2.1 v.2.2.2.2.2.2.2.2.2.2.1 v.2.2.2.2.2.2.2.2.2.2.2.1 v.2.2.2.2.2.2.2.2.2.2.2.2.1 v.2.2.2.2.2.2.2.2.2.2.2.2.2.1 v.2.2.2.2.2.2.2.2.2.2.2.2.2.2.1 v.2.2.2.2.2.2.2.2.2.2.2.2.2.2.2.1 v.2.2.2.2.2.2.2.2.2.2.2.2.2.2.2.2.1 v.2.2.2.2.2.2.2.2.2.2.2.2.2.2.2.2.2.1 v.2.2.2.2.2.2.2.2.2.2.2.2.2.2.2.2.2.2.1 v.2.2.2.2.2.2.2.2.2.2.2.2.2.2.2.2.2.2.2.1 v.2.2.2.2.2.2.2.2.2.2.2.2.2.2.2.2.2.2.2.2.1 v.2.2.2.2.2.2.2.2.2.2.2.2.2.2.2.2.2.2.2.2.2.1 v.2.2.2.2.2.2.2.2.2.2.2.2.2.2.2.2.2.2.2.2.2.2.1 v.2.2.2.2.2.2.2.2.2.2.2.2.2.2.2.2.2.2.2.2.2.2.2.1 v.2.2.2.2.2.2.2.2.2.2.2.2.2.2.2.2.2.2.2.2.2.2.2.2.1 v.2.2.2.2.2.2.2.2.2.2.2.2.2.2.2.2.2.2.2.2.2.2.2.2.2.1 v.2.2.2.2.2.2.2.2.2.2.2.2.2.2.2.2.2.2.2.2.2.2.2.2.2.2.1 v.2.2.2.2.2.2.2.2.2.2.2.2.2.2.2.2.2.2.2.2.2.2.2.2.2.2.2.1 v.2.2.2.2.2.2.2.2.2.2.2.2.2.2.2.2.2.2.2.2.2.2.2.2.2.2.2.2.1 v.2.2.2.2.2.2.2.2.2.2.2.2.2.2.2.2.2.2.2.2.2.2.2.2.2.2.2.2.2.1 v.2.2.2.2.2.2.2.2.2.2.2.2.2.2.2.2.2.2.2.2.2.2.2.2.2.2.2.2.2.2.1 v.2.2.2.2.2.2.2.2.2.2.2.2.2.2.2.2.2.2.2.2.2.2.2.2.2.2.2.2.2.2.2.1 v.2.2.2.2.2.2.2.2.2.2.2.2.2.2.2.2.2.2.2.2.2.2.2.2.2.2.2.2.2.2.2.2.1 v.2.2.2.2.2.2.2.2.2.2.2.2.2.2.2.2.2.2.2.2.2.2.2.2.2.2.2.2.2.2.2.2.2.1 v.2.2.2.2.2.2.2.2.2.2.2.2.2.2.2.2.2.2.2.2.2.2.2.2.2.2.2.2.2.2.2.2.2.2.1 v.2.2.2.2.2.2.2.2.2.2.2.2.2.2.2.2.2.2.2.2.2.2.2.2.2.2.2.2.2.2.2.2.2.2.2.1 v.2.2.2.2.2.2.2.2.2.2.2.2.2.2.2.2.2.2.2.2.2.2.2.2.2.2.2.2.2.2.2.2.2.2.2.2.1 v.2.2.2.2.2.2.2.2.2.2.2.2.2.2.2.2.2.2.2.2.2.2.2.2.2.2.2.2.2.2.2.2.2.2.2.2.2.1 v.2.2.2.2.2.2.2.2.2.2.2.2.2.2.2.2.2.2.2.2.2.2.2.2.2.2.2.2.2.2.2.2.2.2.2.2.2.2.1 v.2.2.2.2.2.2.2.2.2.2.2.2.2.2.2.2.2.2.2.2.2.2.2.2.2.2.2.2.2.2.2.2.2.2.2.2.2.2.2.1 v.2.2.2.2.2.2.2.2.2.2.2.2.2.2.2.2.2.2.2.2.2.2.2.2.2.2.2.2.2.2.2.2.2.2.2.2.2.2.2.2.1 v.2.2.2.2.2.2.2.2.2.2.2.2.2.2.2.2.2.2.2.2.2.2.2.2.2.2.2.2.2.2.2.2.2.2.2.2.2.2.2.2.2)).1
noncomputable def w : World := qk.1
noncomputable def lo : List Str := qk.2.1
noncomputable def me : ExcName → Option Value := qk.2.2.1
noncomputable def mg : Str → Option Value := qk.2.2.2.1
noncomputable def mb : Str → Option Value := qk.2.2.2.2.1
noncomputable def s : Shared := qk.2.2.2.2.2.1
noncomputable def h₀ : Heap := qk.2.2.2.2.2.2.1
noncomputable def dp : Nat := qk.2.2.2.2.2.2.2.1
noncomputable def fr : Option (List Env) := qk.2.2.2.2.2.2.2.2.1
noncomputable def gd : Option (List Code) := qk.2.2.2.2.2.2.2.2.2.1
noncomputable def un : Nat := qk.2.2.2.2.2.2.2.2.2.2.1
noncomputable def page : Str := qk.2.2.2.2.2.2.2.2.2.2.2.1
noncomputable def x : Nat := qk.2.2.2.2.2.2.2.2.2.2.2.2.1
noncomputable def d : Nat := qk.2.2.2.2.2.2.2.2.2.2.2.2.2.1
noncomputable def sT : Nat := qk.2.2.2.2.2.2.2.2.2.2.2.2.2.2.1
noncomputable def sd : Nat := qk.2.2.2.2.2.2.2.2.2.2.2.2.2.2.2.1
noncomputable def f : Nat := qk.2.2.2.2.2.2.2.2.2.2.2.2.2.2.2.2.1
noncomputable def aL : Nat := qk.2.2.2.2.2.2.2.2.2.2.2.2.2.2.2.2.2.1
noncomputable def pb : Nat := qk.2.2.2.2.2.2.2.2.2.2.2.2.2.2.2.2.2.2.1
noncomputable def k : Nat := qk.2.2.2.2.2.2.2.2.2.2.2.2.2.2.2.2.2.2.2.1
noncomputable def n0 : Nat := qk.2.2.2.2.2.2.2.2.2.2.2.2.2.2.2.2.2.2.2.2.1
noncomputable def n1 : Nat := qk.2.2.2.2.2.2.2.2.2.2.2.2.2.2.2.2.2.2.2.2.2.1
noncomputable def n2 : Nat := qk.2.2.2.2.2.2.2.2.2.2.2.2.2.2.2.2.2.2.2.2.2.2.1
noncomputable def line : Int := qk.2.2.2.2.2.2.2.2.2.2.2.2.2.2.2.2.2.2.2.2.2.2.2.1
noncomputable def oD : Obj := qk.2.2.2.2.2.2.2.2.2.2.2.2.2.2.2.2.2.2.2.2.2.2.2.2.1
noncomputable def a : Tok := qk.2.2.2.2.2.2.2.2.2.2.2.2.2.2.2.2.2.2.2.2.2.2.2.2.2.1
noncomputable def b : Tok := qk.2.2.2.2.2.2.2.2.2.2.2.2.2.2.2.2.2.2.2.2.2.2.2.2.2.2.1
noncomputable def c : Tok := qk.2.2.2.2.2.2.2.2.2.2.2.2.2.2.2.2.2.2.2.2.2.2.2.2.2.2.2.1
noncomputable def e : Tok := qk.2.2.2.2.2.2.2.2.2.2.2.2.2.2.2.2.2.2.2.2.2.2.2.2.2.2.2.2.1
noncomputable def f' : Tok := qk.2.2.2.2.2.2.2.2.2.2.2.2.2.2.2.2.2.2.2.2.2.2.2.2.2.2.2.2.2.1
noncomputable def g' : Tok := qk.2.2.2.2.2.2.2.2.2.2.2.2.2.2.2.2.2.2.2.2.2.2.2.2.2.2.2.2.2.2.1
noncomputable def tA : Tok := qk.2.2.2.2.2.2.2.2.2.2.2.2.2.2.2.2.2.2.2.2.2.2.2.2.2.2.2.2.2.2.2.1
noncomputable def fd : FuncData := qk.2.2.2.2.2.2.2.2.2.2.2.2.2.2.2.2.2.2.2.2.2.2.2.2.2.2.2.2.2.2.2.2.1
noncomputable def fdF : FuncData := qk.2.2.2.2.2.2.2.2.2.2.2.2.2.2.2.2.2.2.2.2.2.2.2.2.2.2.2.2.2.2.2.2.2.1
noncomputable def sl : Array (Option Value) := qk.2.2.2.2.2.2.2.2.2.2.2.2.2.2.2.2.2.2.2.2.2.2.2.2.2.2.2.2.2.2.2.2.2.2.1
noncomputable def slF : Array (Option Value) := qk.2.2.2.2.2.2.2.2.2.2.2.2.2.2.2.2.2.2.2.2.2.2.2.2.2.2.2.2.2.2.2.2.2.2.2.1
noncomputable def fx : List (Addr × Obj) := qk.2.2.2.2.2.2.2.2.2.2.2.2.2.2.2.2.2.2.2.2.2.2.2.2.2.2.2.2.2.2.2.2.2.2.2.2.1
noncomputable def ocF : Value := qk.2.2.2.2.2.2.2.2.2.2.2.2.2.2.2.2.2.2.2.2.2.2.2.2.2.2.2.2.2.2.2.2.2.2.2.2.2.1
noncomputable def odF : Option Addr := qk.2.2.2.2.2.2.2.2.2.2.2.2.2.2.2.2.2.2.2.2.2.2.2.2.2.2.2.2.2.2.2.2.2.2.2.2.2.2.1
noncomputable def k' : Nat := qk.2.2.2.2.2.2.2.2.2.2.2.2.2.2.2.2.2.2.2.2.2.2.2.2.2.2.2.2.2.2.2.2.2.2.2.2.2.2.2.1
noncomputable def line' : Int := qk.2.2.2.2.2.2.2.2.2.2.2.2.2.2.2.2.2.2.2.2.2.2.2.2.2.2.2.2.2.2.2.2.2.2.2.2.2.2.2.2.1
noncomputable def ps : List Int := qk.2.2.2.2.2.2.2.2.2.2.2.2.2.2.2.2.2.2.2.2.2.2.2.2.2.2.2.2.2.2.2.2.2.2.2.2.2.2.2.2.2
theorem qA (h : qP w lo me mg mb s h₀ dp fr gd un page x d sT sd f aL pb k n0 n1 n2 line oD a b c e f' g' tA fd fdF sl slF fx ocF odF k' line' ps) (w : World) (lo : List Str) (me : ExcName → Option Value) (mg : Str → Option Value) (mb : Str → Option Value) (s : Shared) (h₀ : Heap) (dp : Nat) (fr : Option (List Env)) (gd : Option (List Code)) (un : Nat) (page : Str) (x : Nat) (d : Nat) (sT : Nat) (sd : Nat) (f : Nat) (aL : Nat) (pb : Nat) (k : Nat) (n0 : Nat) (n1 : Nat) (n2 : Nat) (line : Int) (oD : Obj) (a : Tok) (b : Tok) (c : Tok) (e : Tok) (f' : Tok) (g' : Tok) (tA : Tok) (fd : FuncData) (fdF : FuncData) (sl : Array (Option Value)) (slF : Array (Option Value)) (fx : List (Addr × Obj)) (ocF : Value) (odF : Option Addr) (k' : Nat) (line' : Int) (ps : List Int) : qP w lo me mg mb s h₀ dp fr gd un page x d sT sd f aL pb k n0 n1 n2 line oD a b c e f' g' tA fd fdF sl slF fx ocF odF k' line' ps := (Classical.choice (drink qN fun v => qP v.1 v.2.1 v.2.2.1 v.2.2.2.1 v.2.2.2.2.1 v.2.2.2.2.2.1 v.2.2.2.2.2.2.1 v.2.2.2.2.2.2.2.1 v.2.2.2.2.2.2.2.2.1 v.2.2.2.2.2.2.2.2.2.1 v.2.2.2.2.2.2.2.2.2.2.1 v.2.2.2.2.2.2.2.2.2.2.2.1 v.2.2.2.2.2.2.2.2.2.2.2.2.1 v.2.2.2.2.2.2.2.2.2.2.2.2.2.1 v.2.2.2.2.2.2.2.2.2.2.2.2.2.2.1 v.2.2.2.2.2.2.2.2.2.2.2.2.2.2.2.1 v.2.2.2.2.2.2.2.2.2.2.2.2.2.2.2.2.1 v.2.2.2.2.2.2.2.2.2.2.2.2.2.2.2.2.2.1 v.2.2.2.2.2.2.2.2.2.2.2.2.2.2.2.2.2.2.1 v.2.2.2.2.2.2.2.2.2.2.2.2.2.2.2.2.2.2.2.1 v.2.2.2.2.2.2.2.2.2.2.2.2.2.2.2.2.2.2.2.2.1 v.2.2.2.2.2.2.2.2.2.2.2.2.2.2.2.2.2.2.2.2.2.1 v.2.2.2.2.2.2.2.2.2.2.2.2.2.2.2.2.2.2.2.2.2.2.1 v.2.2.2.2.2.2.2.2.2.2.2.2.2.2.2.2.2.2.2.2.2.2.2.1 v.2.2.2.2.2.2.2.2.2.2.2.2.2.2.2.2.2.2.2.2.2.2.2.2.1 v.2.2.2.2.2.2.2.2.2.2.2.2.2.2.2.2.2.2.2.2.2.2.2.2.2.1 v.2.2.2.2.2.2.2.2.2.2.2.2.2.2.2.2.2.2.2.2.2.2.2.2.2.2.1 v.2.2.2.2.2.2.2.2.2.2.2.2.2.2.2.2.2.2.2.2.2.2.2.2.2.2.2.1 v.2.2.2.2.2.2.2.2.2.2.2.2.2.2.2.2.2.2.2.2.2.2.2.2.2.2.2.2.1 v.2.2.2.2.2.2.2.2.2.2.2.2.2.2.2.2.2.2.2.2.2.2.2.2.2.2.2.2.2.1 v.2.2.2.2.2.2.2.2.2.2.2.2.2.2.2.2.2.2.2.2.2.2.2.2.2.2.2.2.2.2.1 v.2.2.2.2.2.2.2.2.2.2.2.2.2.2.2.2.2.2.2.2.2.2.2.2.2.2.2.2.2.2.2.1 v.2.2.2.2.2.2.2.2.2.2.2.2.2.2.2.2.2.2.2.2.2.2.2.2.2.2.2.2.2.2.2.2.1 v.2.2.2.2.2.2.2.2.2.2.2.2.2.2.2.2.2.2.2.2.2.2.2.2.2.2.2.2.2.2.2.2.2.1 v.2.2.2.2.2.2.2.2.2.2.2.2.2.2.2.2.2.2.2.2.2.2.2.2.2.2.2.2.2.2.2.2.2.2.1 v.2.2.2.2.2.2.2.2.2.2.2.2.2.2.2.2.2.2.2.2.2.2.2.2.2.2.2.2.2.2.2.2.2.2.2.1 v.2.2.2.2.2.2.2.2.2.2.2.2.2.2.2.2.2.2.2.2.2.2.2.2.2.2.2.2.2.2.2.2.2.2.2.2.1 v.2.2.2.2.2.2.2.2.2.2.2.2.2.2.2.2.2.2.2.2.2.2.2.2.2.2.2.2.2.2.2.2.2.2.2.2.2.1 v.2.2.2.2.2.2.2.2.2.2.2.2.2.2.2.2.2.2.2.2.2.2.2.2.2.2.2.2.2.2.2.2.2.2.2.2.2.2.1 v.2.2.2.2.2.2.2.2.2.2.2.2.2.2.2.2.2.2.2.2.2.2.2.2.2.2.2.2.2.2.2.2.2.2.2.2.2.2.2.1 v.2.2.2.2.2.2.2.2.2.2.2.2.2.2.2.2.2.2.2.2.2.2.2.2.2.2.2.2.2.2.2.2.2.2.2.2.2.2.2.2.1 v.2.2.2.2.2.2.2.2.2.2.2.2.2.2.2.2.2.2.2.2.2.2.2.2.2.2.2.2.2.2.2.2.2.2.2.2.2.2.2.2.2)).2 h (w, lo, me, mg, mb, s, h₀, dp, fr, gd, un, page, x, d, sT, sd, f, aL, pb, k, n0, n1, n2, line, oD, a, b, c, e, f', g', tA, fd, fdF, sl, slF, fx, ocF, odF, k', line', ps)
set_option maxHeartbeats 1000000 in
theorem qW : qP w lo me mg mb s h₀ dp fr gd un page x d sT sd f aL pb k n0 n1 n2 line oD a b c e f' g' tA fd fdF sl slF fx ocF odF k' line' ps := by
  intro  g hd' hu' S hl o1 o2 o3 o4 o5 o6 hD RD ap1 ap2
  have X := g.hid.X
  have T := g.hid.T
  refine wpAny_call ?_
  (refine' enterXK (K := Mine.Kc w.params) X T g.at' ?k8 ?k6 ?k7 ?k9 ?kB ?_ ?c2 ?c3 ?c4 ?c5; (case k6 => k_is); (case k7 => k_is); (case k8 => exact (show dp < recursionLimit by omega)); (case k9 => exact BindsTo.of_eq rfl); (case c5 => decide); (case kB => exact locs rfl); (case c2 => exact rfl); (case c3 => exact rfl); (case c4 => exact rfl))
  intro h1 F N
  simp only [lxD] at N
  k_steps
  refine unstop ?_
  rename News _ _ _ _ => N2
  rename Fr _ _ _ _ => F2
  rename _ ∧ _ => l1
  obtain ⟨p1, p2, p3, p4, p5, p6, p7, pA⟩ := l1
  obtain ⟨u, k1, line1, hk, S1, C1⟩ := S.get
  refine get_w (pre := [(_, _)]) X T F2 N2 ⟨rfl, (show dp + 1 + 12 < recursionLimit by omega), (show un + 3 + 100 < cLine by omega)⟩ hk S1 o1 o2 o3 o4 o5 o6 hD RD ap1 ap2 (List.forall_mem_cons.mpr ⟨⟨Nat.ne_of_gt p3, Nat.ne_of_gt p2⟩, List.forall_mem_nil _⟩) ?_
  intro h3 tk3 a3 b3 c3 e3 f3 g3 n3 tA3 m3 tu3 F3 N3
  clear F2 N2
  k_steps
  rename News _ _ _ _ => N4
  rename Fr _ _ _ _ => F4
  refine unstop ?_
  refine while_ord F4 N4 (fun rr => OrdQ w page k' line' sT pb d aL x rr n0 (insAll [] ps) ((x, instObj 77 d) :: (sT, ⟨.type "function", some sd, .func fd, sl⟩) :: (sd, oD) :: (f, ⟨ocF, odF, .func fdF, slF⟩) :: fx)) ps.length ?h0 ?turn
  case h0 => exact ⟨[], ps, u, _, k1, line1, [], _, _, _, _, _, _, _, _, _, _, ⟨rfl, rfl, rfl, C1, rfl, by simpa using hl, rfl⟩, .nil, rfl⟩
  case turn =>
    rintro k m₁ _ h tk ⟨acc, qs, u, t, k1, line1, vs, nr, a, b, c, e, f', g', n1, tA, n2, ⟨e1, e2, e3, hc, hq, hn, hk⟩, hI, rfl⟩ F5 N5
    clear F4 N4
    k_steps
    · rename (_ != _) = true => hne
      cases hc with
      | fin => exact absurd hne (by decide)
      | @more p qs _ _ hp1 hp8 hT =>
        refine unstop ?_
        refine each_of (d := .flat (.int (13 + p))) ?_ ?_
        · rcases eight hp1 hp8 with rfl | rfl | rfl | rfl | rfl | rfl | rfl | rfl <;> exact rfl
        k_steps
        refine unstop ?_
        rename News _ _ _ _ => N6
        rename Fr _ _ _ _ => F6
        refine ins_w X T F6 N6 ⟨rfl, (show dp + 1 + 4 < recursionLimit by omega), (show un + 3 + 40 < cLine by omega)⟩ hI (by omega) (List.forall_mem_cons.mpr ⟨Nat.ne_of_lt p1, List.forall_mem_cons.mpr ⟨Nat.ne_of_lt p2, List.forall_mem_cons.mpr ⟨Nat.ne_of_lt p3, List.forall_mem_cons.mpr ⟨Nat.ne_of_lt p4, List.forall_mem_cons.mpr ⟨Nat.ne_of_lt p5, List.forall_mem_cons.mpr ⟨Nat.ne_of_lt p6, List.forall_mem_cons.mpr ⟨Nat.ne_of_lt p7, fun p hp => Nat.ne_of_lt (allLt_mem pA p hp)⟩⟩⟩⟩⟩⟩⟩) ?_
        intro h7 tk7 vs7 n7 hI7 F7 N7
        clear F6 N6
        rw [show 13 + p - 13 = p by omega] at hI7
        obtain ⟨u8, k8, line8, hk8, S8, C8⟩ := hT.get
        k_steps
        refine unstop ?_
        rename News _ _ _ _ => N8
        rename Fr _ _ _ _ => F8
        refine get_w (pre := [(_, _)]) X T F8 N8 ⟨rfl, (show dp + 1 + 12 < recursionLimit by omega), (show un + 3 + 100 < cLine by omega)⟩ hk8 S8 o1 o2 o3 o4 o5 o6 hD RD ap1 ap2 (List.forall_mem_cons.mpr ⟨⟨Nat.ne_of_gt p3, Nat.ne_of_gt p2⟩, List.forall_mem_nil _⟩) ?_
        intro h9 tk9 a9 b9 c9 e9 f9 g9 n9 tA9 m9 tu9 F9 N9
        clear F8 N8
        k_steps
        rename News _ _ _ _ => NA
        rename Fr _ _ _ _ => FA
        refine WEnd.next FA NA _ (fun _ h => h) qs.length (by rw [hk, List.length_cons]; exact Nat.lt_succ_self _) ?_
        exact ⟨insF acc p, qs, u8, _, k8, line8, vs7, _, _, _, _, _, _, _, _, _, _, ⟨by ktr_rel, by ktr_rel, by ktr_rel, C8, hq, by rw [insF_len]; rw [List.length_cons] at hn; omega, rfl⟩, hI7, rfl⟩
    · rename (_ != _) = false => hne
      cases hc with
      | more hp1 hp8 hT => exact absurd hne (sign_ne hp1 hp8)
      | fin =>
        rename News _ _ _ _ => N6
        rename Fr _ _ _ _ => F6
        exact ord_fin g.at' F6 N6 hI hq p1 p2 p3 p4 p5 p6 p7 pA
end OC
end
theorem inorder_c {w : World} {lo : List Str} {me : ExcName → Option Value} {mg mb : Str → Option Value} {A : Around} {s : Shared} {h₀ : Heap} {page : Str} {x d sT sd f aL pb k n0 n1 n2 : Nat} {line : Int} {oD : Obj} {a b c e f' g' tA : Tok} {fd fdF : FuncData} {sl slF : Array (Option Value)} {fx : List (Addr × Obj)} {ocF : Value} {odF : Option Addr} {k' : Nat} {line' : Int} {ps : List Int}
    (g : Got w lo me mg mb h₀ s.heap ((pb, listOf #[] n0) :: (d, lxD w.params line sT pb a b c e f' g' n1) :: (aL, listOf #[.int k tA] n2) :: (x, instObj 77 d) :: (sT, ⟨.type "function", some sd, .func fd, sl⟩) :: (sd, oD) :: (f, ⟨ocF, odF, .func fdF, slF⟩) :: fx)) (R : Rm A 20 200) (S : Toks page k line ps k' line') (hl : ps.length ≤ 20)
    (o1 : aL < f) (o2 : f < sT) (o3 : sT < sd) (o4 : sd < d) (o5 : d < x) (o6 : x < pb) (hD : NsO oD (fun y => if y = "read" then some (.ref f) else none)) (RD : RdOK w page fx f aL) (ap1 : ∀ p ∈ fx, p.1 ≠ d) (ap2 : ∀ p ∈ fx, p.1 ≠ aL) :
    wpAny (model PySem.Challenge.rw_to0028_01.row.prog w) A (call (.ref 124) [.ref x]) (OrdPost w (insAll [] ps) k' line' sT pb d aL s) (fun _ _ => False) s := by
  obtain ⟨hh, hd0, hu0⟩ := R
  obtain ⟨_, dp, fr, gd, un⟩ := A
  cases hh
  exact OC.qA OC.qW w lo me mg mb s h₀ dp fr gd un page x d sT sd f aL pb k n0 n1 n2 line oD a b c e f' g' tA fd fdF sl slF fx ocF odF k' line' ps  g hd0 hu0 S hl o1 o2 o3 o4 o5 o6 hD RD ap1 ap2

end

section
def beadsF (xs : List Int) : List Int := rangeKs 0 (20 - (xs.length : Int) - 0).toNat ++ (List.range xs.length).map fun k => xs.getD k 0 + (20 - (xs.length : Int)) + (k : Int)
def cnt1 (ns : List Int) (b : Int) : List Int := ns.set (Int.fmod b 5).toNat (ns.getD (Int.fmod b 5).toNat 0 + 1)
def cntF (bs : List Int) : List Int := bs.foldl cnt1 [-4, -4, -4, -4, -4]
theorem cnt1_len (ns : List Int) (b : Int) : (cnt1 ns b).length = ns.length := List.length_set
theorem cnt_len (bs : List Int) : ∀ ns, (bs.foldl cnt1 ns).length = ns.length := by
  induction bs with
  | nil => intro ns; rfl
  | cons b bs ih => intro ns; rw [List.foldl_cons, ih, cnt1_len]
def fiveF (n : List Int) : Int := n.getD 0 0 - n.getD 2 0 - 2 * n.getD 3 0 - 3 * n.getD 4 0 - 1
def aF (n : List Int) (last : Int) : List Int := [last, n.getD 0 0 - last, -n.getD 4 0 - n.getD 3 0 - n.getD 2 0 - 2 * last, -n.getD 4 0 - n.getD 3 0 - 2 * last, -n.getD 4 0 - last]
def dueF (a : List Int) : List Int := [a.getD 0 0 + a.getD 4 0, a.getD 1 0 + a.getD 4 0 - a.getD 0 0, a.getD 2 0 - a.getD 1 0, a.getD 3 0 - a.getD 2 0 - a.getD 4 0, -a.getD 3 0 - a.getD 4 0]
def slideF (n : List Int) : List Int := (List.range 5).map fun r => (dueF (aF n (Int.fdiv (fiveF n) 5))).getD r 0 - n.getD r 0
def mov1 (sl : List Int) (b : Int) : Int := b + 5 * sl.getD (Int.fmod b 5).toNat 0
def movedF (sl bs : List Int) : List Int := (bs.map (mov1 sl)).filter fun x => decide (0 ≤ x)
def newRow (sl : List Int) (r : Nat) : List Int := (rangeKs 0 (sl.getD r 0 - 0).toNat).map fun k => (r : Int) + 5 * k
def newF (sl : List Int) : List Int := (List.range 5).flatMap (newRow sl)
/-- what the partner's walk counts on -/
structure OkN (bs ns : List Int) : Prop where
  h5 : Int.fmod (fiveF ns) 5 = 0
  hs1 : ∀ y ∈ slideF ns, -1000 ≤ y ∧ y ≤ 40
  hs2 : (movedF (slideF ns) bs ++ newF (slideF ns)).length < 64
def OkP (xs : List Int) : Prop := OkN (beadsF xs) (cntF (beadsF xs))
def ins1 (x : Int) : List Int → List Int
  | [] => [x]
  | y :: ys => if x ≤ y then x :: y :: ys else y :: ins1 x ys
def isort : List Int → List Int
  | [] => []
  | x :: xs => ins1 x (isort xs)
theorem ins1_perm (x : Int) : ∀ ys, (ins1 x ys).Perm (x :: ys)
  | [] => .refl _
  | y :: ys => by
    unfold ins1
    split
    · exact .refl _
    · exact ((ins1_perm x ys).cons y).trans (.swap x y ys)
theorem isort_perm : ∀ xs, (isort xs).Perm xs
  | [] => .refl _
  | x :: xs => (ins1_perm x _).trans ((isort_perm xs).cons x)
theorem ins1_sorted (x : Int) : ∀ ys, ys.Pairwise (· ≤ ·) → (ins1 x ys).Pairwise (· ≤ ·)
  | [], _ => List.pairwise_singleton _ _
  | y :: ys, h => by
    unfold ins1
    have h' := List.pairwise_cons.mp h
    split
    · next c =>
      refine List.pairwise_cons.mpr ⟨fun z hz => ?_, h⟩
      rcases List.mem_cons.mp hz with rfl | hz
      · exact c
      · exact Int.le_trans c (h'.1 z hz)
    · next c =>
      refine List.pairwise_cons.mpr ⟨fun z hz => ?_, ins1_sorted x ys h'.2⟩
      rcases List.mem_cons.mp ((ins1_perm x ys).mem_iff.mp hz) with rfl | hz
      · omega
      · exact h'.1 z hz
theorem isort_sorted : ∀ xs, (isort xs).Pairwise (· ≤ ·)
  | [] => .nil
  | x :: xs => ins1_sorted x _ (isort_sorted xs)
theorem sorted_unique : ∀ {a b : List Int}, a.Perm b → a.Pairwise (· ≤ ·) → b.Pairwise (· ≤ ·) → a = b
  | [], b, p, _, _ => by rw [List.nil_perm.mp p]
  | x :: a, [], p, _, _ => by have := p.length_eq; cases this
  | x :: a, y :: b, p, ha, hb => by
    have ha' := List.pairwise_cons.mp ha
    have hb' := List.pairwise_cons.mp hb
    have e : x = y := by
      have h1 : x ∈ y :: b := p.mem_iff.mp (.head _)
      have h2 : y ∈ x :: a := p.mem_iff.mpr (.head _)
      rcases List.mem_cons.mp h1 with h | h1
      · exact h
      rcases List.mem_cons.mp h2 with h | h2
      · exact h.symm
      exact Int.le_antisymm (ha'.1 y h2) (hb'.1 x h1)
    subst e
    rw [sorted_unique ((List.perm_cons x).mp p) ha'.2 hb'.2]
theorem sorted_isort {a b : List Int} (p : a.Perm b) (h : a.Pairwise (· ≤ ·)) : a = isort b := sorted_unique (p.trans (isort_perm b).symm) h (isort_sorted b)
def rowF (xs : List Int) : List Int := isort (movedF (slideF (cntF (beadsF xs))) (beadsF xs) ++ newF (slideF (cntF (beadsF xs))))
def frontF (row : List Int) : Nat := bisGo (fun i => row.getD i 0 - (i : Int)) 0 row.length 0 row.length
def tailF (row : List Int) : List Int := (List.range (row.length - frontF row)).map fun k => row.getD (frontF row + k) 0 - ((frontF row + k : Nat) : Int)
def partnerF (xs : List Int) : List Int := tailF (rowF xs)

end

section
theorem part_bisect2 : True := by
  w_top off
  exact trivial
def KeyOK (w : World) (f : Nat) (row : List Int) (h : Heap) : Prop := ∀ (A : Around) (s : Shared) (k : Nat) (t : Tok), Kp h s.heap → Rm A 3 40 → k < row.length →
  wpAny (model PySem.Challenge.rw_to0028_01.row.prog w) A (call (.ref f) [.int (k : Int) t]) (An s fun v _ => IsI (row.getD k 0 - (k : Int)) v) (fun _ _ => False) s
structure Bis2J (g : Nat → Int) (n : Nat) (aa f : Addr) (t : Tok) (k : Nat) (m' : Str → Option Value) (l h : Nat) : Prop where
  e1 : ∃ tl, m' "lo" = some (.int (l : Nat) tl)
  e2 : ∃ th, m' "hi" = some (.int (h : Nat) th)
  e3 : m' "a" = some (.ref aa)
  e4 : m' "x" = some (.int 0 t)
  e5 : m' "key" = some (.ref f)
  hle : l ≤ h
  hln : h ≤ n
  hk : h - l = k
  hb : bisGo g 0 (h - l) l h = bisGo g 0 n 0 n
def Bis2Q (g : Nat → Int) (n : Nat) (aa f : Addr) (t : Tok) (news : List (Addr × Obj)) (k : Nat) (m' : Str → Option Value) (news' : List (Addr × Obj)) : Prop := news' = news ∧ ∃ l h, Bis2J g n aa f t k m' l h
section
local macro_rules | `(tactic| walk_at "exec While") => `(tactic| (k_here; refine stop ?_))
local macro_rules | `(tactic| walk_at "callWith ref") => `(tactic| (k_here; k_dflt (refine' callWith_F ?k1 ?_; (case k1 => exact FnAt.of (by k_asm) (by k_mem)); k_whole)))
local macro_rules | `(tactic| walk_at "call ref") => `(tactic| (k_here; refine stop ?_))
namespace DC
abbrev qT := (World) × (List Str) × (ExcName → Option Value) × (Str → Option Value) × (Str → Option Value) × (Nat) × (Option (List Env)) × (Option (List Code)) × (Nat) × (Shared) × (Heap) × (Nat) × (Nat) × (Value) × (Option Addr) × (FuncData) × (Array (Option Value)) × (Tok)
def qP (w : World) (lo : List Str) (me : ExcName → Option Value) (mg : Str → Option Value) (mb : Str → Option Value) (dp : Nat) (fr : Option (List Env)) (gd : Option (List Code)) (un : Nat) (s : Shared) (h₀ : Heap) (f : Nat) (aa : Nat) (ocF : Value) (odF : Option Addr) (fdF : FuncData) (slF : Array (Option Value)) (t : Tok) : Prop := ∀ (n : Nat) (vs : List Value) (row : List Int) (g : Got w lo me mg mb h₀ s.heap [(f, ⟨ocF, odF, .func fdF, slF⟩)]) (hd' : dp + 6 < recursionLimit) (hu' : un + 80 < cLine) (hI : IntsAre vs (rangeKs 0 n)) (hl : (hid s.heap [(f, ⟨ocF, odF, .func fdF, slF⟩)]).IsList aa vs.toArray) (hrow : row.length = n) (hn : n ≤ 1000) (KO : KeyOK w f row s.heap), wpAny (model PySem.Challenge.rw_to0028_01.row.prog w) ⟨none, dp, fr, gd, un⟩ (call (.ref 39) [.ref aa, .int 0 t] [("key", .ref f)]) (An s fun v _ => IsI (bisGo (fun i => row.getD i 0 - (i : Int)) 0 n 0 n : Nat) v) (fun _ _ => False) s
theorem qN : Nonempty qT := ⟨(PySem.W.aWorld 0, default, default, default, default, default, default, default, default, {}, default, default, default, default, default, default, default, default)⟩
noncomputable def qk : qT := (Classical.choice (drink qN fun v => qP v.1 v.2.1 v.2.2.1 v.2.2.2.1 v.2.2.2.2.1 v.2.2.2.2.2.1 v.2.2.2.2.2.2.1 v.2.2.2.2.2.2.2.1 v.2.2.2.2.2.2.2.2.1 v.2.2.2.2.2.2.2.2.2.1 v.2.2.2.2.2.2.2.2.2.2.1 v.2.2.2.2.2.2.2.2.2.2.2.1 v.2.2.2.2.2.2.2.2.2.2.2.2.1 v.2.2.2.2.2.2.2.2.2.2.2.2.2.1 v.2.2.2.2.2.2.2.2.2.2.2.2.2.2.1 v.2.2.2.2.2.2.2.2.2.2.2.2.2.2.2.1 v.2.2.2.2.2.2.2.2.2.2.2.2.2.2.2.2.1 v.2.2.2.2.2.2.2.2.2.2.2.2.2.2.2.2.2)).1
noncomputable def w : World := qk.1
noncomputable def lo : List Str := qk.2.1
noncomputable def me : ExcName → Option Value := qk.2.2.1
noncomputable def mg : Str → Option Value := qk.2.2.2.1
noncomputable def mb : Str → Option Value := qk.2.2.2.2.1
noncomputable def dp : Nat := qk.2.2.2.2.2.1
noncomputable def fr : Option (List Env) := qk.2.2.2.2.2.2.1
noncomputable def gd : Option (List Code) := qk.2.2.2.2.2.2.2.1
noncomputable def un : Nat := qk.2.2.2.2.2.2.2.2.1
noncomputable def s : Shared := qk.2.2.2.2.2.2.2.2.2.1
noncomputable def h₀ : Heap := qk.2.2.2.2.2.2.2.2.2.2.1
noncomputable def f : Nat := qk.2.2.2.2.2.2.2.2.2.2.2.1
noncomputable def aa : Nat := qk.2.2.2.2.2.2.2.2.2.2.2.2.1
noncomputable def ocF : Value := qk.2.2.2.2.2.2.2.2.2.2.2.2.2.1
noncomputable def odF : Option Addr := qk.2.2.2.2.2.2.2.2.2.2.2.2.2.2.1
noncomputable def fdF : FuncData := qk.2.2.2.2.2.2.2.2.2.2.2.2.2.2.2.1
noncomputable def slF : Array (Option Value) := qk.2.2.2.2.2.2.2.2.2.2.2.2.2.2.2.2.1
noncomputable def t : Tok := qk.2.2.2.2.2.2.2.2.2.2.2.2.2.2.2.2.2
theorem qA (h : qP w lo me mg mb dp fr gd un s h₀ f aa ocF odF fdF slF t) (w : World) (lo : List Str) (me : ExcName → Option Value) (mg : Str → Option Value) (mb : Str → Option Value) (dp : Nat) (fr : Option (List Env)) (gd : Option (List Code)) (un : Nat) (s : Shared) (h₀ : Heap) (f : Nat) (aa : Nat) (ocF : Value) (odF : Option Addr) (fdF : FuncData) (slF : Array (Option Value)) (t : Tok) : qP w lo me mg mb dp fr gd un s h₀ f aa ocF odF fdF slF t := (Classical.choice (drink qN fun v => qP v.1 v.2.1 v.2.2.1 v.2.2.2.1 v.2.2.2.2.1 v.2.2.2.2.2.1 v.2.2.2.2.2.2.1 v.2.2.2.2.2.2.2.1 v.2.2.2.2.2.2.2.2.1 v.2.2.2.2.2.2.2.2.2.1 v.2.2.2.2.2.2.2.2.2.2.1 v.2.2.2.2.2.2.2.2.2.2.2.1 v.2.2.2.2.2.2.2.2.2.2.2.2.1 v.2.2.2.2.2.2.2.2.2.2.2.2.2.1 v.2.2.2.2.2.2.2.2.2.2.2.2.2.2.1 v.2.2.2.2.2.2.2.2.2.2.2.2.2.2.2.1 v.2.2.2.2.2.2.2.2.2.2.2.2.2.2.2.2.1 v.2.2.2.2.2.2.2.2.2.2.2.2.2.2.2.2.2)).2 h (w, lo, me, mg, mb, dp, fr, gd, un, s, h₀, f, aa, ocF, odF, fdF, slF, t)
set_option maxHeartbeats 2000000 in
theorem qW : qP w lo me mg mb dp fr gd un s h₀ f aa ocF odF fdF slF t := by
  intro n vs row g hd' hu' hI hl hrow hn KO
  have X := g.hid.X
  have T := g.hid.T
  have at' := g.at'
  refine wpAny_call ?_
  (refine' enterXK (K := Mine.Kc w.params) X T g.at' ?k8 ?k6 ?k7 ?k9 ?kB ?_ ?c2 ?c3 ?c4 ?c5; (case k6 => k_is); (case k7 => k_is); (case k8 => exact (show dp < recursionLimit by omega)); (case k9 => (refine' kp_binds ?kx ?ke; (case kx => exact X.keeps fun b o e => of_hideAll _ e); (case ke => exact fun _ => rfl))); (case c5 => decide); (case kB => exact locs rfl); (case c2 => exact rfl); (case c3 => exact rfl); (case c4 => exact rfl))
  intro h1 F N
  k_steps
  refine unstop ?_
  rename News _ _ _ _ => N1
  rename Fr _ _ _ _ => F1
  have hrl : (rangeKs 0 n).length = n := rangeKs_length 0 n
  rw [hrl] at F1
  refine while_ruleF F1 N1 (Bis2Q (fun i => row.getD i 0 - (i : Int)) n aa f t [(f, ⟨ocF, odF, .func fdF, slF⟩)]) n ?h0 ?turn
  case h0 => exact ⟨rfl, 0, n, ⟨_, rfl⟩, ⟨_, rfl⟩, rfl, rfl, rfl, Nat.zero_le _, Nat.le_refl _, rfl, rfl⟩
  case turn =>
    rintro k m₁ _ h tk ⟨rfl, l, hh, ⟨tl, e1⟩, ⟨th, e2⟩, e3, e4, e5, hle, hln, hk, hb⟩ F2 N2
    clear F1 N1
    k_steps
    · rename (l : Int) < _ => c
      have c' : l < hh := Int.ofNat_lt.mp c
      refine unstop ?_
      rename News _ _ _ _ => N3
      rename Fr _ _ _ _ => F3
      rw [half_nat, Int.toNat_natCast, kll_at (Nat.lt_of_lt_of_le (mid1 c') hln), Int.zero_add]
      refine wpAny_mono (KO _ _ ((l + hh) / 2) _ (fun b o e => fin_keep at' F3 N3 [] (fun p hp => .inr hp) _ _ List.not_mem_nil e) ⟨rfl, (show dp + 1 + 3 < recursionLimit by omega), (show un + 3 + 40 < cLine by omega)⟩ (hrow.symm ▸ Nat.lt_of_lt_of_le (mid1 c') hln)) (fun v s2 y => ?_) fun _ _ y => y.elim
      obtain ⟨h4, tk4, rfl, k4, tt, rfl⟩ := y
      have F4 := F3.keeps k4
      have N4 := N3.keeps k4
      clear F3 N3
      k_steps
      · rename (0 : Int) < _ => d
        refine WEnd.next (by assumption) (by assumption) _ (fun _ h => h) ((l + hh) / 2 - l) (midS c' hk) ⟨rfl, l, (l + hh) / 2, ?e1, ?e2, ?e3, ?e4, ?e5, mid0 c', Nat.le_trans (Nat.le_of_lt (mid1 c')) hln, rfl, ?e6⟩
        case e1 => apply Exists.intro; ktr_rel
        case e2 => apply Exists.intro; exact (if_pos rfl).trans (some_int (half_nat l hh))
        case e3 => ktr_rel
        case e4 => ktr_rel
        case e5 => ktr_rel
        case e6 => rw [← hb, bisGo_step _ _ _ _ c', if_pos d]
      · rename ¬ ((0 : Int) < _) => d
        refine WEnd.next (by assumption) (by assumption) _ (fun _ h => h) (hh - ((l + hh) / 2 + 1)) (midT c' hk) ⟨rfl, (l + hh) / 2 + 1, hh, ?e1, ?e2, ?e3, ?e4, ?e5, mid1 c', hln, rfl, ?e6⟩
        case e1 => apply Exists.intro; exact (if_pos rfl).trans (some_int (by rw [half_nat]; rfl))
        case e2 => apply Exists.intro; ktr_rel
        case e3 => ktr_rel
        case e4 => ktr_rel
        case e5 => ktr_rel
        case e6 => rw [← hb, bisGo_step _ _ _ _ c', if_neg d]
    · rename Heap.get? _ _ = some _ => hg
      exact fin_keep at' F2 N2 [] (fun p hp => .inr hp) _ _ List.not_mem_nil hg
    · rename ¬ ((l : Int) < _) => c
      have c' : hh - l = 0 := midN c
      rw [c'] at hb
      exact isI (congrArg Nat.cast hb)
end DC
end
section
variable {w : World} {lo : List Str} {me : ExcName → Option Value} {mg mb : Str → Option Value} {A : Around} {s : Shared} {h₀ : Heap}
theorem bisect2_c {f aa n : Nat} {vs : List Value} {row : List Int} {ocF : Value} {odF : Option Addr} {fdF : FuncData} {slF : Array (Option Value)} (g : Got w lo me mg mb h₀ s.heap [(f, ⟨ocF, odF, .func fdF, slF⟩)]) (R : Rm A 6 80) (hI : IntsAre vs (rangeKs 0 n)) (hl : (hid s.heap [(f, ⟨ocF, odF, .func fdF, slF⟩)]).IsList aa vs.toArray)
    (hrow : row.length = n) (hn : n ≤ 1000) (KO : KeyOK w f row s.heap) (t : Tok) :
    wpAny (model PySem.Challenge.rw_to0028_01.row.prog w) A (call (.ref 39) [.ref aa, .int 0 t] [("key", .ref f)]) (An s fun v _ => IsI (bisGo (fun i => row.getD i 0 - (i : Int)) 0 n 0 n : Nat) v) (fun _ _ => False) s := by
  obtain ⟨hh, hd0_, hu0_⟩ := R
  obtain ⟨_, dp, fr, gd, un⟩ := A
  cases hh
  exact DC.qA DC.qW w lo me mg mb dp fr gd un s h₀ f aa ocF odF fdF slF t n vs row g hd0_ hu0_ hI hl hrow hn KO
end

end

section
section
variable {M : Model} {A : Around} {E : Value → Shared → Prop} {s : Shared} {h₀ : Heap} {L a c P : Addr} {m mg mb : Str → Option Value} {cn : Str} {cs : Scope} {ccd : Value} {cl : List (Str × Addr)} {news : List (Addr × Obj)}
  {p : Program} {loose : List Str} {mean : ExcName → Option Value} {name qual : Str} {params : Arguments} {body : Expr} {scope : Scope} {ps : Array Value} {pos : Pos} {firstLine : Nat} {clos : List (Str × Addr)}
def CodeObj (oc : Obj) (qual : Str) : Prop := ∃ vs t, oc.data = .fields vs ∧ vs[1]? = some (.str qual t)
theorem CodeObj.rec {oc : Obj} {qual : Str} (x : CodeObj oc qual) {h : Heap} {c' : Addr} (e : h.get? c' = some oc) : h.CodeRec (.ref c') qual := let ⟨vs, t, hd, hv⟩ := x; ⟨c', oc, vs, t, rfl, e, hd, hv⟩
/-- the table of the codes made so far: none, or the lambda's -/
def TabLam (line col : Nat) (qual : Str) (h : Heap) (ps : Array Value) : Prop := ps = #[] ∨ ∃ c' oc, ps = #[rawInt line, rawInt col, .ref c'] ∧ h.get? c' = some oc ∧ CodeObj oc qual
theorem kla_both {Q : Value → Shared → Prop} {g : Obj → List (Addr × Obj)} (F : Fr h₀ L s.heap m) (N : News h₀ L s.heap news) (U : UpdF P (tabObj ps) news g) (T : Top p loose mean mg mb h₀) (C : CodeHd h₀ c P) (hcd : ccd = .ref c) (hps : TabLam pos.line pos.col qual h₀ ps)
    (hcl : closureFor scope (envX cn cs L a ccd cl) = pure clos)
    (h : ∀ f c' oc ctv ex h' tk, Fr h₀ L h' m → News h₀ L h' ((f, kla_obj name qual params body scope clos ((mg "__name__").getD .none) c' ctv) :: (g (tabObj #[rawInt pos.line, rawInt pos.col, .ref c']) ++ ex)) → CodeObj oc qual →
      (∀ h'' : Heap, (∀ b o, h₀.get? b = some o → h''.get? b = some o) → (∀ p ∈ ex, h''.get? p.1 = some p.2) → h''.get? c' = some oc) → c' ≠ P → (ps = #[] → h₀.get? c' = none) → (∀ c0, ps = #[rawInt pos.line, rawInt pos.col, .ref c0] → c' = c0) → (∀ q ∈ news, q.1 < f) → Q (.ref f) { s with heap := h', toks := tk }) :
    wpAny M A (makeFunction name qual params (.expr body) scope (envX cn cs L a ccd cl) [] [] [] pos firstLine) Q E s := by
  obtain ⟨own, rest, hnews, hgr, h1, h2⟩ := U.split
  have hP : (P, tabObj ps) ∈ news := by rw [hnews]; exact List.mem_append_right _ (.head _)
  rcases hps with rfl | ⟨c', oc, rfl, hc', hco⟩
  · refine kla_nest (ps := #[]) F N T C hcd U trivial rfl hcl fun f c' oc vs t ctv h' tk F' N' hd hv l1 l2 => ?_
    have e : (#[] ++ #[rawInt pos.line, rawInt pos.col, .ref c'] : Array Value) = #[rawInt pos.line, rawInt pos.col, .ref c'] := by simp
    rw [e] at N'
    refine h f c' oc ctv [(c', oc)] h' tk F' (fun q hq => ?_) ⟨vs, t, hd, hv⟩ (fun h'' _ hx => hx _ (.head _)) (Nat.ne_of_gt (l1 _ hP)) (fun _ => (N' _ (.tail _ (.head _))).2.2) (fun c0 q => by simp at q) (fun q hq => Nat.lt_trans (l1 _ hq) l2)
    rcases List.mem_cons.mp hq with rfl | hq
    · exact N' _ (.head _)
    rcases List.mem_append.mp hq with hq | hq
    · exact N' _ (.tail _ (.tail _ hq))
    · rw [List.mem_singleton.mp hq]; exact N' _ (.tail _ (.head _))
  · refine kla_hit (ps := #[rawInt pos.line, rawInt pos.col, .ref c']) (c' := c') F N T C hcd hP (by simp [TriplesOk, rawInt]) (by simp [codeAmong, rawInt]) hcl fun f ctv h' tk F' N' l => ?_
    refine h f c' oc ctv [] h' tk F' (by rw [List.append_nil, hgr, ← hnews]; exact N') hco (fun h'' k _ => k _ _ hc') (fun q => ?_) (fun q => by simp at q) (fun c0 q => by simpa using q) l
    have := (N _ hP).2.2
    dsimp only at this
    rw [← q, hc'] at this; cases this
end
theorem enterLam {prog : Program} {w : World} {p : Program} {lo : List Str} {me : ExcName → Option Value} {mg mb : Str → Option Value} {A : Around} {s : Shared} {name qual : Str} {params : Arguments} {body : Expr} {scope : Scope} {cl : List (Str × Addr)}
    {pm cdv ct : Value} {fo : Obj} {f : Addr} {args : Args} {binds : List (Str × Value)} {Q : Value → Shared → Prop} {news : List (Addr × Obj)}
    (T : Top p lo me mg mb (hid s.heap news)) (at' : ∀ p ∈ news, s.heap.get? p.1 = some p.2) (hroom : A.depth < recursionLimit)
    (ho : s.heap.get? f = some fo) (hd : fo.data = .func (kla_fn name qual params body scope cl pm cdv ct)) (hcd : s.heap.CodeRec cdv qual)
    (hbind : bindArgs (kla_fn name qual params body scope cl pm cdv ct) args = pure binds) (hloc : ∀ y ∈ binds, scope.names.lookup y.1 = some .local)
    (h : ∀ h₁, Fr (hid s.heap news) s.heap.objs.size h₁ (fun y => binds.reverse.lookup y) → News (hid s.heap news) s.heap.objs.size h₁ news →
      wpAny (model prog w) (A.deeper (envX qual scope s.heap.objs.size f cdv cl)) (eval body (envX qual scope s.heap.objs.size f cdv cl)) Q (fun _ _ => False) { s with heap := h₁, toks := s.toks + binds.length })
    (hco : scope.isCoroutine = false) (hgen : scope.isGenerator = false) (hk : scope.kind = .function) (hcell : ∀ x ∈ scope.names, x.2 ≠ .cell) :
    wpAny (model prog w) A (call (.ref f) args.pos args.kw) Q (fun _ _ => False) s := by
  refine wpAny_call (kla_callFunE hroom ho hd hco hgen rfl hcd ?_)
  rw [hbind]
  have nl : s.heap.NoLimit := T.nolimit.keeps fun b o e => of_hideAll _ e
  refine wpAny_pure (wpAny_newFunctionEnv hcell hloc (fun h₁ hns hsb => ⟨nl.fresh _ hsb, ?_⟩) hk)
  show codeAny _ _ (.expr body (envX qual scope s.heap.objs.size f cdv cl)) _ _
  have hk₁ : ∀ b o, s.heap.get? b = some o → h₁.get? b = some o := fun b o e => hsb.extBut b o (Nat.ne_of_lt (Heap.lt_size e)) (Heap.get?_push_of_some _ e)
  exact kla_codeExpr (wpAny_mono (h h₁ ⟨hns, fun b o e => hk₁ b o (of_hideAll _ e), Nat.le_of_eq (hideAll_size _ _)⟩
    (fun p hp => ⟨hk₁ _ _ (at' p hp), Nat.ne_of_lt (Heap.lt_size (at' p hp)), hideAll_none _ (List.mem_map_of_mem hp)⟩)) (fun v s' hl => hl) fun _ _ y => y.elim)

end

section
theorem part_partner : True := by
  w_top off
  exact trivial
local macro_rules | `(tactic| walk_at "pad") => `(tactic| fail)
local macro_rules | `(tactic| walk_at "pad") => `(tactic| fail)
local macro_rules | `(tactic| walk_at "pad") => `(tactic| fail)
local macro_rules | `(tactic| walk_at "pad") => `(tactic| fail)
theorem addne {n i j : Nat} (h : i ≠ j) : n + i ≠ n + j := fun e => h (Nat.add_left_cancel e)
def Hide (P : Prop) : Prop := P
theorem led5 {h₀ h : Heap} {L D : Addr} {n : Nat} {a b c d e : Int} {ta tb tc td te : Tok} {rest : List (Addr × Obj)} (N : News h₀ L h ((D, listOf #[.int a ta, .int b tb, .int c tc, .int d td, .int e te] n) :: rest)) : ∃ vs : List Value, IntsAre vs [a, b, c, d, e] ∧ News h₀ L h ((D, listOf vs.toArray n) :: rest) :=
  ⟨[.int a ta, .int b tb, .int c tc, .int d td, .int e te], .cons _ _ (.cons _ _ (.cons _ _ (.cons _ _ (.cons _ _ .nil)))), N⟩
theorem moved_yes {sl bs : List Int} {i : Nat} {x : Int} {ys : List Value} (h : IntsAre ys (movedF sl (bs.take i))) (hx : bs[i]? = some x) (hc : 0 ≤ x + 5 * sl.getD (Int.toNat (Int.fmod x 5)) 0) (t : Tok) : IntsAre (ys ++ [.int (x + 5 * sl.getD (Int.toNat (Int.fmod x 5)) 0) t]) (movedF sl (bs.take (i + 1))) := by
  have e : movedF sl (bs.take (i + 1)) = movedF sl (bs.take i) ++ [x + 5 * sl.getD (Int.toNat (Int.fmod x 5)) 0] := by
    unfold movedF
    rw [List.take_add_one, hx, List.map_append, List.filter_append]
    show _ ++ List.filter _ [mov1 sl x] = _
    rw [List.filter_cons_of_pos (by exact decide_eq_true hc)]; rfl
  rw [e]; exact ints_snoc h _ t
theorem moved_no {sl bs : List Int} {i : Nat} {x : Int} {ys : List Value} (h : IntsAre ys (movedF sl (bs.take i))) (hx : bs[i]? = some x) (hc : ¬ 0 ≤ x + 5 * sl.getD (Int.toNat (Int.fmod x 5)) 0) : IntsAre ys (movedF sl (bs.take (i + 1))) := by
  have e : movedF sl (bs.take (i + 1)) = movedF sl (bs.take i) := by
    unfold movedF
    rw [List.take_add_one, hx, List.map_append, List.filter_append]
    show _ ++ List.filter _ [mov1 sl x] = _
    rw [List.filter_cons_of_neg (by rw [decide_eq_true_eq]; exact hc)]; exact List.append_nil _
  rw [e]; exact h
theorem sl_bnd {sl : List Int} (h : Hide (∀ y ∈ sl, -1000 ≤ y ∧ y ≤ 40)) (hl : sl.length = 5) {i : Nat} (hi : i < 5) : -1000 ≤ sl.getD i 0 ∧ sl.getD i 0 ≤ 40 := by
  have e : sl.getD i 0 = sl[i]'(by omega) := by simp [hl, hi]
  rw [e]; exact h _ (List.getElem_mem _)
def NewJ (sl : List Int) (i j : Nat) (zs : List Value) : Prop := IntsAre zs ((List.range i).flatMap (newRow sl) ++ (List.range j).map fun (k : Nat) => (i : Int) + 5 * (0 + (k : Int))) ∧ zs.length ≤ 60 * i + j ∧ i ≤ 5
theorem newJ_len {sl : List Int} {i j : Nat} {zs : List Value} (h : NewJ sl i j zs) (hj : j ≤ 60) : zs.length ≤ sizeLine := Nat.le_trans (show zs.length ≤ 400 by have := h.2.1; have := h.2.2; omega) (by decide)
theorem newJ_next {sl : List Int} {i : Nat} {zs : List Value} (h : NewJ sl i (sl.getD i 0 - 0).toNat zs) (hj : (sl.getD i 0 - 0).toNat ≤ 60) (hi : i < 5) : NewJ sl (i + 1) 0 zs := by
  obtain ⟨h1, h2, h3⟩ := h
  refine ⟨?_, by omega, hi⟩
  rw [List.range_zero, List.map_nil, List.append_nil, List.range_succ, List.flatMap_append, List.flatMap_singleton]
  have e : newRow sl i = (List.range (sl.getD i 0 - 0).toNat).map fun (k : Nat) => (i : Int) + 5 * (0 + (k : Int)) := by
    unfold newRow rangeKs
    rw [List.map_map]; rfl
  rw [e]; exact h1
theorem newJ_step {sl : List Int} {i j : Nat} {zs : List Value} (h : NewJ sl i j zs) {x : Int} (t : Tok) (e : x = (i : Int) + 5 * (0 + (j : Int))) : NewJ sl i (j + 1) (zs ++ [.int x t]) := by
  obtain ⟨h1, h2, h3⟩ := h
  refine ⟨?_, by rw [List.length_append, List.length_singleton]; omega, h3⟩
  rw [List.range_succ, List.map_append, ← List.append_assoc, e]
  exact ints_snoc h1 _ t
theorem newJ_end {sl : List Int} {zs : List Value} (h : NewJ sl 5 0 zs) : IntsAre zs (newF sl) := by
  have h1 := h.1
  rwa [List.range_zero, List.map_nil, List.append_nil] at h1
def PartPost (qs : List Int) (ps : Array Value) (s : Shared) (v : Value) (s' : Shared) : Prop := ∃ h' t2 r nr vs c' oc, v = .ref r ∧ s' = { s with heap := h', toks := t2 } ∧ (∀ b o, b ≠ 140 → s.heap.get? b = some o → h'.get? b = some o) ∧
  h'.get? 140 = some (tabObj #[rawInt 212, rawInt 55, .ref c']) ∧ h'.get? c' = some oc ∧ CodeObj oc "_law_partner.<locals>.<lambda>" ∧ c' ≠ 140 ∧ (ps = #[] → s.heap.get? c' = none) ∧ (∀ c0, ps = #[rawInt 212, rawInt 55, .ref c0] → c' = c0) ∧
  s.heap.get? r = none ∧ h'.get? r = some (listOf (vs : List Value).toArray nr) ∧ IntsAre vs qs
theorem comp_lift {h₀ h1 h : Heap} {L C : Addr} {m m₂ : Str → Option Value} {news : List (Addr × Obj)} (F : Fr h₀ L h1 m) (N : News h₀ L h1 news) (G : Fr h1 C h m₂) : Fr h₀ C h m₂ ∧ News h₀ C h news :=
  ⟨⟨G.ns, fun b o e => G.keep b o (F.keep b o e), Nat.le_trans F.above (Nat.le_trans (Nat.le_of_lt F.ns.lt) G.above)⟩, fun p hp => ⟨G.keep _ _ (N p hp).1, Nat.ne_of_lt (Nat.lt_of_lt_of_le (Heap.lt_size (N p hp).1) G.above), (N p hp).2.2⟩⟩
theorem ints_range {ys : List Value} {i : Nat} {f : Nat → Int} (h : IntsAre ys ((List.range i).map f)) {x : Int} (t : Tok) (e : x = f i) : IntsAre (ys ++ [.int x t]) ((List.range (i + 1)).map f) := by
  rw [List.range_succ, List.map_append, e]
  exact ints_snoc h _ t
section
local macro_rules | `(tactic| k_lt $h) => `(tactic| skip)
local macro_rules | `(tactic| k_ne) => `(tactic| (refine neN ?_; (try dsimp only); first | (refine' neL ?kh ?km; (case kh => with_reducible assumption); (case km => k_mem)) | (refine' neG ?kh ?km; (case kh => with_reducible assumption); (case km => k_mem)) | with_reducible assumption | omega))
local macro_rules | `(tactic| walk_at "call type:enumerate") => `(tactic| (k_here; refine stop ?_))
local macro_rules | `(tactic| walk_at "call ref") => `(tactic| (k_here; refine stop ?_))
local macro_rules | `(tactic| walk_at "call builtin:sorted") => `(tactic| (k_here; refine stop ?_))
local macro_rules | `(tactic| walk_at "call type:range") => `(tactic| (k_here; (with_reducible show wpAny _ _ (call _ _) (fun xv s₁ => wpAny _ _ (pyIter xv) (CompAt _ _ _ _ _ _ _ _ _ _ _) _ s₁) _ _); refine stop ?_))
local macro_rules | `(tactic| walk_at "call type:range") => `(tactic| (k_here; (with_reducible show wpAny _ _ (call _ _) (fun xv s₁ => wpAny _ _ (pyIter xv) (CompAt2 _ _ _ _ _ _ _ _ _ _ _ _) _ s₁) _ _); refine stop ?_))
local macro_rules | `(tactic| walk_at "eval ListComp") => `(tactic| (k_here; (with_reducible show wpAny _ _ (eval (Expr.ListComp _ [_, _] _ _) _) _ _ _); k_dflt (refine' comp2_rule ?k0 ?k1 ?k2 ?k3 ?k4 ?kY ?_ ?k5 ?k6; (case k0 => exact rfl); (case k1 => exact rfl); (case k2 => decide); (case k3 => exact rfl); (case k4 => decide); (case kY => exact rfl); (case k5 => exact fun _ => rfl); (case k6 => exact fun _ _ => rfl); k_whole)))
local macro_rules | `(tactic| walk_at "binaryOp Add ref ref") => `(tactic| (k_here; refine stop ?_))
local macro_rules | `(tactic| walk_at "exec For Name Name cons nil") => `(tactic| (k_here; (rename Fr _ _ _ _ => lF'); (with_unfolding_all refine' for_ruleF lF' ?_ ?k1; (case k1 => exact fun _ => rfl); k_whole)))
local macro_rules | `(tactic| walk_at "exec Assign cons ListComp") => `(tactic| (k_here; k_dflt (refine' comp_ruleA ?k0 ?k1 ?k2 ?k3 ?k4 ?_ ?k5; (case k0 => with_unfolding_all rfl); (case k1 => exact rfl); (case k2 => decide); (case k3 => exact rfl); (case k4 => decide); (case k5 => exact fun _ => rfl); k_whole)))
namespace PC
abbrev qT := (World) × (List Str) × (ExcName → Option Value) × (Str → Option Value) × (Str → Option Value) × (Shared) × (Heap) × (Nat) × (Option (List Env)) × (Option (List Code)) × (Nat) × (Array Value) × (Addr)
def qP (w : World) (lo : List Str) (me : ExcName → Option Value) (mg : Str → Option Value) (mb : Str → Option Value) (s : Shared) (h₀ : Heap) (dp : Nat) (fr : Option (List Env)) (gd : Option (List Code)) (un : Nat) (ps : Array Value) (l : Addr) : Prop := ∀ (vs : List Value) (xs : List Int) (g : Got w lo me mg mb h₀ s.heap [(140, tabObj ps)]) (CH : CodeHd (hid s.heap [(140, tabObj ps)]) 142 140) (hd' : dp + 20 < recursionLimit) (hu' : un + 200 < cLine) (hl : (hid s.heap [(140, tabObj ps)]).IsList l vs.toArray) (hI : IntsAre vs xs) (hx : xs.length ≤ 19) (ok : OkP xs) (ht : TabLam 212 55 "_law_partner.<locals>.<lambda>" (hid s.heap [(140, tabObj ps)]) ps), wpAny (model PySem.Challenge.rw_to0028_01.row.prog w) ⟨none, dp, fr, gd, un⟩ (call (.ref 143) [.ref l]) (PartPost (partnerF xs) ps s) (fun _ _ => False) s
theorem qN : Nonempty qT := ⟨(PySem.W.aWorld 0, default, default, default, default, {}, default, default, default, default, default, default, default)⟩
noncomputable def qk : qT := (Classical.choice (drink qN fun v => qP v.1 v.2.1 v.2.2.1 v.2.2.2.1 v.2.2.2.2.1 v.2.2.2.2.2.1 v.2.2.2.2.2.2.1 v.2.2.2.2.2.2.2.1 v.2.2.2.2.2.2.2.2.1 v.2.2.2.2.2.2.2.2.2.1 v.2.2.2.2.2.2.2.2.2.2.1 v.2.2.2.2.2.2.2.2.2.2.2.1 v.2.2.2.2.2.2.2.2.2.2.2.2)).1
noncomputable def w : World := qk.1
noncomputable def lo : List Str := qk.2.1
noncomputable def me : ExcName → Option Value := qk.2.2.1
noncomputable def mg : Str → Option Value := qk.2.2.2.1
noncomputable def mb : Str → Option Value := qk.2.2.2.2.1
noncomputable def s : Shared := qk.2.2.2.2.2.1
noncomputable def h₀ : Heap := qk.2.2.2.2.2.2.1
noncomputable def dp : Nat := qk.2.2.2.2.2.2.2.1
noncomputable def fr : Option (List Env) := qk.2.2.2.2.2.2.2.2.1
noncomputable def gd : Option (List Code) := qk.2.2.2.2.2.2.2.2.2.1
noncomputable def un : Nat := qk.2.2.2.2.2.2.2.2.2.2.1
noncomputable def ps : Array Value := qk.2.2.2.2.2.2.2.2.2.2.2.1
noncomputable def l : Addr := qk.2.2.2.2.2.2.2.2.2.2.2.2
theorem qA (h : qP w lo me mg mb s h₀ dp fr gd un ps l) (w : World) (lo : List Str) (me : ExcName → Option Value) (mg : Str → Option Value) (mb : Str → Option Value) (s : Shared) (h₀ : Heap) (dp : Nat) (fr : Option (List Env)) (gd : Option (List Code)) (un : Nat) (ps : Array Value) (l : Addr) : qP w lo me mg mb s h₀ dp fr gd un ps l := (Classical.choice (drink qN fun v => qP v.1 v.2.1 v.2.2.1 v.2.2.2.1 v.2.2.2.2.1 v.2.2.2.2.2.1 v.2.2.2.2.2.2.1 v.2.2.2.2.2.2.2.1 v.2.2.2.2.2.2.2.2.1 v.2.2.2.2.2.2.2.2.2.1 v.2.2.2.2.2.2.2.2.2.2.1 v.2.2.2.2.2.2.2.2.2.2.2.1 v.2.2.2.2.2.2.2.2.2.2.2.2)).2 h (w, lo, me, mg, mb, s, h₀, dp, fr, gd, un, ps, l)
set_option maxHeartbeats 2000000 in
theorem qW : qP w lo me mg mb s h₀ dp fr gd un ps l := by
  intro vs xs g CH hd' hu' hl hI hx ok ht
  have X := g.hid.X
  have T := g.hid.T
  have h140 : (140 : Nat) < s.heap.objs.size := Heap.lt_size (g.at' _ (.head _))
  have c12 : @Ne Nat (s.heap.objs.size + 1) (s.heap.objs.size + 1 + 1) := addne (i := 1) (j := 2) (by decide)
  have c13 : @Ne Nat (s.heap.objs.size + 1) (s.heap.objs.size + 1 + 1 + 1) := addne (i := 1) (j := 3) (by decide)
  have c14 : @Ne Nat (s.heap.objs.size + 1) (s.heap.objs.size + 1 + 1 + 1 + 1) := addne (i := 1) (j := 4) (by decide)
  have c15 : @Ne Nat (s.heap.objs.size + 1) (s.heap.objs.size + 1 + 1 + 1 + 1 + 1) := addne (i := 1) (j := 5) (by decide)
  have c21 : @Ne Nat (s.heap.objs.size + 1 + 1) (s.heap.objs.size + 1) := addne (i := 2) (j := 1) (by decide)
  have c23 : @Ne Nat (s.heap.objs.size + 1 + 1) (s.heap.objs.size + 1 + 1 + 1) := addne (i := 2) (j := 3) (by decide)
  have c24 : @Ne Nat (s.heap.objs.size + 1 + 1) (s.heap.objs.size + 1 + 1 + 1 + 1) := addne (i := 2) (j := 4) (by decide)
  have c25 : @Ne Nat (s.heap.objs.size + 1 + 1) (s.heap.objs.size + 1 + 1 + 1 + 1 + 1) := addne (i := 2) (j := 5) (by decide)
  have c31 : @Ne Nat (s.heap.objs.size + 1 + 1 + 1) (s.heap.objs.size + 1) := addne (i := 3) (j := 1) (by decide)
  have c32 : @Ne Nat (s.heap.objs.size + 1 + 1 + 1) (s.heap.objs.size + 1 + 1) := addne (i := 3) (j := 2) (by decide)
  have c34 : @Ne Nat (s.heap.objs.size + 1 + 1 + 1) (s.heap.objs.size + 1 + 1 + 1 + 1) := addne (i := 3) (j := 4) (by decide)
  have c35 : @Ne Nat (s.heap.objs.size + 1 + 1 + 1) (s.heap.objs.size + 1 + 1 + 1 + 1 + 1) := addne (i := 3) (j := 5) (by decide)
  have c41 : @Ne Nat (s.heap.objs.size + 1 + 1 + 1 + 1) (s.heap.objs.size + 1) := addne (i := 4) (j := 1) (by decide)
  have c42 : @Ne Nat (s.heap.objs.size + 1 + 1 + 1 + 1) (s.heap.objs.size + 1 + 1) := addne (i := 4) (j := 2) (by decide)
  have c43 : @Ne Nat (s.heap.objs.size + 1 + 1 + 1 + 1) (s.heap.objs.size + 1 + 1 + 1) := addne (i := 4) (j := 3) (by decide)
  have c45 : @Ne Nat (s.heap.objs.size + 1 + 1 + 1 + 1) (s.heap.objs.size + 1 + 1 + 1 + 1 + 1) := addne (i := 4) (j := 5) (by decide)
  have c51 : @Ne Nat (s.heap.objs.size + 1 + 1 + 1 + 1 + 1) (s.heap.objs.size + 1) := addne (i := 5) (j := 1) (by decide)
  have c52 : @Ne Nat (s.heap.objs.size + 1 + 1 + 1 + 1 + 1) (s.heap.objs.size + 1 + 1) := addne (i := 5) (j := 2) (by decide)
  have c53 : @Ne Nat (s.heap.objs.size + 1 + 1 + 1 + 1 + 1) (s.heap.objs.size + 1 + 1 + 1) := addne (i := 5) (j := 3) (by decide)
  have c54 : @Ne Nat (s.heap.objs.size + 1 + 1 + 1 + 1 + 1) (s.heap.objs.size + 1 + 1 + 1 + 1) := addne (i := 5) (j := 4) (by decide)
  have d1 : @Ne Nat (s.heap.objs.size + 1) 140 := Nat.ne_of_gt (Nat.lt_add_right 1 h140)
  have e1 : @Ne Nat 140 (s.heap.objs.size + 1) := Nat.ne_of_lt (Nat.lt_add_right 1 h140)
  have d2 : @Ne Nat (s.heap.objs.size + 1 + 1) 140 := Nat.ne_of_gt (Nat.lt_add_right 2 h140)
  have e2 : @Ne Nat 140 (s.heap.objs.size + 1 + 1) := Nat.ne_of_lt (Nat.lt_add_right 2 h140)
  have d3 : @Ne Nat (s.heap.objs.size + 1 + 1 + 1) 140 := Nat.ne_of_gt (Nat.lt_add_right 3 h140)
  have e3 : @Ne Nat 140 (s.heap.objs.size + 1 + 1 + 1) := Nat.ne_of_lt (Nat.lt_add_right 3 h140)
  have d4 : @Ne Nat (s.heap.objs.size + 1 + 1 + 1 + 1) 140 := Nat.ne_of_gt (Nat.lt_add_right 4 h140)
  have e4 : @Ne Nat 140 (s.heap.objs.size + 1 + 1 + 1 + 1) := Nat.ne_of_lt (Nat.lt_add_right 4 h140)
  have d5 : @Ne Nat (s.heap.objs.size + 1 + 1 + 1 + 1 + 1) 140 := Nat.ne_of_gt (Nat.lt_add_right 5 h140)
  have e5 : @Ne Nat 140 (s.heap.objs.size + 1 + 1 + 1 + 1 + 1) := Nat.ne_of_lt (Nat.lt_add_right 5 h140)
  (refine' enterC (args := ⟨[.ref l], []⟩) (K := Mine.Kc w.params) (news := [(140, tabObj ps)]) ?k1 ?k2 ?kA ?k8 ?k6 ?k7 ?k9 ?kB ?kN ?_ ?c2 ?c3 ?c4; (case k1 => k_asm); (case k2 => k_asm); (case kA => exact g.at'); (case k6 => k_is); (case k7 => k_is); (case k8 => (exact (show dp < recursionLimit by omega))); (case k9 => exact BindsTo.of_eq rfl); (case kB => exact kindsX rfl); (case kN => decide); (case c2 => exact rfl); (case c3 => exact rfl); (case c4 => exact rfl))
  intro h1 tk1 cells F N Y
  k_cells Y
  simp only [List.cons_append, List.nil_append] at N
  k_steps
  refine unstop ?_
  rename News _ _ _ _ => N2
  rename Fr _ _ _ _ => F2
  rename IntsAre _ (rangeKs _ _) => hR
  rename IsRange _ _ _ _ _ _ _ _ => rg1
  clear rg1
  have hlen := hI.length
  refine compE rfl ⟨_, _, rfl, Kp.refl _, Nat.le_refl _⟩ (hl.at fun o e => F2.keep _ o e) rfl rfl rfl ?hz (fun i ys => IntsAre ys ((List.range i).map fun k => xs.getD k 0 + (20 - (xs.length : Int)) + (k : Int))) .nil ?el ?en
  case hz => exact Nat.le_trans (show vs.length ≤ 19 by omega) (by decide)
  case el =>
    rintro C i m₁ m₂ ys h tk hi hJ ⟨v, t, hv, rfl⟩ F3
    obtain ⟨F4, N4⟩ := comp_lift F2 N2 F3
    obtain ⟨x, tx, hx1, rfl⟩ := intsAre_get hI hv
    refine wpAny_tests_nil ?_
    rw [if_pos rfl]
    k_steps
    · exact ⟨_, _, rfl, Kp.refl _⟩
    · exact ints_range hJ _ (by rw [List.getD_eq_getElem?_getD, hx1]; rfl)
  case en =>
    intro D h9 tk9 ys hJ k9 hz9 hD
    obtain ⟨F5, N5, l5⟩ := led_new F2 N2 k9 hz9 hD
    clear F2 N2
    rw [hlen] at hJ
    k_steps
    refine unstop ?_
    refine kmk_add_ints F5 N5 (News.isList N5 (.tail _ (.head _))) (News.isList N5 (.head _)) hR hJ ?_ ?hz2
    case hz2 => rw [rangeKs_length, List.length_map, List.length_range]; exact Nat.le_trans (show _ ≤ 40 by omega) (by decide)
    intro B bv h10 F6 N6 l6 hB
    clear F5 N5 hJ hR
    have hbl : (beadsF xs).length = 20 := by
      unfold beadsF
      rw [List.length_append, rangeKs_length, List.length_map, List.length_range]
      omega
    replace hB : IntsAre bv (beadsF xs) := hB
    replace ok : OkN (beadsF xs) (cntF (beadsF xs)) := ok
    generalize hbs : beadsF xs = bs at hB hbl ok
    k_steps
    rename News _ _ _ _ => N7
    rename Fr _ _ _ _ => F7
    refine' forL_o [] ?hh ?S ?F ?N ?hsrc ?r1 ?r2 (fun D i m' o => m' "beads" = some (.ref B) ∧ ∃ ws k, o = listOf (List.toArray ws) k ∧ IntsAre ws ((bs.take i).foldl cnt1 [-4, -4, -4, -4, -4])) ?h0 ?turn ?done
    case F => exact F7
    case N => exact N7
    case S => exact SrcL.led (its := bv.toArray) (n := 0)
    case hh => rfl
    case hsrc => exact fun p hp => by rw [List.mem_singleton.mp hp]; exact .head _
    case r1 => rfl
    case r2 => rfl
    case h0 => exact ⟨rfl, _, _, rfl, .cons _ _ (.cons _ _ (.cons _ _ (.cons _ _ (.cons _ _ .nil))))⟩
    case turn =>
      rintro i v m₁ o₁ h tk own hv ⟨hb, ws2, k, rfl, hI4⟩ F2 N2 sep so
      obtain ⟨x, tx, hx1, rfl⟩ := intsAre_get hB hv
      simp only [List.cons_append, List.nil_append] at N2
      clear F7 N7
      have hl5 : ((bs.take i).foldl cnt1 [-4, -4, -4, -4, -4]).length = 5 := cnt_len (bs.take i) [-4, -4, -4, -4, -4]
      have h05 : 0 ≤ Int.fmod x 5 ∧ Int.fmod x 5 < 5 := ⟨Int.fmod_nonneg_of_pos _ (by decide), Int.fmod_lt_of_pos _ (by decide)⟩
      have e5 : (bs.take (i + 1)).foldl cnt1 [-4, -4, -4, -4, -4] = cnt1 ((bs.take i).foldl cnt1 [-4, -4, -4, -4, -4]) x := by rw [List.take_add_one, List.foldl_append, hx1]; rfl
      generalize (bs.take i).foldl cnt1 [-4, -4, -4, -4, -4] = ns at hI4 hl5 e5
      k_steps
      rename News _ _ _ _ => N3
      refine TEndO.next (by assumption) N3 sep (fun _ h => h) ⟨by ktr_rel, _, _, rfl, by rw [e5]; assumption⟩
    case done =>
      rintro m₁ o₁ h tk ⟨hb, ws, k, rfl, hI4⟩ F2 N2
      rw [hB.length, List.take_length] at hI4
      have hl5 := cnt_len bs [-4, -4, -4, -4, -4]
      clear F7 N7
      replace hI4 : IntsAre ws (cntF bs) := hI4
      replace hl5 : (cntF bs).length = 5 := hl5
      generalize hns : cntF bs = ns at hI4 hl5 ok
      rw [List.nil_append] at N2
      k_steps
      refine unstop ?_
      rename News _ _ _ _ => N3
      rename Fr _ _ _ _ => F3
      refine wpAny_mono (iseof_c (X.keeps F3.keep) (T.keeps F3.keep) ⟨rfl, (show dp + 1 + 2 < recursionLimit by omega), (show un + 3 + 20 < cLine by omega)⟩ _ _) (fun v s2 h => ?_) fun _ _ h => h
      obtain ⟨h11, tk11, rfl, k11, hv⟩ := h
      obtain rfl : v = .bool true := hv.trans (congrArg Value.bool (show (Int.fmod (fiveF ns) 5 == 0) = true by rw [ok.h5]; rfl))
      have F4 := F3.keeps k11
      have N4 := N3.keeps k11
      clear F3 N3 F2 N2
      k_steps
      refine unstop ?_
      rename News _ _ _ _ => N5
      rename Fr _ _ _ _ => F5
      obtain ⟨dv, hdv, N5⟩ := led5 N5
      replace hdv : IntsAre dv (dueF (aF ns (Int.fdiv (fiveF ns) 5))) := hdv
      have hdl : (dueF (aF ns (Int.fdiv (fiveF ns) 5))).length = 5 := rfl
      have esl : slideF ns = (List.range 5).map fun r => (dueF (aF ns (Int.fdiv (fiveF ns) 5))).getD r 0 - ns.getD r 0 := rfl
      generalize dueF (aF ns (Int.fdiv (fiveF ns) 5)) = du at hdv hdl esl
      refine compR1 (n := 5) ?r0 ⟨_, _, rfl, Kp.refl _, Nat.le_refl _⟩ ?sm ?rn ?r1 ?r2 ?hz (fun i ys => IntsAre ys ((List.range i).map fun r => du.getD r 0 - ns.getD r 0)) ?r3 ?el ?en
      case hz => decide
      case r0 => rfl
      case r1 => rfl
      case r2 => rfl
      case r3 => exact .nil
      case sm => decide +kernel
      case rn => decide +kernel
      case el =>
        rintro C i m₁ m₂ ys h tk hi hJ ⟨t, rfl⟩ F6
        obtain ⟨F7, N7⟩ := comp_lift F5 N5 F6
        refine wpAny_tests_nil ?_
        rw [if_pos rfl]
        k_steps
        · exact ⟨_, _, rfl, Kp.refl _⟩
        · exact ints_range hJ _ (by rw [Int.zero_add, Int.toNat_natCast])
      case en =>
        intro D3 h12 tk12 ys3 hS k12 hz12 hD3
        obtain ⟨F6, N6, l6⟩ := led_new F5 N5 k12 hz12 hD3
        clear F5 N5
        rw [← esl] at hS
        have hsl : (slideF ns).length = 5 := by unfold slideF; rw [List.length_map, List.length_range]
        replace ok : (∀ y ∈ slideF ns, -1000 ≤ y ∧ y ≤ 40) ∧ (movedF (slideF ns) bs ++ newF (slideF ns)).length < 64 := ⟨ok.hs1, ok.hs2⟩
        clear hI4 hl5 hv hdv hdl esl
        generalize hslv : slideF ns = sl at hS hsl ok
        obtain ⟨ok1, ok2⟩ := ok
        replace ok2 : Hide ((movedF sl bs ++ newF sl).length < 64) := ok2
        replace ok1 : Hide (∀ y ∈ sl, -1000 ≤ y ∧ y ≤ 40) := ok1
        replace N6 : News _ _ _ ((D3, listOf ys3.toArray ys3.length) :: _) := N6
        k_steps
        rename News _ _ _ _ => N7
        rename Fr _ _ _ _ => F7
        refine compL rfl ⟨_, _, rfl, Kp.refl _, Nat.le_refl _⟩ (News.isList N7 (.tail _ (.tail _ (.tail _ (.tail _ (.head _)))))) rfl rfl ?hz (fun i ys => IntsAre ys (movedF sl (bs.take i))) .nil ?el ?en
        case hz => rw [hB.length, hbl]; decide
        case el =>
          rintro C i m₁ m₂ ys h tk hi hJ ⟨v, hv, rfl⟩ F8
          obtain ⟨F9, N9⟩ := comp_lift F7 N7 F8
          obtain ⟨x, tx, hx1, rfl⟩ := intsAre_get hB hv
          have h05 : 0 ≤ Int.fmod x 5 ∧ Int.fmod x 5 < 5 := ⟨Int.fmod_nonneg_of_pos _ (by decide), Int.fmod_lt_of_pos _ (by decide)⟩
          refine wpAny_tests_one ?_
          k_steps
          · exact ⟨_, _, rfl, Kp.refl _⟩
          · exact moved_yes hJ hx1 (by assumption) _
          · exact ⟨_, _, rfl, Kp.refl _⟩
          · exact moved_no hJ hx1 (by assumption)
        case en =>
          intro D4 h13 tk13 ys4 hM k13 hz13 hD4
          rw [hB.length, List.take_length] at hM
          refine asg_fin F7 N7 k13 hz13 hD4 rfl rfl fun h14 tk14 F8 N8 l8 => ?_
          clear F7 N7
          replace N8 : News _ _ _ ((D4, listOf ys4.toArray ys4.length) :: _) := N8
          k_steps
          refine unstop ?_
          rename News _ _ _ _ => N9
          rename Fr _ _ _ _ => F9
          refine comp2R (n := 5) ?r0 ⟨_, _, rfl, Kp.refl _, Nat.le_refl _⟩ ?sm ?rn ?r1 ?r2 (NewJ sl) ?h0 ?turn ?en
          case r0 => rfl
          case r1 => rfl
          case r2 => rfl
          case sm => decide +kernel
          case rn => decide +kernel
          case h0 => exact ⟨.nil, Nat.le_refl _, Nat.zero_le _⟩
          case turn =>
            intro C i t m₁ ys h tk hi hJ F10
            obtain ⟨FA, NA⟩ := comp_lift F9 N9 F10
            obtain ⟨hb1, hb2⟩ := sl_bnd ok1 hsl hi
            k_steps
            rename IsRange _ _ _ _ _ _ _ _ => hr
            rw [Int.toNat_natCast] at hr
            have e62 : (2 : Int) ^ 62 = 4611686018427387904 := by decide
            refine ⟨_, _, _, _, _, _, (sl.getD i 0 - 0).toNat, rfl, ⟨_, _, rfl, by assumption⟩, hr, small_one (by decide) (by decide) (by omega) (by omega), rangeSize_nat _ _, fun j zs hz hj => newJ_len hz (by omega), fun zs hz => newJ_next hz (by omega) hi, fun j t' zs h' tk' hj hz F11 => ?_⟩
            clear hr
            obtain ⟨FB, NB⟩ := comp_lift F9 N9 F11
            k_steps
            · exact ⟨_, _, rfl, Kp.refl _⟩
            · exact newJ_step hz _ rfl
          case en =>
            intro D5 h15 tk15 ys5 hN k15 hz15 hD5
            obtain ⟨F10, N10, l10⟩ := led_new F9 N9 k15 hz15 hD5
            clear F9 N9
            replace N10 : News _ _ _ ((D5, listOf ys5.toArray ys5.length) :: _) := N10
            replace hN : IntsAre ys5 (newF sl) := newJ_end hN
            k_steps
            refine unstop ?_
            have hll : (movedF sl bs).length + (newF sl).length < 64 := by rw [← List.length_append]; exact ok2
            refine kmk_add_ints F10 N10 (News.isList N10 (.tail _ (.head _))) (News.isList N10 (.head _)) hM hN ?_ (Nat.le_trans (Nat.le_of_lt hll) (by decide))
            intro D6 uv6 h16 FC NC l11 hU
            clear F10 N10 hM hN
            k_steps
            refine unstop ?_
            refine kso_sorted FC NC (News.isList NC (.head _)) hU (by rw [List.length_append]; exact hll) fun D7 rv rs c7 h17 FD ND l12 hRv hrl hrp hrs _ => ?_
            clear FC NC hU
            have erow : rs = isort (movedF sl bs ++ newF sl) := sorted_isort hrp hrs
            have hrl64 : rs.length < 64 := by rw [hrl, List.length_append]; exact hll
            clear hrp hrs hrl hll
            k_steps
            rename News _ _ _ _ => NE
            rename Fr _ _ _ _ => FE
            rename IntsAre _ (rangeKs _ _) => hRg
            rename IsRange _ _ _ _ _ _ _ _ => rgx
            clear rgx
            rw [Int.sub_zero, Int.toNat_natCast] at hRg
            refine kla_eval rfl ?_
            refine' kla_both FE NE ?U T CH rfl ht rfl ?_
            case U => k_updF
            intro f c' oc ctv ex h18 tk18 FG NG hco hcr hc140 hcn hch lf
            dsimp only at NG
            have KO : KeyOK w f rs h18 := by
              intro A2 s2 k2 t2 kp R2 hk2
              obtain ⟨hh2, hd2, hu2⟩ := R2
              obtain ⟨_, dp2, fr2, gd2, un2⟩ := A2
              cases hh2
              have hd2' : dp2 + 3 < recursionLimit := hd2
              have g2 : Got w lo me mg mb (hid s.heap [(140, tabObj ps)]) s2.heap _ := ⟨⟨X, T⟩, fun b o e => kp _ _ (FG.keep b o e), fun p hp => kp _ _ (NG p hp).1, fun p hp => (NG p hp).2.2⟩
              have T2 := g2.hid.T
              have X2 := g2.hid.X
              have hcd2 := hco.rec (hcr s2.heap (fun b o e => kp _ _ (FG.keep b o e)) (fun p hp => kp _ _ (NG p (.tail _ (List.mem_append_right _ hp))).1))
              (refine' enterLam (args := ⟨[.int (k2 : Int) t2], []⟩) T2 g2.at' ?k8 (kp _ _ (NG _ (.head _)).1) ?k6 hcd2 ?k9 ?kB ?_ ?c2 ?c3 ?c4 ?c5; (case k6 => exact rfl); (case k8 => exact (show dp2 < recursionLimit by omega)); (case k9 => exact rfl); (case c5 => decide); (case kB => exact locs rfl); (case c2 => exact rfl); (case c3 => exact rfl); (case c4 => exact rfl))
              intro h19 F19 N19
              have N19' := N19
              simp only [List.cons_append, List.nil_append] at N19
              clear NG FG NE FE
              k_steps
              · rename Heap.get? _ _ = some _ => hg
                exact fin_keep g2.at' F19 N19' [] (fun p hp => .inr hp) _ _ List.not_mem_nil hg
              · exact isI (by rw [Int.toNat_natCast])
            have NG' := NG
            simp only [List.cons_append, List.nil_append] at NG
            k_steps
            refine unstop ?_
            rename News _ _ _ _ => NH
            rename Fr _ _ _ _ => FH
            have g3 : Got w lo me mg mb (hid s.heap [(140, tabObj ps)]) _ [(f, _)] := ⟨⟨X, T⟩, FH.keep, fun p hp => by rw [List.mem_singleton.mp hp]; exact (NH _ (.head _)).1, fun p hp => by rw [List.mem_singleton.mp hp]; exact (NH _ (.head _)).2.2⟩
            refine wpAny_mono (bisect2_c (h₀ := hid s.heap [(140, tabObj ps)]) g3 ⟨rfl, (show dp + 1 + 6 < recursionLimit by omega), (show un + 3 + 80 < cLine by omega)⟩ hRg ⟨_, hideAll_get _ (NH _ (.tail _ (.head _))).1 (fun hm => Nat.ne_of_lt (lf _ (.head _)) (List.mem_singleton.mp hm)), rfl, _, rfl⟩ rfl (by omega) KO _) (fun v s2 y => ?_) fun _ _ y => y.elim
            obtain ⟨h20, tk20, rfl, k20, tt, rfl⟩ := y
            have FI := FH.keeps k20
            have NI := NH.keeps k20
            clear FH NH
            have hfr : frontF rs ≤ rs.length := bisGo_le _ _ _ _ _ (Nat.zero_le _)
            have efr : bisGo (fun i => rs.getD i 0 - (i : Int)) 0 rs.length 0 rs.length = frontF rs := rfl
            rw [efr]
            generalize hfv : frontF rs = fr0 at hfr
            k_steps
            refine unstop ?_
            rename News _ _ _ _ => NJ
            rename Fr _ _ _ _ => FJ
            have e62 : (2 : Int) ^ 62 = 4611686018427387904 := by decide
            refine compR2 (n := rs.length - fr0) ?r0 ⟨_, _, rfl, Kp.refl _, Nat.le_refl _⟩ ?sm ?rn ?r1 ?r2 ?hz (fun i ys => IntsAre ys ((List.range i).map fun k => rs.getD (fr0 + k) 0 - ((fr0 + k : Nat) : Int))) ?r3 ?el ?en
            case r0 => rfl
            case r1 => rfl
            case r2 => rfl
            case r3 => exact .nil
            case sm => exact small_one (by omega) (by omega) (by omega) (by omega)
            case rn => rw [rangeSize_nat]; omega
            case hz => exact Nat.le_trans (show _ ≤ 64 by omega) (by decide)
            case el =>
              rintro C i m₁ m₂ ys h tk hi hJ ⟨t, rfl⟩ FK
              obtain ⟨FL, NL⟩ := comp_lift FJ NJ FK
              refine wpAny_tests_nil ?_
              rw [if_pos rfl]
              k_steps
              · exact ⟨_, _, rfl, Kp.refl _⟩
              · exact ints_range hJ _ (by rw [show (fr0 : Int) + (i : Int) = ((fr0 + i : Nat) : Int) from rfl, Int.toNat_natCast])
            case en =>
              intro D9 h21 tk21 ys9 hJ9 k21 hz21 hD9
              obtain ⟨FM, NM, l13⟩ := led_new FJ NJ k21 hz21 hD9
              clear FJ NJ
              k_steps
              have hrow : rowF xs = rs := by rw [erow, ← hslv, ← hns, ← hbs]; rfl
              have hq : (List.range (rs.length - fr0)).map (fun k => rs.getD (fr0 + k) 0 - ((fr0 + k : Nat) : Int)) = partnerF xs := by
                unfold partnerF tailF
                rw [hrow, hfv]
              have hc21 : h21.get? c' = some oc := hcr h21 FM.keep fun p hp => (NM p (by repeat (first | exact hp | apply List.Mem.tail))).1
              exact ⟨_, _, D9, _, ys9, c', oc, rfl, rfl, fun b o hb => fin_keep g.at' FM NM [140] (fun p hp => .inl (by rw [List.mem_singleton.mp hp]; exact .head _)) b o (fun hm => hb (List.mem_singleton.mp hm)), (NM (140, tabObj #[rawInt 212, rawInt 55, .ref c']) (by k_mem)).1, hc21, hco, hc140,
                fun e => hid_none (hcn e) (fun hm => hc140 (List.mem_singleton.mp hm)), hch, fin_new NM (.head _) (fun q hq => by rw [List.mem_singleton.mp hq]; exact neL l13 (by k_mem)), (NM _ (.head _)).1, hq ▸ hJ9⟩
end PC
end
theorem partner_c {w : World} {lo : List Str} {me : ExcName → Option Value} {mg mb : Str → Option Value} {A : Around} {s : Shared} {h₀ : Heap} {ps : Array Value} {vs : List Value} {xs : List Int} {l : Addr} (g : Got w lo me mg mb h₀ s.heap [(140, tabObj ps)]) (CH : CodeHd (hid s.heap [(140, tabObj ps)]) 142 140) (R : Rm A 20 200)
    (hl : (hid s.heap [(140, tabObj ps)]).IsList l vs.toArray) (hI : IntsAre vs xs) (hx : xs.length ≤ 19) (ok : OkP xs) (ht : TabLam 212 55 "_law_partner.<locals>.<lambda>" (hid s.heap [(140, tabObj ps)]) ps) :
    wpAny (model PySem.Challenge.rw_to0028_01.row.prog w) A (call (.ref 143) [.ref l]) (PartPost (partnerF xs) ps s) (fun _ _ => False) s := by
  obtain ⟨hh, hd0, hu0⟩ := R
  obtain ⟨_, dp, fr, gd, un⟩ := A
  cases hh
  exact PC.qA PC.qW w lo me mg mb s h₀ dp fr gd un ps l vs xs g CH hd0 hu0 hl hI hx ok ht

end

section
theorem part_turns : True := by
  w_top off
  exact trivial
def AllNe (d : Nat) : List (Addr × Obj) → Prop
  | [] => True
  | p :: r => (@Ne Nat p.1 d) ∧ AllNe d r
theorem allNe_of {h₀ h : Heap} {L : Addr} {d : Nat} (e : h.get? d = none) : ∀ {news : List (Addr × Obj)}, News h₀ L h news → AllNe d news
  | [], _ => trivial
  | p :: r, N => ⟨fun q => (by have := (N p (.head _)).1; rw [show p.1 = d from q, e] at this; cases this), allNe_of e fun q hq => N q (.tail _ hq)⟩
/-- a fresh object joins the ledger -/
theorem led_fresh {h₀ h h' : Heap} {L D : Addr} {m : Str → Option Value} {news : List (Addr × Obj)} {o : Obj} (F : Fr h₀ L h m) (N : News h₀ L h news) (k : Kp h h') (hn : h.get? D = none) (e : h'.get? D = some o) :
    Fr h₀ L h' m ∧ News h₀ L h' ((D, o) :: news) ∧ AllNe D news := by
  refine ⟨F.keeps k, fun p hp => ?_, allNe_of hn N⟩
  rcases List.mem_cons.mp hp with rfl | hp
  · refine ⟨e, fun q => ?_, ?_⟩
    · obtain ⟨o', _, _, e', _⟩ := F.ns
      rw [show L = D from q.symm, hn] at e'; cases e'
    · cases q : h₀.get? D with
      | none => rfl
      | some o' => have := F.keep D o' q; rw [hn] at this; cases this
  · exact N.keeps k p hp
section
variable {w : World} {lo : List Str} {me : ExcName → Option Value} {mg mb : Str → Option Value} {A : Around} {s : Shared} {h₀ : Heap} {L : Addr} {m : Str → Option Value} {Q : Value → Shared → Prop} {E : Value → Shared → Prop}
theorem push_w {x d sT pb n1 n2 : Nat} {line : Int} {a b c e f' g' t : Tok} {u : Str} {pre rest : List (Addr × Obj)} (X : (Mine.Kc w.params).In h₀) (T : Top topProg lo me mg mb h₀) (F : Fr h₀ L s.heap m)
    (N : News h₀ L s.heap (pre ++ (pb, listOf #[] n2) :: (d, lxD w.params line sT pb a b c e f' g' n1) :: (x, instObj 77 d) :: rest)) (R : Rm A 5 40) (o1 : d < x) (o2 : x < pb) (hp : ∀ p ∈ pre, p.1 ≠ pb) (hr : ∀ p ∈ rest, p.1 ≠ pb)
    (h : ∀ h' tk n', Fr h₀ L h' m → News h₀ L h' (pre ++ (pb, listOf #[.str u t] n') :: (d, lxD w.params line sT pb a b c e f' g' n1) :: (x, instObj 77 d) :: rest) → Q .none { s with heap := h', toks := tk }) :
    wpAny (model PySem.Challenge.rw_to0028_01.row.prog w) A (call (.ref 74) [.ref x, .str u t]) Q E s := by
  have N0 := fun p hp => N p (List.mem_append_right pre hp)
  have sub : ∀ p ∈ [(pb, listOf ([] : List Value).toArray n2), (d, lxD w.params line sT pb a b c e f' g' n1), (x, instObj 77 d)], p ∈ pre ++ (pb, listOf #[] n2) :: (d, lxD w.params line sT pb a b c e f' g' n1) :: (x, instObj 77 d) :: rest :=
    List.forall_mem_cons.mpr ⟨List.mem_append_right _ (.head _), List.forall_mem_cons.mpr ⟨List.mem_append_right _ (.tail _ (.head _)), List.forall_mem_cons.mpr ⟨List.mem_append_right _ (.tail _ (.tail _ (.head _))), List.forall_mem_nil _⟩⟩⟩
  refine wpAny_mono (push_c (h₀ := h₀) (pv := []) ⟨⟨X, T⟩, F.keep, fun p hp => (N p (sub p hp)).1, fun p hp => (N p (sub p hp)).2.2⟩ R o1 o2 (Nat.zero_le _)) (fun v s' y => ?_) fun _ _ y => y.elim
  obtain ⟨h', t2, n', rfl, rfl, hk, e1⟩ := y
  obtain ⟨F', N'⟩ := led_set F N hk e1 hp (List.forall_mem_cons.mpr ⟨Nat.ne_of_lt (Nat.lt_trans o1 o2), List.forall_mem_cons.mpr ⟨Nat.ne_of_lt o2, hr⟩⟩)
  exact h _ _ _ F' N'
theorem pop_w {x d sT pb n1 n2 : Nat} {line : Int} {a b c e f' g' t : Tok} {u : Str} {pre rest : List (Addr × Obj)} (X : (Mine.Kc w.params).In h₀) (T : Top topProg lo me mg mb h₀) (F : Fr h₀ L s.heap m)
    (N : News h₀ L s.heap (pre ++ (pb, listOf #[.str u t] n2) :: (d, lxD w.params line sT pb a b c e f' g' n1) :: (x, instObj 77 d) :: rest)) (R : Rm A 5 40) (o1 : d < x) (o2 : x < pb) (hp : ∀ p ∈ pre, p.1 ≠ pb) (hr : ∀ p ∈ rest, p.1 ≠ pb)
    (h : ∀ h' tk n', Fr h₀ L h' m → News h₀ L h' (pre ++ (pb, listOf #[] n') :: (d, lxD w.params line sT pb a b c e f' g' n1) :: (x, instObj 77 d) :: rest) → Q (.str u t) { s with heap := h', toks := tk }) :
    wpAny (model PySem.Challenge.rw_to0028_01.row.prog w) A (call (.ref 67) [.ref x]) Q E s := by
  have sub : ∀ p ∈ [(pb, listOf #[.str u t] n2), (d, lxD w.params line sT pb a b c e f' g' n1), (x, instObj 77 d)], p ∈ pre ++ (pb, listOf #[.str u t] n2) :: (d, lxD w.params line sT pb a b c e f' g' n1) :: (x, instObj 77 d) :: rest :=
    List.forall_mem_cons.mpr ⟨List.mem_append_right _ (.head _), List.forall_mem_cons.mpr ⟨List.mem_append_right _ (.tail _ (.head _)), List.forall_mem_cons.mpr ⟨List.mem_append_right _ (.tail _ (.tail _ (.head _))), List.forall_mem_nil _⟩⟩⟩
  refine wpAny_mono (pop_c (h₀ := h₀) ⟨⟨X, T⟩, F.keep, fun p hp => (N p (sub p hp)).1, fun p hp => (N p (sub p hp)).2.2⟩ R o1 o2) (fun v s' y => ?_) fun _ _ y => y.elim
  obtain ⟨h', t2, n', rfl, rfl, hk, e1⟩ := y
  obtain ⟨F', N'⟩ := led_set F N hk e1 hp (List.forall_mem_cons.mpr ⟨Nat.ne_of_lt (Nat.lt_trans o1 o2), List.forall_mem_cons.mpr ⟨Nat.ne_of_lt o2, hr⟩⟩)
  exact h _ _ _ F' N'
theorem text_w {l : Addr} {vs : List Value} {xs : List Int} {news : List (Addr × Obj)} (X : (Mine.Kc w.params).In h₀) (T : Top topProg lo me mg mb h₀) (F : Fr h₀ L s.heap m) (N : News h₀ L s.heap news) (R : Rm A 2 20) (hI : IntsAre vs xs) (hl : s.heap.IsList l vs.toArray) (hz : xs.length ≤ 64) (hx : ∀ x ∈ xs, 0 ≤ x ∧ x ≤ 64)
    (h : ∀ h' tk t, Fr h₀ L h' m → News h₀ L h' news → Q (.str (textF xs) t) { s with heap := h', toks := tk }) :
    wpAny (model PySem.Challenge.rw_to0028_01.row.prog w) A (call (.ref 131) [.ref l]) Q E s := by
  refine wpAny_mono (text_c (X.keeps F.keep) (T.keeps F.keep) R l vs xs hI hl hz hx) (fun v s' y => ?_) fun _ _ y => y.elim
  obtain ⟨h', tk, rfl, k, t, rfl⟩ := y
  exact h _ _ _ (F.keeps k) (N.keeps k)
theorem parts_w {u : Str} {t : Tok} {news : List (Addr × Obj)} (X : (Mine.Kc w.params).In h₀) (T : Top topProg lo me mg mb h₀) (F : Fr h₀ L s.heap m) (N : News h₀ L s.heap news) (R : Rm A 5 20) (hu : u.cps.size ≤ 1000)
    (h : ∀ h' tk gens' D (vs : List Value) k, (AllBare s.gens → AllBare gens') → IntsAre vs (partsF u) → Fr h₀ L h' m → News h₀ L h' ((D, listOf vs.toArray k) :: news) → AllNe D news → Q (.ref D) { s with heap := h', toks := tk, gens := gens' }) :
    wpAny (model PySem.Challenge.rw_to0028_01.row.prog w) A (call (.ref 138) [.str u t]) Q E s := by
  refine wpAny_mono (parts_c (X.keeps F.keep) (T.keeps F.keep) R u t hu) (fun v s' y => ?_) fun _ _ y => y.elim
  obtain ⟨h', tk, gens', rfl, hb, k, D, vs, n, rfl, hn, e, hI⟩ := y
  obtain ⟨F', N', hne⟩ := led_fresh F N k hn e
  exact h _ _ _ _ _ _ hb hI F' N' hne
end
section
variable {w : World} {lo : List Str} {me : ExcName → Option Value} {mg mb : Str → Option Value} {A : Around} {s : Shared} {h₀ : Heap} {L : Addr} {m : Str → Option Value} {Q : Value → Shared → Prop} {E : Value → Shared → Prop}
/-- the partner, in a walk: pre ++ (140, tab) :: rest -/
theorem partner_w {l : Nat} {ps : Array Value} {vs : List Value} {xs : List Int} {pre rest : List (Addr × Obj)} (X : (Mine.Kc w.params).In h₀) (T : Top topProg lo me mg mb h₀) (CH : CodeHd h₀ 142 140) (F : Fr h₀ L s.heap m) (N : News h₀ L s.heap (pre ++ (140, tabObj ps) :: rest)) (R : Rm A 20 200) (hI : IntsAre vs xs) (hl : s.heap.IsList l vs.toArray) (hl140 : l ≠ 140)
    (hx : xs.length ≤ 19) (ok : OkP xs) (ht : ps = #[] ∨ ∃ c' oc, ps = #[rawInt 212, rawInt 55, .ref c'] ∧ (c', oc) ∈ pre ++ rest ∧ CodeObj oc "_law_partner.<locals>.<lambda>") (hp : ∀ p ∈ pre, p.1 ≠ 140) (hr : ∀ p ∈ rest, p.1 ≠ 140)
    (h : ∀ h' tk r nr (vs : List Value) c' oc, (ps = #[] → News h₀ L h' ((c', oc) :: (r, listOf vs.toArray nr) :: (pre ++ (140, tabObj #[rawInt 212, rawInt 55, .ref c']) :: rest)) ∧ AllNe c' (pre ++ (140, tabObj ps) :: rest)) → (ps ≠ #[] → ps = #[rawInt 212, rawInt 55, .ref c']) → CodeObj oc "_law_partner.<locals>.<lambda>" → IntsAre vs (partnerF xs) → Fr h₀ L h' m →
      News h₀ L h' ((r, listOf vs.toArray nr) :: (pre ++ (140, tabObj #[rawInt 212, rawInt 55, .ref c']) :: rest)) → AllNe r (pre ++ (140, tabObj ps) :: rest) → Q (.ref r) { s with heap := h', toks := tk }) :
    wpAny (model PySem.Challenge.rw_to0028_01.row.prog w) A (call (.ref 143) [.ref l]) Q E s := by
  have hm140 : (140, tabObj ps) ∈ pre ++ (140, tabObj ps) :: rest := List.mem_append_right _ (.head _)
  have g : Got w lo me mg mb h₀ s.heap [(140, tabObj ps)] := ⟨⟨X, T⟩, F.keep, fun p hp => by rw [List.mem_singleton.mp hp]; exact (N _ hm140).1, fun p hp => by rw [List.mem_singleton.mp hp]; exact (N _ hm140).2.2⟩
  have hh : ∀ b o, b ≠ 140 → s.heap.get? b = some o → (hid s.heap [(140, tabObj ps)]).get? b = some o := fun b o hb e => hideAll_get _ e fun hm => hb (List.mem_singleton.mp hm)
  have hlh : (hid s.heap [(140, tabObj ps)]).IsList l vs.toArray := by obtain ⟨o, e, r⟩ := hl; exact ⟨o, hh _ _ hl140 e, r⟩
  have mem' : ∀ p ∈ pre ++ rest, p ∈ pre ++ (140, tabObj ps) :: rest ∧ p.1 ≠ 140 := fun p hq => by
    rcases List.mem_append.mp hq with hq | hq
    · exact ⟨List.mem_append_left _ hq, hp p hq⟩
    · exact ⟨List.mem_append_right _ (.tail _ hq), hr p hq⟩
  have ht' : TabLam 212 55 "_law_partner.<locals>.<lambda>" (hid s.heap [(140, tabObj ps)]) ps := by
    rcases ht with e | ⟨c', oc, e, hm, hc⟩
    · exact .inl e
    · exact .inr ⟨c', oc, e, hh _ _ (mem' _ hm).2 (N _ (mem' _ hm).1).1, hc⟩
  refine wpAny_mono (partner_c (h₀ := h₀) g (CH.keeps (hid_kp g)) R hlh hI hx ok ht') (fun v s' y => ?_) fun _ _ y => y.elim
  obtain ⟨h', t2, r, nr, vs', c', oc, rfl, rfl, hk, htab, hc, hco, hc140, hcn, hch, hrn, hre, hI'⟩ := y
  obtain ⟨F', N'⟩ := led_set F N hk htab hp hr
  have add : ∀ (D : Addr) (o : Obj), s.heap.get? D = none → h'.get? D = some o → ∀ nn, News h₀ L h' nn → News h₀ L h' ((D, o) :: nn) := fun D o hn e nn NN p hp => by
    rcases List.mem_cons.mp hp with rfl | hp
    · refine ⟨e, fun q => ?_, ?_⟩
      · obtain ⟨o', _, _, e', _⟩ := F.ns
        rw [show L = D from q.symm, hn] at e'; cases e'
      · cases q : h₀.get? D with
        | none => rfl
        | some o' => have := F.keep D o' q; rw [hn] at this; cases this
    · exact NN p hp
  have N1 := add r _ hrn hre _ N'
  refine h h' t2 r nr vs' c' oc (fun e => ⟨add c' _ (hcn e) hc _ N1, allNe_of (hcn e) N⟩) (fun e => ?_) hco hI' F' N1 (allNe_of hrn N)
  rcases ht with e' | ⟨c0, _, e', _⟩
  · exact absurd e' e
  · rw [e', hch c0 e']
end
abbrev rgIt (x left : Int) : Obj := { cls := .type "range_iterator", dict := none, data := .fields #[rawInt x, rawInt left, rawInt 1], slots := #[] }
section
variable {prog : Program} {w : World} {A : Around} {s : Shared} {h₀ : Heap} {L : Addr} {m : Str → Option Value}
theorem rng_iter {r : Nat} {a b : Int} {t u v : Tok} {n : Nat} {news : List (Addr × Obj)} {Q : Value → Shared → Prop} {E : Value → Shared → Prop} (F : Fr h₀ L s.heap m) (N : News h₀ L s.heap news) (hr : IsRange s.heap r a b 1 t u v) (hsm : Builtin.Range.small a b 1 = true) (hn : Builtin.Range.rangeSize a b 1 = (n : Int))
    (h : ∀ h' I, Fr h₀ L h' m → News h₀ L h' ((I, rgIt a n) :: news) → (∀ p ∈ news, p.1 < I) → Q (.ref I) { s with heap := h' }) : wpAny (model prog w) A (pyIter (.ref r)) Q E s := by
  refine wpAny_pyIter_range hr hsm ?_
  obtain ⟨F', N', l⟩ := led_new (h' := s.heap.push (rgIt a (Builtin.Range.rangeSize a b 1))) (o := rgIt a (Builtin.Range.rangeSize a b 1)) F N (fun p o e => Heap.get?_push_of_some _ e) (Nat.le_refl _) (Heap.get?_push_size _ rfl)
  refine h _ _ F' ?_ l
  rw [← hn]; exact N'
theorem rng_next {I : Nat} {x left : Int} {pre post : List (Addr × Obj)} {Q : Option Value → Shared → Prop} {E : Value → Shared → Prop} (F : Fr h₀ L s.heap m) (N : News h₀ L s.heap (pre ++ (I, rgIt x left) :: post)) (hl : 0 < left) (hp : ∀ p ∈ pre, p.1 ≠ I) (hr : ∀ p ∈ post, p.1 ≠ I)
    (h : ∀ h', Fr h₀ L h' m → News h₀ L h' (pre ++ (I, rgIt (x + 1) (left - 1)) :: post) → Q (some (.int x s.toks)) { s with heap := h', toks := s.toks + 1 }) : wpAny (model prog w) A (pyNext (.ref I)) Q E s := by
  refine wpAny_pyNext_range_item (N _ (List.mem_append_right _ (.head _))).1 hl fun h' hit hs => ?_
  obtain ⟨F', N'⟩ := led_set F N (fun b o hb e => hs.extBut b o hb e) hit hp hr
  exact h _ F' N'
theorem rng_end {I : Nat} {x left : Int} {pre post : List (Addr × Obj)} {Q : Option Value → Shared → Prop} {E : Value → Shared → Prop} (hh : A.handled = none) (F : Fr h₀ L s.heap m) (N : News h₀ L s.heap (pre ++ (I, rgIt x left) :: post)) (hl : left ≤ 0) (hp : ∀ p ∈ pre, p.1 ≠ I) (hr : ∀ p ∈ post, p.1 ≠ I)
    (h : ∀ h', Fr h₀ L h' m → News h₀ L h' (pre ++ post) → Q none { s with heap := h' }) : wpAny (model prog w) A (pyNext (.ref I)) Q E s := by
  have hI := N _ (List.mem_append_right _ (.head _))
  refine wpAny_pyNext_range_end hh hI.1 hl fun h' hs => ?_
  refine h _ ⟨F.ns.at' fun o e => hs _ o hI.2.1.symm e, fun b o e => hs b o (fun q => ?_) (F.keep b o e), F.above⟩ fun p hq => ?_
  · subst q; have := hI.2.2; dsimp only at this; rw [this] at e; cases e
  · rcases List.mem_append.mp hq with hq | hq
    · exact ⟨hs _ _ (hp p hq) (N p (List.mem_append_left _ hq)).1, (N p (List.mem_append_left _ hq)).2⟩
    · exact ⟨hs _ _ (hr p hq) (N p (List.mem_append_right _ (.tail _ hq))).1, (N p (List.mem_append_right _ (.tail _ hq))).2⟩
end
structure OkT (xs : List Int) : Prop where
  hz : xs.length ≤ 19
  hx : ∀ x ∈ xs, 0 ≤ x ∧ x ≤ 64
  ok : OkP xs
  ht : (textF xs).cps.size ≤ 1000
  hr : partsF (textF xs) = xs
theorem rng_start {prog : Program} {w : World} {A : Around} {s : Shared} {h₀ : Heap} {L : Addr} {m : Str → Option Value} {b : Int} {u : Tok} {n : Nat} {news : List (Addr × Obj)} {Q : Value → Shared → Prop} {E : Value → Shared → Prop} (F : Fr h₀ L s.heap m) (N : News h₀ L s.heap news) (hsm : Builtin.Range.small 0 b 1 = true) (hn : Builtin.Range.rangeSize 0 b 1 = (n : Int))
    (h : ∀ h' tk I, Fr h₀ L h' m → News h₀ L h' ((I, rgIt 0 n) :: news) → (∀ p ∈ news, p.1 < I) → Q (.ref I) { s with heap := h', toks := tk }) : wpAny (model prog w) A (call (.type "range") [.int b u]) (fun xv s₁ => wpAny (model prog w) A (pyIter xv) Q E s₁) E s := by
  have up : Kp s.heap (s.heap.push { cls := .type "range", data := .fields #[.int 0 s.toks, .int b u, .int 1 (s.toks + 1)] }) := fun p o e => Heap.get?_push_of_some _ e
  exact call_range_1 (rng_iter (s := { s with heap := s.heap.push { cls := .type "range", data := .fields #[.int 0 s.toks, .int b u, .int 1 (s.toks + 1)] }, toks := s.toks + 1 + 1 }) (F.keeps up) (N.keeps up) (IsRange.new _ _ _ _ _ _ _) hsm hn fun h' I F' N' l => h h' _ I F' N' l)
inductive ToldAt (own : List (Addr × Obj)) : List Value → List (List Int) → Prop
  | nil : ToldAt own [] []
  | snoc {vi : List Value} {ds : List (List Int)} {a q : Nat} {vs : List Value} {xs : List Int} : ToldAt own vi ds → (a, listOf vs.toArray q) ∈ own → IntsAre vs xs → ToldAt own (vi ++ [.ref a]) (ds ++ [xs])
theorem ToldAt.more {own own' : List (Addr × Obj)} {vi : List Value} {ds : List (List Int)} (h : ToldAt own vi ds) (hs : ∀ p ∈ own, p ∈ own') : ToldAt own' vi ds := by
  induction h with
  | nil => exact .nil
  | snoc _ hm hI ih => exact .snoc ih (hs _ hm) hI
def Off (I tD pb : Nat) (own : List (Addr × Obj)) : Prop := (∀ p ∈ own, p.1 ≠ I) ∧ (∀ p ∈ own, p.1 ≠ tD) ∧ (∀ p ∈ own, p.1 ≠ pb) ∧ (∀ p ∈ own, p.1 ≠ 140)
abbrev LamQ : Str := "_law_partner.<locals>.<lambda>"
structure TSt (w : World) (h₀ : Heap) (L : Addr) (m : Str → Option Value) (x d sT pb tD I n1 : Nat) (line : Int) (a b c e f' g' : Tok) (c? : Option Value) (vi : List Value) (aL : Nat) (vL : List Value) (qL nt np : Nat) (ps : Array Value) (own : List (Addr × Obj)) (k : Nat) (done : List (List Int)) (cur : List Int) (h : Heap) : Prop where
  F : Fr h₀ L h (fun y => if y = Str.ofString "turn" then c? else m y)
  N : News h₀ L h ((I, rgIt (k : Int) (5 - (k : Int))) :: (tD, listOf (vi ++ [Value.ref aL]).toArray nt) :: (pb, listOf #[] np) :: (d, lxD w.params line sT pb a b c e f' g' n1) :: (x, instObj 77 d) :: (140, tabObj ps) :: (aL, listOf vL.toArray qL) :: own)
  hI : IntsAre vL cur
  hv : ToldAt own vi done
  tab : ps = #[] ∨ ∃ c' oc, ps = #[rawInt 212, rawInt 55, .ref c'] ∧ (c', oc) ∈ own ∧ CodeObj oc LamQ
  off : Off I tD pb own
  a1 : @Ne Nat aL I
  a2 : @Ne Nat aL tD
  a3 : @Ne Nat aL pb
  a4 : @Ne Nat aL 140
  hk : vi.length = k
inductive Chain : List Int → List (List Int) → Prop
  | nil {x : List Int} : OkT x → Chain x []
  | cons {x y : List Int} {ys : List (List Int)} : OkT x → partnerF x = y → Chain y ys → Chain x (y :: ys)
theorem Chain.ok {x : List Int} {ys : List (List Int)} (h : Chain x ys) : OkT x := by cases h <;> assumption
theorem told_loop {prog : Program} {w : World} {A : Around} {s : Shared} {C : Code} {R : Result → Shared → Prop} {h₀ : Heap} {L : Addr} {m : Str → Option Value} {x d sT pb tD I n1 : Nat} {line : Int} {a b c e f' g' : Tok} {all : List (List Int)}
    (step : ∀ c? vi aL vL qL nt np ps own k done cur y h tk gens, TSt w h₀ L m x d sT pb tD I n1 line a b c e f' g' c? vi aL vL qL nt np ps own k done cur h → k < 5 → OkT cur → Hide (partnerF cur = y) → OkT y →
      (∀ c? aL' vL' qL' nt' np' ps' own' h' tk' gens', (AllBare gens → AllBare gens') → TSt w h₀ L m x d sT pb tD I n1 line a b c e f' g' c? (vi ++ [Value.ref aL]) aL' vL' qL' nt' np' ps' own' (k + 1) (done ++ [cur]) y h' → codeAny (model prog w) A C R { s with heap := h', toks := tk', gens := gens' }) →
      codeAny (model prog w) A C R { s with heap := h, toks := tk, gens := gens })
    (fin : ∀ c? vi aL vL qL nt np ps own done cur h tk gens, (AllBare s.gens → AllBare gens) → TSt w h₀ L m x d sT pb tD I n1 line a b c e f' g' c? vi aL vL qL nt np ps own 5 done cur h → done ++ [cur] = all → codeAny (model prog w) A C R { s with heap := h, toks := tk, gens := gens }) :
    ∀ (rest : List (List Int)) c? vi aL vL qL nt np ps own k done cur h tk gens, (AllBare s.gens → AllBare gens) → TSt w h₀ L m x d sT pb tD I n1 line a b c e f' g' c? vi aL vL qL nt np ps own k done cur h → Chain cur rest → k + rest.length = 5 → done ++ cur :: rest = all →
      codeAny (model prog w) A C R { s with heap := h, toks := tk, gens := gens } := by
  intro rest
  induction rest with
  | nil =>
    intro c? vi aL vL qL nt np ps own k done cur h tk gens hb S _ hk ha
    obtain rfl : k = 5 := by simpa using hk
    exact fin c? vi aL vL qL nt np ps own done cur h tk gens hb S ha
  | cons y ys ih =>
    intro c? vi aL vL qL nt np ps own k done cur h tk gens hb S hc hk ha
    cases hc with
    | cons h1 h2 h3 =>
      rw [List.length_cons] at hk
      refine step c? vi aL vL qL nt np ps own k done cur y h tk gens S (by omega) h1 h2 h3.ok fun c? aL' vL' qL' nt' np' ps' own' h' tk' gens' hb' S' => ?_
      exact ih c? _ aL' vL' qL' nt' np' ps' own' (k + 1) _ y h' tk' gens' (fun q => hb' (hb q)) S' h3 (by omega) (by rw [List.append_assoc]; exact ha)
theorem allNe_mem {d : Nat} {l : List (Addr × Obj)} (h : AllNe d l) : ∀ p ∈ l, p.1 ≠ d := by
  induction l with
  | nil => exact List.forall_mem_nil _
  | cons q r ih => exact List.forall_mem_cons.mpr ⟨h.1, ih h.2⟩
theorem ite_dup {x : Str} {v c? : Option Value} {m : Str → Option Value} : (fun y => if y = x then v else (fun y => if y = x then c? else m y) y) = fun y => if y = x then v else m y := funext fun y => by
  by_cases h : y = x
  · rw [if_pos h, if_pos h]
  · rw [if_neg h, if_neg h]; exact if_neg h
/-- the ledger after a partner's call, the lambda's code in its tail -/
theorem tab_step {h₀ h : Heap} {L I tD pb d x aL r nr : Nat} {oI oD oP od ox oa : Obj} {wv : List Value} {ps : Array Value} {own : List (Addr × Obj)} {c' : Addr} {oc : Obj}
    (tab : ps = #[] ∨ ∃ c' oc, ps = #[rawInt 212, rawInt 55, .ref c'] ∧ (c', oc) ∈ own ∧ CodeObj oc LamQ) (off : Off I tD pb own)
    (hnew : ps = #[] → News h₀ L h ((c', oc) :: (r, listOf wv.toArray nr) :: ([(I, oI), (tD, oD), (pb, oP), (d, od), (x, ox)] ++ (140, tabObj #[rawInt 212, rawInt 55, .ref c']) :: ((aL, oa) :: own))) ∧ AllNe c' ([(I, oI), (tD, oD), (pb, oP), (d, od), (x, ox)] ++ (140, tabObj ps) :: ((aL, oa) :: own)))
    (hold : ps ≠ #[] → ps = #[rawInt 212, rawInt 55, .ref c']) (hco : CodeObj oc LamQ) (N : News h₀ L h ((r, listOf wv.toArray nr) :: ([(I, oI), (tD, oD), (pb, oP), (d, od), (x, ox)] ++ (140, tabObj #[rawInt 212, rawInt 55, .ref c']) :: ((aL, oa) :: own)))) :
    ∃ own2 oc2, News h₀ L h ((r, listOf wv.toArray nr) :: (I, oI) :: (tD, oD) :: (pb, oP) :: (d, od) :: (x, ox) :: (140, tabObj #[rawInt 212, rawInt 55, .ref c']) :: (aL, oa) :: own2) ∧ (c', oc2) ∈ own2 ∧ CodeObj oc2 LamQ ∧ (∀ p ∈ own, p ∈ own2) ∧ Off I tD pb own2 := by
  rcases tab with e | ⟨c0, oc0, e, hm, hc⟩
  · obtain ⟨N1, ne⟩ := hnew e
    simp only [List.cons_append, List.nil_append] at N1 ne
    refine ⟨(c', oc) :: own, oc, fun p hp => ?_, .head _, hco, fun p hp => .tail _ hp, ?_⟩
    · refine N1 p ?_
      rcases List.mem_cons.mp hp with rfl | hp
      · exact .tail _ (.head _)
      rcases List.mem_cons.mp hp with rfl | hp
      · exact .tail _ (.tail _ (.head _))
      rcases List.mem_cons.mp hp with rfl | hp
      · exact .tail _ (.tail _ (.tail _ (.head _)))
      rcases List.mem_cons.mp hp with rfl | hp
      · exact .tail _ (.tail _ (.tail _ (.tail _ (.head _))))
      rcases List.mem_cons.mp hp with rfl | hp
      · exact .tail _ (.tail _ (.tail _ (.tail _ (.tail _ (.head _)))))
      rcases List.mem_cons.mp hp with rfl | hp
      · exact .tail _ (.tail _ (.tail _ (.tail _ (.tail _ (.tail _ (.head _))))))
      rcases List.mem_cons.mp hp with rfl | hp
      · exact .tail _ (.tail _ (.tail _ (.tail _ (.tail _ (.tail _ (.tail _ (.head _)))))))
      rcases List.mem_cons.mp hp with rfl | hp
      · exact .tail _ (.tail _ (.tail _ (.tail _ (.tail _ (.tail _ (.tail _ (.tail _ (.head _))))))))
      rcases List.mem_cons.mp hp with rfl | hp
      · exact .head _
      · exact .tail _ (.tail _ (.tail _ (.tail _ (.tail _ (.tail _ (.tail _ (.tail _ (.tail _ (hp)))))))))
    · obtain ⟨n1, n2, n3, n4, n5, n6, n7⟩ := ne
      exact ⟨List.forall_mem_cons.mpr ⟨Ne.symm n1, off.1⟩, List.forall_mem_cons.mpr ⟨Ne.symm n2, off.2.1⟩, List.forall_mem_cons.mpr ⟨Ne.symm n3, off.2.2.1⟩, List.forall_mem_cons.mpr ⟨Ne.symm n6, off.2.2.2⟩⟩
  · have e2 := hold (by rw [e]; simp)
    have e3 : c0 = c' := by rw [e] at e2; simpa using e2
    subst e3
    exact ⟨own, oc0, N, hm, hc, fun p hp => hp, off⟩
theorem fr_dup {h₀ h : Heap} {L : Addr} {x : Str} {v c? : Option Value} {m : Str → Option Value} (F : Fr h₀ L h (fun y => if y = x then v else if y = x then c? else m y)) : Fr h₀ L h (fun y => if y = x then v else m y) := by
  have e : (fun y => if y = x then v else if y = x then c? else m y) = fun y => if y = x then v else m y := ite_dup
  exact e ▸ F
theorem turn_next {w : World} {h₀ h' : Heap} {L : Addr} {m : Str → Option Value} {x d sT pb tD I n1 a' q' r aL qL nt np k : Nat} {line : Int} {a b c e f' g' : Tok} {v c? : Option Value} {v' vL vi : List Value} {oR : Obj} {ps : Array Value} {own : List (Addr × Obj)} {done : List (List Int)} {y : List Int}
    (F : Fr h₀ L h' (fun y => if y = Str.ofString "turn" then v else if y = Str.ofString "turn" then c? else m y))
    (N : News h₀ L h' ((a', listOf v'.toArray q') :: (r, oR) :: (I, rgIt ((k : Nat) : Int) (5 - ((k : Nat) : Int))) :: (tD, listOf (vi ++ [Value.ref a']).toArray nt) :: (pb, listOf #[] np) :: (d, lxD w.params line sT pb a b c e f' g' n1) :: (x, instObj 77 d) :: (140, tabObj ps) :: (aL, listOf vL.toArray qL) :: own))
    (hI : IntsAre v' y) (hv : ToldAt ((aL, listOf vL.toArray qL) :: own) vi done) (tab : ps = #[] ∨ ∃ c' oc, ps = #[rawInt 212, rawInt 55, .ref c'] ∧ (c', oc) ∈ (aL, listOf vL.toArray qL) :: own ∧ CodeObj oc LamQ) (off : Off I tD pb ((aL, listOf vL.toArray qL) :: own)) (a1 : @Ne Nat a' I) (a2 : @Ne Nat a' tD) (a3 : @Ne Nat a' pb) (a4 : @Ne Nat a' 140) (hk : vi.length = k) :
    TSt w h₀ L m x d sT pb tD I n1 line a b c e f' g' v vi a' v' q' nt np ps ((aL, listOf vL.toArray qL) :: own) k done y h' := by
  refine ⟨fr_dup F, fun p hp => N p ?_, hI, hv, tab, off, a1, a2, a3, a4, hk⟩
  rcases List.mem_cons.mp hp with rfl | hp
  · exact .tail _ (.tail _ (.head _))
  rcases List.mem_cons.mp hp with rfl | hp
  · exact .tail _ (.tail _ (.tail _ (.head _)))
  rcases List.mem_cons.mp hp with rfl | hp
  · exact .tail _ (.tail _ (.tail _ (.tail _ (.head _))))
  rcases List.mem_cons.mp hp with rfl | hp
  · exact .tail _ (.tail _ (.tail _ (.tail _ (.tail _ (.head _)))))
  rcases List.mem_cons.mp hp with rfl | hp
  · exact .tail _ (.tail _ (.tail _ (.tail _ (.tail _ (.tail _ (.head _))))))
  rcases List.mem_cons.mp hp with rfl | hp
  · exact .tail _ (.tail _ (.tail _ (.tail _ (.tail _ (.tail _ (.tail _ (.head _)))))))
  rcases List.mem_cons.mp hp with rfl | hp
  · exact .head _
  rcases List.mem_cons.mp hp with rfl | hp
  · exact .tail _ (.tail _ (.tail _ (.tail _ (.tail _ (.tail _ (.tail _ (.tail _ (.head _))))))))
  exact .tail _ (.tail _ (.tail _ (.tail _ (.tail _ (.tail _ (.tail _ (.tail _ (.tail _ (hp)))))))))
def TurnPost (nws : List (Addr × Obj)) (all : List (List Int)) (pb : Nat) (s : Shared) (v : Value) (s' : Shared) : Prop := ∃ h' t2 gens' tD nt np vi own ps, v = .ref tD ∧ s' = { s with heap := h', toks := t2, gens := gens' } ∧ (AllBare s.gens → AllBare gens') ∧
  (∀ b o, b ≠ pb → b ≠ 140 → s.heap.get? b = some o → h'.get? b = some o) ∧ h'.get? pb = some (listOf #[] np) ∧ h'.get? 140 = some (tabObj ps) ∧ (tD, listOf (List.toArray vi) nt) ∈ own ∧ (∀ p ∈ own, h'.get? p.1 = some p.2 ∧ (hid s.heap nws).get? p.1 = none) ∧ ToldAt own vi all
theorem turn_fin {w : World} {s : Shared} {h' : Heap} {L tD pb d x aL n0 n1 nt np qL tk : Nat} {m : Str → Option Value} {line : Int} {sT : Nat} {a b c e f' g' : Tok} {vi vL : List Value} {ps : Array Value} {own : List (Addr × Obj)} {done : List (List Int)} {cur xs : List Int} {rest : List (List Int)} {gens : Array GenState}
    (at' : ∀ p ∈ [(pb, listOf #[] n0), (d, lxD w.params line sT pb a b c e f' g' n1), (x, instObj 77 d), (140, tabObj #[])], s.heap.get? p.1 = some p.2) (F : Fr (hid s.heap [(pb, listOf #[] n0), (d, lxD w.params line sT pb a b c e f' g' n1), (x, instObj 77 d), (140, tabObj #[])]) L h' m)
    (N : News (hid s.heap [(pb, listOf #[] n0), (d, lxD w.params line sT pb a b c e f' g' n1), (x, instObj 77 d), (140, tabObj #[])]) L h' ((tD, listOf (vi ++ [Value.ref aL]).toArray nt) :: (pb, listOf #[] np) :: (d, lxD w.params line sT pb a b c e f' g' n1) :: (x, instObj 77 d) :: (140, tabObj ps) :: (aL, listOf vL.toArray qL) :: own))
    (hv : ToldAt ((aL, listOf vL.toArray qL) :: own) (vi ++ [Value.ref aL]) (done ++ [cur])) (ha : done ++ [cur] = xs :: rest) (hb : AllBare s.gens → AllBare gens) :
    TurnPost [(pb, listOf #[] n0), (d, lxD w.params line sT pb a b c e f' g' n1), (x, instObj 77 d), (140, tabObj #[])] (xs :: rest) pb s (.ref tD) { s with heap := h', toks := tk, gens := gens } := by
  refine ⟨_, _, _, tD, nt, np, _, (tD, listOf (vi ++ [Value.ref aL]).toArray nt) :: (aL, listOf vL.toArray qL) :: own, ps, rfl, rfl, hb, fun b o h1 h2 => ?_, (N _ (.tail _ (.head _))).1, (N _ (.tail _ (.tail _ (.tail _ (.tail _ (.head _)))))).1, .head _, fun p hp => ?_, ha ▸ hv.more fun p hp => .tail _ hp⟩
  · refine fin_keep at' F N [pb, 140] (fun p hp => ?_) b o (fun hm => ?_)
    · rcases List.mem_cons.mp hp with rfl | hp
      · exact .inl (.head _)
      rcases List.mem_cons.mp hp with rfl | hp
      · exact .inr (.tail _ (.tail _ (.head _)))
      rcases List.mem_cons.mp hp with rfl | hp
      · exact .inr (.tail _ (.tail _ (.tail _ (.head _))))
      rw [List.mem_singleton.mp hp]; exact .inl (.tail _ (.head _))
    · rcases List.mem_cons.mp hm with q | hm
      · exact h1 q
      · exact h2 (List.mem_singleton.mp hm)
  · rcases List.mem_cons.mp hp with rfl | hp
    · exact ⟨(N _ (.head _)).1, (N _ (.head _)).2.2⟩
    · have n := N p (.tail _ (.tail _ (.tail _ (.tail _ (.tail _ hp)))))
      exact ⟨n.1, n.2.2⟩
theorem told_start {prog : Program} {w : World} {A : Around} {s : Shared} {C : Code} {R : Result → Shared → Prop} {h₀ h : Heap} {L : Addr} {m : Str → Option Value} {x d sT pb tD I n1 a0 q0 nt np tk : Nat} {line : Int} {a b c e f' g' : Tok} {v0 : List Value} {xs : List Int} {rest : List (List Int)} {gens : Array GenState}
    (F : Fr h₀ L h m) (hm : m (Str.ofString "turn") = none) (N : News h₀ L h [(I, rgIt 0 (5 : Nat)), (tD, listOf #[.ref a0] nt), (a0, listOf v0.toArray q0), (pb, listOf #[] np), (d, lxD w.params line sT pb a b c e f' g' n1), (x, instObj 77 d), (140, tabObj #[])]) (hI : IntsAre v0 xs)
    (ne0 : @Ne Nat pb a0 ∧ @Ne Nat d a0 ∧ @Ne Nat x a0 ∧ @Ne Nat 140 a0) (l1 : @LT.lt Nat _ a0 tD ∧ @LT.lt Nat _ pb tD ∧ @LT.lt Nat _ d tD ∧ @LT.lt Nat _ x tD ∧ @LT.lt Nat _ 140 tD) (l11 : ∀ p ∈ [(tD, listOf #[.ref a0] nt), (a0, listOf v0.toArray q0), (pb, listOf #[] np), (d, lxD w.params line sT pb a b c e f' g' n1), (x, instObj 77 d), (140, tabObj #[])], p.1 < I)
    (k0 : Chain xs rest) (h5 : rest.length = 5) (hb : AllBare s.gens → AllBare gens)
    (step : @LT.lt Nat _ pb tD → @LT.lt Nat _ tD I → ∀ c? vi aL vL qL nt np ps own k done cur y h tk gens, TSt w h₀ L m x d sT pb tD I n1 line a b c e f' g' c? vi aL vL qL nt np ps own k done cur h → k < 5 → OkT cur → Hide (partnerF cur = y) → OkT y →
      (∀ c? aL' vL' qL' nt' np' ps' own' h' tk' gens', (AllBare gens → AllBare gens') → TSt w h₀ L m x d sT pb tD I n1 line a b c e f' g' c? (vi ++ [Value.ref aL]) aL' vL' qL' nt' np' ps' own' (k + 1) (done ++ [cur]) y h' → codeAny (model prog w) A C R { s with heap := h', toks := tk', gens := gens' }) →
      codeAny (model prog w) A C R { s with heap := h, toks := tk, gens := gens })
    (fin : @LT.lt Nat _ pb tD → @LT.lt Nat _ tD I → ∀ c? vi aL vL qL nt np ps own done cur h tk gens, (AllBare s.gens → AllBare gens) → TSt w h₀ L m x d sT pb tD I n1 line a b c e f' g' c? vi aL vL qL nt np ps own 5 done cur h → done ++ [cur] = xs :: rest → codeAny (model prog w) A C R { s with heap := h, toks := tk, gens := gens }) :
    codeAny (model prog w) A C R { s with heap := h, toks := tk, gens := gens } := by
  have hI1 : @LT.lt Nat _ tD I := l11 _ (.head _)
  have hI2 : @LT.lt Nat _ a0 I := l11 _ (.tail _ (.head _))
  have em : m = fun y => if y = Str.ofString "turn" then none else m y := funext fun y => by
    by_cases h : y = Str.ofString "turn"
    · rw [if_pos h, h, hm]
    · rw [if_neg h]
  refine told_loop (s := s) (all := xs :: rest) (step l1.2.1 hI1) (fin l1.2.1 hI1) rest none [] a0 v0 q0 nt np #[] [] 0 [] xs h tk gens hb ⟨em ▸ F, fun p hp => N p ?_, hI, .nil, .inl rfl, ⟨List.forall_mem_nil _, List.forall_mem_nil _, List.forall_mem_nil _, List.forall_mem_nil _⟩, Nat.ne_of_lt hI2, Nat.ne_of_lt l1.1, Ne.symm ne0.1, Ne.symm ne0.2.2.2, rfl⟩ k0 (by rw [Nat.zero_add]; exact h5) rfl
  rcases List.mem_cons.mp hp with rfl | hp
  · exact .head _
  rcases List.mem_cons.mp hp with rfl | hp
  · exact .tail _ (.head _)
  rcases List.mem_cons.mp hp with rfl | hp
  · exact .tail _ (.tail _ (.tail _ (.head _)))
  rcases List.mem_cons.mp hp with rfl | hp
  · exact .tail _ (.tail _ (.tail _ (.tail _ (.head _))))
  rcases List.mem_cons.mp hp with rfl | hp
  · exact .tail _ (.tail _ (.tail _ (.tail _ (.tail _ (.head _)))))
  rcases List.mem_cons.mp hp with rfl | hp
  · exact .tail _ (.tail _ (.tail _ (.tail _ (.tail _ (.tail _ (.head _))))))
  rcases List.mem_cons.mp hp with rfl | hp
  · exact .tail _ (.tail _ (.head _))
  cases hp
section
local macro_rules | `(tactic| walk_at "call ref") => `(tactic| (k_here; refine stop ?_))
local macro_rules | `(tactic| walk_at "call type:range") => `(tactic| (k_here; refine stop ?_))
local macro_rules | `(tactic| walk_at "subscriptTail Name UnaryOp ref int") => `(tactic| (k_here; refine stop ?_))
local macro_rules | `(tactic| walk_at "exec For Name Call cons nil") => `(tactic| (k_here; refine stop ?_))
local macro_rules | `(tactic| k_ne) => `(tactic| (refine neN ?_; first | (apply Ne.symm; with_reducible assumption) | kqd_sub))
namespace TC
abbrev qT := (World) × (List Str) × (ExcName → Option Value) × (Str → Option Value) × (Str → Option Value) × (Shared) × (Heap) × (Nat) × (Option (List Env)) × (Option (List Code)) × (Nat) × (Nat) × (Nat) × (Nat) × (Nat) × (Nat) × (Nat) × (Nat) × (Int) × (Tok) × (Tok) × (Tok) × (Tok) × (Tok) × (Tok) × (List Value) × (List Int) × (List (List Int))
def qP (w : World) (lo : List Str) (me : ExcName → Option Value) (mg : Str → Option Value) (mb : Str → Option Value) (s : Shared) (h₀ : Heap) (dp : Nat) (fr : Option (List Env)) (gd : Option (List Code)) (un : Nat) (x : Nat) (d : Nat) (sT : Nat) (pb : Nat) (n0 : Nat) (n1 : Nat) (l : Nat) (line : Int) (a : Tok) (b : Tok) (c : Tok) (e : Tok) (f' : Tok) (g' : Tok) (vs : List Value) (xs : List Int) (rest : List (List Int)) : Prop := ∀  (g : Got w lo me mg mb h₀ s.heap [(pb, listOf #[] n0), (d, lxD w.params line sT pb a b c e f' g' n1), (x, instObj 77 d), (140, tabObj #[])]) (CH : CodeHd (hid s.heap [(pb, listOf #[] n0), (d, lxD w.params line sT pb a b c e f' g' n1), (x, instObj 77 d), (140, tabObj #[])]) 142 140) (hd' : dp + 30 < recursionLimit) (hu' : un + 300 < cLine) (o1 : d < x) (o2 : x < pb) (o0 : 140 < d) (hl : (hid s.heap [(pb, listOf #[] n0), (d, lxD w.params line sT pb a b c e f' g' n1), (x, instObj 77 d), (140, tabObj #[])]).IsList l vs.toArray) (hI : IntsAre vs xs) (k0 : Chain xs rest) (hlen5 : rest.length = 5), wpAny (model PySem.Challenge.rw_to0028_01.row.prog w) ⟨none, dp, fr, gd, un⟩ (call (.ref 150) [.ref x, .ref l]) (TurnPost [(pb, listOf #[] n0), (d, lxD w.params line sT pb a b c e f' g' n1), (x, instObj 77 d), (140, tabObj #[])] (xs :: rest) pb s) (fun _ _ => False) s
theorem qN : Nonempty qT := ⟨(PySem.W.aWorld 0, default, default, default, default, {}, default, default, default, default, default, default, default, default, default, default, default, default, default, default, default, default, default, default, default, default, default, default)⟩
noncomputable def qk : qT := (Classical.choice (drink qN fun v => qP v.1 v.2.1 v.2.2.1 v.2.2.2.1 v.2.2.2.2.1 v.2.2.2.2.2.1 v.2.2.2.2.2.2.1 v.2.2.2.2.2.2.2.1 v.2.2.2.2.2.2.2.2.1 v.2.2.2.2.2.2.2.2.2.1 v.2.2.2.2.2.2.2.2.2.2.1 v.2.2.2.2.2.2.2.2.2.2.2.1 v.2.2.2.2.2.2.2.2.2.2.2.2.1 v.2.2.2.2.2.2.2.2.2.2.2.2.2.1 v.2.2.2.2.2.2.2.2.2.2.2.2.2.2.1 v.2.2.2.2.2.2.2.2.2.2.2.2.2.2.2.1 v.2.2.2.2.2.2.2.2.2.2.2.2.2.2.2.2.1 v.2.2.2.2.2.2.2.2.2.2.2.2.2.2.2.2.2.1 v.2.2.2.2.2.2.2.2.2.2.2.2.2.2.2.2.2.2.1 v.2.2.2.2.2.2.2.2.2.2.2.2.2.2.2.2.2.2.2.1 v.2.2.2.2.2.2.2.2.2.2.2.2.2.2.2.2.2.2.2.2.1 v.2.2.2.2.2.2.2.2.2.2.2.2.2.2.2.2.2.2.2.2.2.1 v.2.2.2.2.2.2.2.2.2.2.2.2.2.2.2.2.2.2.2.2.2.2.1 v.2.2.2.2.2.2.2.2.2.2.2.2.2.2.2.2.2.2.2.2.2.2.2.1 v.2.2.2.2.2.2.2.2.2.2.2.2.2.2.2.2.2.2.2.2.2.2.2.2.1 v.2.2.2.2.2.2.2.2.2.2.2.2.2.2.2.2.2.2.2.2.2.2.2.2.2.1 v.2.2.2.2.2.2.2.2.2.2.2.2.2.2.2.2.2.2.2.2.2.2.2.2.2.2.1 v.2.2.2.2.2.2.2.2.2.2.2.2.2.2.2.2.2.2.2.2.2.2.2.2.2.2.2)).1
noncomputable def w : World := qk.1
noncomputable def lo : List Str := qk.2.1
noncomputable def me : ExcName → Option Value := qk.2.2.1
noncomputable def mg : Str → Option Value := qk.2.2.2.1
noncomputable def mb : Str → Option Value := qk.2.2.2.2.1
noncomputable def s : Shared := qk.2.2.2.2.2.1
noncomputable def h₀ : Heap := qk.2.2.2.2.2.2.1
noncomputable def dp : Nat := qk.2.2.2.2.2.2.2.1
noncomputable def fr : Option (List Env) := qk.2.2.2.2.2.2.2.2.1
noncomputable def gd : Option (List Code) := qk.2.2.2.2.2.2.2.2.2.1
noncomputable def un : Nat := qk.2.2.2.2.2.2.2.2.2.2.1
noncomputable def x : Nat := qk.2.2.2.2.2.2.2.2.2.2.2.1
noncomputable def d : Nat := qk.2.2.2.2.2.2.2.2.2.2.2.2.1
noncomputable def sT : Nat := qk.2.2.2.2.2.2.2.2.2.2.2.2.2.1
noncomputable def pb : Nat := qk.2.2.2.2.2.2.2.2.2.2.2.2.2.2.1
noncomputable def n0 : Nat := qk.2.2.2.2.2.2.2.2.2.2.2.2.2.2.2.1
noncomputable def n1 : Nat := qk.2.2.2.2.2.2.2.2.2.2.2.2.2.2.2.2.1
noncomputable def l : Nat := qk.2.2.2.2.2.2.2.2.2.2.2.2.2.2.2.2.2.1
noncomputable def line : Int := qk.2.2.2.2.2.2.2.2.2.2.2.2.2.2.2.2.2.2.1
noncomputable def a : Tok := qk.2.2.2.2.2.2.2.2.2.2.2.2.2.2.2.2.2.2.2.1
noncomputable def b : Tok := qk.2.2.2.2.2.2.2.2.2.2.2.2.2.2.2.2.2.2.2.2.1
noncomputable def c : Tok := qk.2.2.2.2.2.2.2.2.2.2.2.2.2.2.2.2.2.2.2.2.2.1
noncomputable def e : Tok := qk.2.2.2.2.2.2.2.2.2.2.2.2.2.2.2.2.2.2.2.2.2.2.1
noncomputable def f' : Tok := qk.2.2.2.2.2.2.2.2.2.2.2.2.2.2.2.2.2.2.2.2.2.2.2.1
noncomputable def g' : Tok := qk.2.2.2.2.2.2.2.2.2.2.2.2.2.2.2.2.2.2.2.2.2.2.2.2.1
noncomputable def vs : List Value := qk.2.2.2.2.2.2.2.2.2.2.2.2.2.2.2.2.2.2.2.2.2.2.2.2.2.1
noncomputable def xs : List Int := qk.2.2.2.2.2.2.2.2.2.2.2.2.2.2.2.2.2.2.2.2.2.2.2.2.2.2.1
noncomputable def rest : List (List Int) := qk.2.2.2.2.2.2.2.2.2.2.2.2.2.2.2.2.2.2.2.2.2.2.2.2.2.2.2
theorem qA (h : qP w lo me mg mb s h₀ dp fr gd un x d sT pb n0 n1 l line a b c e f' g' vs xs rest) (w : World) (lo : List Str) (me : ExcName → Option Value) (mg : Str → Option Value) (mb : Str → Option Value) (s : Shared) (h₀ : Heap) (dp : Nat) (fr : Option (List Env)) (gd : Option (List Code)) (un : Nat) (x : Nat) (d : Nat) (sT : Nat) (pb : Nat) (n0 : Nat) (n1 : Nat) (l : Nat) (line : Int) (a : Tok) (b : Tok) (c : Tok) (e : Tok) (f' : Tok) (g' : Tok) (vs : List Value) (xs : List Int) (rest : List (List Int)) : qP w lo me mg mb s h₀ dp fr gd un x d sT pb n0 n1 l line a b c e f' g' vs xs rest := (Classical.choice (drink qN fun v => qP v.1 v.2.1 v.2.2.1 v.2.2.2.1 v.2.2.2.2.1 v.2.2.2.2.2.1 v.2.2.2.2.2.2.1 v.2.2.2.2.2.2.2.1 v.2.2.2.2.2.2.2.2.1 v.2.2.2.2.2.2.2.2.2.1 v.2.2.2.2.2.2.2.2.2.2.1 v.2.2.2.2.2.2.2.2.2.2.2.1 v.2.2.2.2.2.2.2.2.2.2.2.2.1 v.2.2.2.2.2.2.2.2.2.2.2.2.2.1 v.2.2.2.2.2.2.2.2.2.2.2.2.2.2.1 v.2.2.2.2.2.2.2.2.2.2.2.2.2.2.2.1 v.2.2.2.2.2.2.2.2.2.2.2.2.2.2.2.2.1 v.2.2.2.2.2.2.2.2.2.2.2.2.2.2.2.2.2.1 v.2.2.2.2.2.2.2.2.2.2.2.2.2.2.2.2.2.2.1 v.2.2.2.2.2.2.2.2.2.2.2.2.2.2.2.2.2.2.2.1 v.2.2.2.2.2.2.2.2.2.2.2.2.2.2.2.2.2.2.2.2.1 v.2.2.2.2.2.2.2.2.2.2.2.2.2.2.2.2.2.2.2.2.2.1 v.2.2.2.2.2.2.2.2.2.2.2.2.2.2.2.2.2.2.2.2.2.2.1 v.2.2.2.2.2.2.2.2.2.2.2.2.2.2.2.2.2.2.2.2.2.2.2.1 v.2.2.2.2.2.2.2.2.2.2.2.2.2.2.2.2.2.2.2.2.2.2.2.2.1 v.2.2.2.2.2.2.2.2.2.2.2.2.2.2.2.2.2.2.2.2.2.2.2.2.2.1 v.2.2.2.2.2.2.2.2.2.2.2.2.2.2.2.2.2.2.2.2.2.2.2.2.2.2.1 v.2.2.2.2.2.2.2.2.2.2.2.2.2.2.2.2.2.2.2.2.2.2.2.2.2.2.2)).2 h (w, lo, me, mg, mb, s, h₀, dp, fr, gd, un, x, d, sT, pb, n0, n1, l, line, a, b, c, e, f', g', vs, xs, rest)
set_option maxHeartbeats 2000000 in
theorem qW : qP w lo me mg mb s h₀ dp fr gd un x d sT pb n0 n1 l line a b c e f' g' vs xs rest := by
  intro  g CH hd' hu' o1 o2 o0 hl hI k0 hlen5
  have X := g.hid.X
  have T := g.hid.T
  refine wpAny_call ?_
  (refine' enterXK (K := Mine.Kc w.params) X T g.at' ?k8 ?k6 ?k7 ?k9 ?kB ?_ ?c2 ?c3 ?c4 ?c5; (case k6 => k_is); (case k7 => k_is); (case k8 => exact (show dp < recursionLimit by omega)); (case k9 => exact BindsTo.of_eq rfl); (case c5 => decide); (case kB => exact locs rfl); (case c2 => exact rfl); (case c3 => exact rfl); (case c4 => exact rfl))
  intro h1 F N
  simp only [lxD] at N
  k_steps
  refine unstop ?_
  rename News _ _ _ _ => N2
  rename Fr _ _ _ _ => F2
  refine text_w X T F2 N2 ⟨rfl, (show dp + 1 + 2 < recursionLimit by omega), (show un + 3 + 20 < cLine by omega)⟩ hI (hl.at fun o e => F2.keep _ o e) (Nat.le_trans k0.ok.hz (by decide)) k0.ok.hx ?_
  intro h3 tk3 t3 F3 N3
  clear F2 N2
  k_steps
  refine unstop ?_
  rename News _ _ _ _ => N4
  rename Fr _ _ _ _ => F4
  refine push_w (pre := []) X T F4 N4 ⟨rfl, (show dp + 1 + 5 < recursionLimit by omega), (show un + 3 + 40 < cLine by omega)⟩ o1 o2 (List.forall_mem_nil _) (List.forall_mem_cons.mpr ⟨Nat.ne_of_lt (by kqd_sub), List.forall_mem_nil _⟩) ?_
  intro h5 tk5 n5 F5 N5
  clear F4 N4
  k_steps
  refine unstop ?_
  rename News _ _ _ _ => N6
  rename Fr _ _ _ _ => F6
  refine pop_w (pre := []) X T F6 N6 ⟨rfl, (show dp + 1 + 5 < recursionLimit by omega), (show un + 3 + 40 < cLine by omega)⟩ o1 o2 (List.forall_mem_nil _) (List.forall_mem_cons.mpr ⟨Nat.ne_of_lt (by kqd_sub), List.forall_mem_nil _⟩) ?_
  intro h7 tk7 n7 F7 N7
  clear F6 N6
  k_steps
  refine unstop ?_
  rename News _ _ _ _ => N8
  rename Fr _ _ _ _ => F8
  refine parts_w X T F8 N8 ⟨rfl, (show dp + 1 + 5 < recursionLimit by omega), (show un + 3 + 20 < cLine by omega)⟩ k0.ok.ht ?_
  intro h9 tk9 gens9 a0 v0 q0 hb0 hI0 F9 N9 ne0
  clear F8 N8
  rw [k0.ok.hr] at hI0
  simp only [List.nil_append] at N9
  simp only [List.nil_append, AllNe, and_true] at ne0
  k_steps
  refine unstop ?_
  refine wpAny_For ?_ (fun _ => rfl)
  k_steps
  refine unstop ?_
  rename News _ _ _ _ => N10
  rename Fr _ _ _ _ => F10
  refine rng_start F10 N10 (by decide +kernel) (n := 5) (by decide +kernel) ?_
  intro h11 tk11 I0 F11 N11 l11
  rename _ ∧ _ ∧ _ ∧ _ ∧ _ => lA
  refine told_start (s := s) F11 rfl N11 hI0 ne0 lA l11 k0 hlen5 hb0 ?step ?fin
  all_goals obtain ⟨la1, la2, la3, la4, la5⟩ := lA
  case fin =>
    intro ho3 ho4 c? vi aL vL qL nt np ps own done cur h tk gens hb S ha
    obtain ⟨F, N, hI, hv, tab, ⟨f1, f2, f3, f4⟩, a1, a2, a3, a4, hvk⟩ := S
    clear F10 N10 F11 N11
    refine for_turn (rng_end (pre := []) rfl F N (by decide) (List.forall_mem_nil _) (by k_all) ?_)
    intro g1 F1 N1
    clear F N
    rw [List.nil_append] at N1
    k_steps
    exact turn_fin g.at' F1 N1 (.snoc (hv.more fun p hp => .tail _ hp) (.head _) hI) ha hb
  case step =>
    intro ho3 ho4 c? vi aL vL qL nt np ps own k done cur y h tk gens S hk5 kc ey ky next
    obtain ⟨F, N, hI, hv, tab, ⟨f1, f2, f3, f4⟩, a1, a2, a3, a4, hvk⟩ := S
    clear F10 N10 F11 N11
    refine for_turn (rng_next (pre := []) F N (by omega) (List.forall_mem_nil _) (by k_all) ?_)
    intro g1 F1 N1
    clear F N
    rw [List.nil_append, show (5 : Int) - (k : Int) - 1 = 5 - ((k + 1 : Nat) : Int) by omega, show (k : Int) + 1 = ((k + 1 : Nat) : Int) from rfl] at N1
    refine wpAny_of_eq rfl ?_
    k_steps
    refine unstop ?_
    rename News _ _ _ _ => N2
    rename Fr _ _ _ _ => F2
    refine item_last (vi := vi) (News.isList N2 (.tail _ (.head _))) ?_
    k_steps
    refine unstop ?_
    rename News _ _ _ _ => N3
    rename Fr _ _ _ _ => F3
    refine partner_w (pre := [(_, _), (_, _), (_, _), (_, _), (_, _)]) X T CH F3 N3 ⟨rfl, (show dp + 1 + 20 < recursionLimit by omega), (show un + 3 + 200 < cLine by omega)⟩ hI (News.isList N3 (.tail _ (.tail _ (.tail _ (.tail _ (.tail _ (.tail _ (.head _)))))))) a4 kc.hz kc.ok (tab.imp_right fun ⟨c', oc, e, hm, hc⟩ => ⟨c', oc, e, List.mem_append_right _ (.tail _ hm), hc⟩) (by k_all) (by k_all) ?_
    intro g4 tk4 r nr wv c' oc hnew hold hco hJ F4 N4 ner
    obtain ⟨own2, oc2, N4, hm2, hco2, hsub, f5, f6, f7, f8⟩ := tab_step tab ⟨f1, f2, f3, f4⟩ hnew hold hco N4
    simp only [List.cons_append, List.nil_append, AllNe] at ner
    obtain ⟨r1, r2, r3, r4, r5, r6, r7, _⟩ := ner
    rw [show partnerF cur = y from ey] at hJ
    clear hnew hold hco F3 N3
    k_steps
    refine unstop ?_
    rename News _ _ _ _ => N5
    rename Fr _ _ _ _ => F5
    refine text_w X T F5 N5 ⟨rfl, (show dp + 1 + 2 < recursionLimit by omega), (show un + 3 + 20 < cLine by omega)⟩ hJ (News.isList N5 (.head _)) (Nat.le_trans ky.hz (by decide)) ky.hx ?_
    intro g6 tk6 tt6 F6 N6
    clear F5 N5
    k_steps
    refine unstop ?_
    rename News _ _ _ _ => N7
    rename Fr _ _ _ _ => F7
    refine push_w (pre := [(_, _), (_, _), (_, _)]) X T F7 N7 ⟨rfl, (show dp + 1 + 5 < recursionLimit by omega), (show un + 3 + 40 < cLine by omega)⟩ o1 o2 (by k_all) (by k_all) ?_
    intro g8 tk8 n8 F8 N8
    simp only [List.cons_append, List.nil_append] at N8
    clear F7 N7
    k_steps
    refine unstop ?_
    rename News _ _ _ _ => N9
    rename Fr _ _ _ _ => F9
    refine pop_w (pre := [(_, _), (_, _), (_, _)]) X T F9 N9 ⟨rfl, (show dp + 1 + 5 < recursionLimit by omega), (show un + 3 + 40 < cLine by omega)⟩ o1 o2 (by k_all) (by k_all) ?_
    intro g10 tk10 n10 F10 N10
    simp only [List.cons_append, List.nil_append] at N10
    clear F9 N9
    k_steps
    refine unstop ?_
    rename News _ _ _ _ => N11
    rename Fr _ _ _ _ => F11
    refine parts_w X T F11 N11 ⟨rfl, (show dp + 1 + 5 < recursionLimit by omega), (show un + 3 + 20 < cLine by omega)⟩ ky.ht ?_
    intro g12 tk12 gens12 a' v' q' hb' hI' F12 N12 nea
    rw [ky.hr] at hI'
    simp only [AllNe] at nea
    obtain ⟨s1, s2, s3, s4, s5, s6, s7, s8, sO⟩ := nea
    clear F11 N11
    k_steps
    rename News _ _ _ _ => N13
    rename Fr _ _ _ _ => F13
    rw [List.push_toArray] at N13
    exact next _ _ _ _ _ _ _ _ _ _ _ hb' (turn_next F13 N13 hI' (.snoc (hv.more fun p hp => .tail _ (hsub p hp)) (.head _) hI) (.inr ⟨c', oc2, rfl, .tail _ hm2, hco2⟩)
      ⟨List.forall_mem_cons.mpr ⟨a1, f5⟩, List.forall_mem_cons.mpr ⟨a2, f6⟩, List.forall_mem_cons.mpr ⟨a3, f7⟩, List.forall_mem_cons.mpr ⟨a4, f8⟩⟩ (Ne.symm s2) (Ne.symm s3) (Ne.symm s4) (Ne.symm s7) (by rw [List.length_append, hvk]; rfl))
end TC
end
theorem turns_c {w : World} {lo : List Str} {me : ExcName → Option Value} {mg mb : Str → Option Value} {A : Around} {s : Shared} {h₀ : Heap} {x d sT pb n0 n1 l : Nat} {line : Int} {a b c e f' g' : Tok} {vs : List Value} {xs : List Int}
    (g : Got w lo me mg mb h₀ s.heap [(pb, listOf #[] n0), (d, lxD w.params line sT pb a b c e f' g' n1), (x, instObj 77 d), (140, tabObj #[])]) (CH : CodeHd (hid s.heap [(pb, listOf #[] n0), (d, lxD w.params line sT pb a b c e f' g' n1), (x, instObj 77 d), (140, tabObj #[])]) 142 140) (R : Rm A 30 300) (o1 : d < x) (o2 : x < pb) (o0 : 140 < d)
    (hl : (hid s.heap [(pb, listOf #[] n0), (d, lxD w.params line sT pb a b c e f' g' n1), (x, instObj 77 d), (140, tabObj #[])]).IsList l vs.toArray) (hI : IntsAre vs xs) {rest : List (List Int)} (k0 : Chain xs rest) (hlen5 : rest.length = 5) :
    wpAny (model PySem.Challenge.rw_to0028_01.row.prog w) A (call (.ref 150) [.ref x, .ref l]) (TurnPost [(pb, listOf #[] n0), (d, lxD w.params line sT pb a b c e f' g' n1), (x, instObj 77 d), (140, tabObj #[])] (xs :: rest) pb s) (fun _ _ => False) s := by
  obtain ⟨hh, hd0, hu0⟩ := R
  obtain ⟨_, dp, fr, gd, un⟩ := A
  cases hh
  exact TC.qA TC.qW w lo me mg mb s h₀ dp fr gd un x d sT pb n0 n1 l line a b c e f' g' vs xs rest  g CH hd0 hu0 o1 o2 o0 hl hI k0 hlen5

end

section
def okPb (xs : List Int) : Bool :=
  let bs := beadsF xs
  let ns := cntF bs
  let sl := slideF ns
  decide (Int.fmod (fiveF ns) 5 = 0) && (sl.all fun y => decide (-1000 ≤ y) && decide (y ≤ 40)) && decide ((movedF sl bs ++ newF sl).length < 64)
def okTb (xs : List Int) : Bool := decide (xs.length ≤ 19) && (xs.all fun y => decide (0 ≤ y) && decide (y ≤ 64)) && okPb xs && decide ((textF xs).cps.size ≤ 1000) && decide (partsF (textF xs) = xs)
def stepb (s : Int) (x y : List Int) : Bool := okTb x && decide (x.sum = s) && decide (isort x = x) && decide (Int.fmod (leanF x - leanF y - 1) 5 = 0) && decide (partnerF x = y)
def goodT : List (List Int) → Bool
  | [a, b, c, d, e] => stepb a.sum a b && stepb a.sum b c && stepb a.sum c d && stepb a.sum d e && stepb a.sum e a
  | _ => false
def tab0 : List (List (List Int)) := [
  [[1, 1, 1, 1], [1, 1, 2], [1, 3], [4], [2, 2]],
  [[1, 1, 1, 1, 1, 1, 1, 1, 1], [1, 1, 7], [1, 2, 3, 3], [1, 1, 3, 4], [2, 7]],
  [[1, 1, 1, 1, 1, 1, 1, 2], [1, 8], [1, 4, 4], [3, 3, 3], [2, 2, 2, 3]],
  [[1, 1, 1, 1, 1, 1, 3], [9], [1, 1, 1, 1, 1, 2, 2], [1, 2, 2, 4], [2, 3, 4]],
  [[1, 1, 1, 1, 1, 4], [1, 1, 1, 2, 2, 2], [1, 1, 2, 5], [1, 3, 5], [4, 5]],
  [[1, 1, 1, 1, 2, 3], [1, 2, 6], [2, 2, 5], [1, 1, 1, 1, 5], [1, 1, 1, 3, 3]],
  [[1, 1, 1, 2, 4], [3, 6], [1, 1, 1, 6], [1, 2, 2, 2, 2], [1, 1, 2, 2, 3]],
  [[1, 1, 1, 1, 1, 1, 1, 1, 1, 1, 1, 1, 1, 1], [2, 2, 3, 7], [1, 1, 1, 1, 1, 1, 2, 3, 3], [1, 1, 1, 1, 1, 1, 1, 3, 4], [1, 3, 3, 7]],
  [[1, 1, 1, 1, 1, 1, 1, 1, 1, 1, 1, 1, 2], [2, 4, 8], [1, 1, 1, 1, 1, 1, 4, 4], [1, 1, 1, 1, 1, 3, 3, 3], [1, 1, 1, 2, 2, 2, 2, 3]],
  [[1, 1, 1, 1, 1, 1, 1, 1, 1, 1, 1, 3], [5, 9], [1, 1, 1, 1, 1, 1, 1, 1, 1, 1, 2, 2], [1, 1, 2, 2, 2, 2, 4], [1, 1, 1, 2, 2, 3, 4]]]
def tab1 : List (List (List Int)) := [
  [[1, 1, 1, 1, 1, 1, 1, 1, 1, 1, 4], [1, 1, 1, 1, 1, 1, 1, 1, 2, 2, 2], [1, 2, 2, 2, 2, 5], [1, 1, 2, 2, 3, 5], [1, 1, 1, 2, 4, 5]],
  [[1, 1, 1, 1, 1, 1, 1, 1, 1, 2, 3], [1, 1, 2, 2, 2, 6], [2, 2, 10], [1, 1, 1, 1, 10], [2, 2, 2, 2, 3, 3]],
  [[1, 1, 1, 1, 1, 1, 1, 1, 1, 5], [1, 1, 1, 1, 1, 1, 1, 1, 3, 3], [1, 1, 1, 1, 4, 6], [1, 2, 11], [2, 6, 6]],
  [[1, 1, 1, 1, 1, 1, 1, 1, 2, 4], [1, 1, 3, 3, 6], [2, 2, 2, 2, 6], [1, 1, 1, 1, 1, 1, 2, 2, 2, 2], [1, 1, 1, 1, 1, 1, 1, 2, 2, 3]],
  [[1, 1, 1, 1, 1, 1, 1, 1, 6], [1, 2, 2, 2, 7], [2, 3, 3, 3, 3], [2, 2, 3, 3, 4], [7, 7]],
  [[1, 1, 1, 1, 1, 1, 1, 2, 5], [1, 6, 7], [1, 4, 4, 5], [1, 2, 2, 2, 3, 4], [1, 1, 1, 2, 2, 7]],
  [[1, 1, 1, 1, 1, 1, 1, 7], [1, 2, 3, 8], [2, 4, 4, 4], [3, 4, 7], [1, 1, 1, 1, 1, 2, 2, 2, 3]],
  [[1, 1, 1, 1, 1, 1, 2, 2, 4], [2, 5, 7], [1, 1, 2, 2, 2, 3, 3], [1, 1, 3, 9], [1, 1, 1, 1, 1, 2, 7]],
  [[1, 1, 1, 1, 1, 1, 2, 6], [1, 1, 1, 1, 1, 2, 2, 5], [1, 2, 2, 4, 5], [1, 1, 1, 3, 8], [1, 1, 1, 1, 2, 8]],
  [[1, 1, 1, 1, 1, 1, 3, 5], [6, 8], [1, 1, 2, 2, 4, 4], [1, 1, 3, 3, 3, 3], [2, 3, 4, 5]]]
def tab2 : List (List (List Int)) := [
  [[1, 1, 1, 1, 1, 1, 8], [1, 4, 9], [1, 1, 1, 2, 3, 3, 3], [3, 3, 4, 4], [1, 1, 1, 1, 1, 2, 3, 4]],
  [[1, 1, 1, 1, 1, 3, 6], [1, 2, 5, 6], [1, 3, 3, 3, 4], [1, 2, 2, 2, 2, 2, 3], [1, 1, 1, 2, 9]],
  [[1, 1, 1, 1, 1, 4, 5], [1, 1, 1, 1, 1, 9], [2, 2, 2, 2, 2, 2, 2], [1, 3, 5, 5], [4, 5, 5]],
  [[1, 1, 1, 1, 2, 2, 2, 2, 2], [1, 1, 12], [1, 2, 4, 7], [1, 1, 5, 7], [2, 12]],
  [[1, 1, 1, 1, 2, 2, 2, 4], [1, 1, 1, 1, 2, 3, 5], [2, 2, 2, 4, 4], [1, 1, 1, 1, 3, 7], [1, 3, 4, 6]],
  [[1, 1, 1, 1, 2, 2, 3, 3], [1, 13], [1, 5, 8], [3, 3, 8], [2, 2, 2, 8]],
  [[1, 1, 1, 1, 2, 2, 6], [2, 2, 5, 5], [1, 1, 2, 3, 7], [1, 1, 4, 8], [1, 1, 2, 3, 3, 4]],
  [[1, 1, 1, 1, 2, 4, 4], [14], [1, 1, 1, 1, 3, 3, 4], [1, 2, 2, 9], [2, 3, 9]],
  [[1, 1, 1, 2, 2, 2, 5], [1, 1, 2, 5, 5], [1, 1, 4, 4, 4], [1, 1, 1, 3, 4, 4], [3, 5, 6]],
  [[1, 1, 1, 2, 3, 6], [1, 1, 6, 6], [1, 2, 3, 3, 5], [1, 1, 3, 4, 5], [2, 2, 2, 2, 2, 4]]]
def tab3 : List (List (List Int)) := [
  [[1, 1, 1, 4, 7], [1, 2, 2, 3, 3, 3], [2, 3, 3, 6], [3, 3, 3, 5], [2, 2, 2, 3, 5]],
  [[1, 1, 1, 5, 6], [3, 11], [1, 1, 1, 11], [1, 2, 2, 3, 6], [1, 1, 2, 4, 6]],
  [[1, 1, 2, 2, 2, 2, 2, 2], [1, 1, 2, 2, 8], [1, 2, 3, 4, 4], [4, 4, 6], [2, 2, 4, 6]],
  [[1, 1, 1, 1, 1, 1, 1, 1, 1, 1, 1, 1, 1, 1, 1, 1, 1, 2], [1, 1, 1, 1, 1, 2, 4, 8], [1, 1, 1, 1, 1, 1, 1, 1, 1, 1, 1, 4, 4], [1, 1, 1, 1, 1, 1, 1, 1, 1, 1, 3, 3, 3], [1, 1, 1, 1, 1, 1, 1, 1, 2, 2, 2, 2, 3]],
  [[1, 1, 1, 1, 1, 1, 1, 1, 1, 1, 1, 2, 6], [1, 1, 1, 1, 1, 1, 1, 1, 1, 1, 2, 2, 5], [1, 1, 2, 2, 2, 2, 4, 5], [1, 2, 4, 4, 8], [1, 1, 2, 3, 4, 8]],
  [[1, 1, 1, 1, 1, 1, 1, 1, 1, 1, 2, 3, 4], [1, 1, 1, 2, 2, 4, 8], [1, 1, 1, 1, 1, 1, 4, 9], [2, 2, 2, 2, 2, 3, 3, 3], [1, 1, 1, 2, 3, 3, 4, 4]],
  [[1, 1, 1, 1, 1, 1, 1, 2, 3, 7], [2, 2, 3, 4, 8], [1, 1, 2, 4, 5, 6], [1, 1, 1, 1, 2, 2, 11], [3, 3, 3, 5, 5]],
  [[1, 1, 1, 1, 1, 2, 2, 2, 8], [1, 1, 1, 1, 2, 2, 4, 7], [1, 2, 3, 13], [2, 4, 5, 8], [3, 8, 8]],
  [[1, 1, 1, 1, 1, 2, 3, 3, 6], [1, 1, 1, 1, 1, 3, 3, 3, 5], [1, 1, 1, 2, 2, 2, 2, 3, 5], [2, 2, 4, 4, 7], [1, 1, 2, 2, 2, 2, 3, 3, 3]],
  [[1, 1, 1, 1, 2, 2, 3, 8], [1, 18], [1, 5, 13], [3, 3, 13], [2, 2, 2, 13]]]
def tableP : List (List (List Int)) := tab0 ++ (tab1 ++ (tab2 ++ tab3))
def startOf (q0 q1 q2 q3 : Nat) (odd : Bool) : List Int :=
  let ps := ([(q0 : Int), q1, q2, q3] : List Int).filter fun x => decide (0 < x)
  let lk := Int.fmod (4 - ps.sum) 5
  if odd then ps ++ List.replicate lk.toNat 1 else if 0 < lk then ps ++ [lk] else ps
def inTab (s : List Int) : Bool := tableP.any fun o => o.any fun x => decide (x = s)
def goodS (s : List Int) : Bool := inTab (isort s) && (s.all fun y => decide (1 ≤ y) && decide (y ≤ 8)) && decide (s.length ≤ 8) && decide (insAll [] s = isort s)
def goods (q0 : Nat) (odd : Bool) : Bool := (List.range 5).all fun q1 => (List.range 3).all fun q2 => (List.range 3).all fun q3 => goodS (startOf q0 q1 q2 q3 odd)
theorem tab0_good : tab0.all goodT = true := by decide +kernel
theorem tab1_good : tab1.all goodT = true := by decide +kernel
theorem tab2_good : tab2.all goodT = true := by decide +kernel
theorem tab3_good : tab3.all goodT = true := by decide +kernel
theorem table_good : ∀ o ∈ tableP, goodT o = true := fun o ho => by
  rcases List.mem_append.mp ho with h | h
  · exact List.all_eq_true.mp tab0_good o h
  rcases List.mem_append.mp h with h | h
  · exact List.all_eq_true.mp tab1_good o h
  rcases List.mem_append.mp h with h | h
  · exact List.all_eq_true.mp tab2_good o h
  · exact List.all_eq_true.mp tab3_good o h
theorem goods_0_true : goods 0 true = true := by decide +kernel
theorem goods_0_false : goods 0 false = true := by decide +kernel
theorem goods_1_true : goods 1 true = true := by decide +kernel
theorem goods_1_false : goods 1 false = true := by decide +kernel
theorem goods_2_true : goods 2 true = true := by decide +kernel
theorem goods_2_false : goods 2 false = true := by decide +kernel
theorem goods_3_true : goods 3 true = true := by decide +kernel
theorem goods_3_false : goods 3 false = true := by decide +kernel
theorem goods_4_true : goods 4 true = true := by decide +kernel
theorem goods_4_false : goods 4 false = true := by decide +kernel
theorem goods_5_true : goods 5 true = true := by decide +kernel
theorem goods_5_false : goods 5 false = true := by decide +kernel
theorem goods_6_true : goods 6 true = true := by decide +kernel
theorem goods_6_false : goods 6 false = true := by decide +kernel
theorem goods_7_true : goods 7 true = true := by decide +kernel
theorem goods_7_false : goods 7 false = true := by decide +kernel
theorem goods_8_true : goods 8 true = true := by decide +kernel
theorem goods_8_false : goods 8 false = true := by decide +kernel
theorem goods_all {q0 q1 q2 q3 : Nat} (h0 : q0 < 9) (h1 : q1 < 5) (h2 : q2 < 3) (h3 : q3 < 3) (odd : Bool) : goodS (startOf q0 q1 q2 q3 odd) = true := by
  have h : goods q0 odd = true := by
    rcases (show q0 = 0 ∨ q0 = 1 ∨ q0 = 2 ∨ q0 = 3 ∨ q0 = 4 ∨ q0 = 5 ∨ q0 = 6 ∨ q0 = 7 ∨ q0 = 8 by omega) with rfl | rfl | rfl | rfl | rfl | rfl | rfl | rfl | rfl <;> cases odd
    · exact goods_0_false
    · exact goods_0_true
    · exact goods_1_false
    · exact goods_1_true
    · exact goods_2_false
    · exact goods_2_true
    · exact goods_3_false
    · exact goods_3_true
    · exact goods_4_false
    · exact goods_4_true
    · exact goods_5_false
    · exact goods_5_true
    · exact goods_6_false
    · exact goods_6_true
    · exact goods_7_false
    · exact goods_7_true
    · exact goods_8_false
    · exact goods_8_true
  have a1 := List.all_eq_true.mp h q1 (List.mem_range.mpr h1)
  have a2 := List.all_eq_true.mp a1 q2 (List.mem_range.mpr h2)
  exact List.all_eq_true.mp a2 q3 (List.mem_range.mpr h3)
theorem stepb_ok {S : Int} {x y : List Int} (h : stepb S x y = true) : OkT x ∧ x.sum = S ∧ isort x = x ∧ Int.fmod (leanF x - leanF y - 1) 5 = 0 ∧ partnerF x = y := by
  simp only [stepb, okTb, okPb, Bool.and_eq_true, decide_eq_true_eq, List.all_eq_true] at h
  obtain ⟨⟨⟨⟨⟨⟨⟨⟨h1, h2⟩, ⟨h3, h4⟩, h5⟩, h6⟩, h7⟩, h8⟩, h9⟩, h10⟩, h11⟩ := h
  exact ⟨⟨h1, h2, ⟨h3, h4, h5⟩, h6, h7⟩, h8, h9, h10, h11⟩
structure Cyc (S : Int) (x0 x1 x2 x3 x4 : List Int) : Prop where
  a0 : stepb S x0 x1 = true
  a1 : stepb S x1 x2 = true
  a2 : stepb S x2 x3 = true
  a3 : stepb S x3 x4 = true
  a4 : stepb S x4 x0 = true
theorem cyc_of {s : List Int} (h : inTab s = true) : ∃ S x1 x2 x3 x4, Cyc S s x1 x2 x3 x4 := by
  obtain ⟨o, ho, h2⟩ := List.any_eq_true.mp h
  obtain ⟨x, hx, h3⟩ := List.any_eq_true.mp h2
  have e : x = s := of_decide_eq_true h3
  subst e
  have hg := table_good o ho
  unfold goodT at hg
  split at hg
  · simp only [Bool.and_eq_true] at hg
    obtain ⟨⟨⟨⟨g0, g1⟩, g2⟩, g3⟩, g4⟩ := hg
    simp only [List.mem_cons, List.not_mem_nil, or_false] at hx
    rcases hx with rfl | rfl | rfl | rfl | rfl
    · exact ⟨_, _, _, _, _, g0, g1, g2, g3, g4⟩
    · exact ⟨_, _, _, _, _, g1, g2, g3, g4, g0⟩
    · exact ⟨_, _, _, _, _, g2, g3, g4, g0, g1⟩
    · exact ⟨_, _, _, _, _, g3, g4, g0, g1, g2⟩
    · exact ⟨_, _, _, _, _, g4, g0, g1, g2, g3⟩
  · cases hg
theorem Cyc.chain {S : Int} {x0 x1 x2 x3 x4 : List Int} (c : Cyc S x0 x1 x2 x3 x4) : Chain x0 [x1, x2, x3, x4, x0] :=
  .cons (stepb_ok c.a0).1 (stepb_ok c.a0).2.2.2.2 (.cons (stepb_ok c.a1).1 (stepb_ok c.a1).2.2.2.2 (.cons (stepb_ok c.a2).1 (stepb_ok c.a2).2.2.2.2 (.cons (stepb_ok c.a3).1 (stepb_ok c.a3).2.2.2.2 (.cons (stepb_ok c.a4).1 (stepb_ok c.a4).2.2.2.2 (.nil (stepb_ok c.a0).1)))))
theorem words_start {cs : List Int} (hn : cs.length = 5) : ∃ q0 q1 q2 q3 odd, q0 < 9 ∧ q1 < 5 ∧ q2 < 3 ∧ q3 < 3 ∧ (wordsF cs).map (·.1) = startOf q0 q1 q2 q3 odd := by
  match cs, hn with
  | [c0, c1, c2, c3, c4], _ =>
    have m0 : 0 ≤ Int.fmod c0 9 ∧ Int.fmod c0 9 < 9 := ⟨Int.fmod_nonneg_of_pos _ (by decide), Int.fmod_lt_of_pos _ (by decide)⟩
    have m1 : 0 ≤ Int.fmod c1 5 ∧ Int.fmod c1 5 < 5 := ⟨Int.fmod_nonneg_of_pos _ (by decide), Int.fmod_lt_of_pos _ (by decide)⟩
    have m2 : 0 ≤ Int.fmod c2 3 ∧ Int.fmod c2 3 < 3 := ⟨Int.fmod_nonneg_of_pos _ (by decide), Int.fmod_lt_of_pos _ (by decide)⟩
    have m3 : 0 ≤ Int.fmod c3 3 ∧ Int.fmod c3 3 < 3 := ⟨Int.fmod_nonneg_of_pos _ (by decide), Int.fmod_lt_of_pos _ (by decide)⟩
    refine ⟨(Int.fmod c0 9).toNat, (Int.fmod c1 5).toNat, (Int.fmod c2 3).toNat, (Int.fmod c3 3).toNat, decide (Int.fmod c4 2 = 1), by omega, by omega, by omega, by omega, ?_⟩
    have key : ((List.take 4 (([c0, c1, c2, c3, c4] : List Int).zip widths)).filterMap wordOf).map (·.1) = ([Int.fmod c0 9, Int.fmod c1 5, Int.fmod c2 3, Int.fmod c3 3] : List Int).filter fun x => decide (0 < x) := by
      simp only [widths, List.zip_cons_cons, List.zip_nil_right, List.take_succ_cons, List.take_zero, List.filterMap_cons, List.filterMap_nil, wordOf, List.filter_cons, List.filter_nil, decide_eq_true_eq, gt_iff_lt]
      by_cases p0 : 0 < Int.fmod c0 9 <;> by_cases p1 : 0 < Int.fmod c1 5 <;> by_cases p2 : 0 < Int.fmod c2 3 <;> by_cases p3 : 0 < Int.fmod c3 3 <;> simp [p0, p1, p2, p3]
    unfold wordsF startOf
    rw [Int.toNat_of_nonneg m0.1, Int.toNat_of_nonneg m1.1, Int.toNat_of_nonneg m2.1, Int.toNat_of_nonneg m3.1, ← key]
    simp only [show ([c0, c1, c2, c3, c4] : List Int).getD 4 0 = c4 from rfl, decide_eq_true_eq]
    split
    · rw [List.map_append, List.map_replicate]
    · split
      · rw [List.map_append]; rfl
      · rfl
structure PlainOk (ws : List (Int × Int)) : Prop where
  hb : ∀ p ∈ ws, 1 ≤ p.1 ∧ p.1 ≤ 8
  hn : ws.length ≤ 8
  hi : insAll [] (ws.map (·.1)) = isort (ws.map (·.1))
  hc : ∃ S x1 x2 x3 x4, Cyc S (isort (ws.map (·.1))) x1 x2 x3 x4
theorem plain_ok {cs : List Int} (hn : cs.length = 5) : PlainOk (wordsF cs) := by
  obtain ⟨q0, q1, q2, q3, odd, h0, h1, h2, h3, e⟩ := words_start hn
  have g := goods_all h0 h1 h2 h3 odd
  rw [← e] at g
  simp only [goodS, Bool.and_eq_true, decide_eq_true_eq, List.all_eq_true, List.mem_map] at g
  obtain ⟨⟨⟨g1, g2⟩, g3⟩, g4⟩ := g
  exact ⟨fun p hp => g2 _ ⟨p, hp, rfl⟩, by simpa using g3, g4, cyc_of g1⟩

end

section
theorem idx_lt {k n : Nat} (h : k < n) : Builtin.Str.strSliceIndices (some (k : Int)) (some ((k : Int) + 1)) 1 n = [k] := by
  unfold Builtin.Str.strSliceIndices sliceRange
  simp only [show (1 : Int) > 0 by decide, if_true, show ¬ (k : Int) < 0 by omega, show ¬ (k : Int) + 1 < 0 by omega, if_false]
  rw [show max (0 : Int) (min (k : Int) (n : Int)) = k by omega, show max (0 : Int) (min ((k : Int) + 1) (n : Int)) = (k : Int) + 1 by omega]
  rw [if_pos (by omega), show ((k : Int) + 1 - (k : Int) + 1 - 1) / 1 = 1 by omega]
  simp
theorem idx_ge {k n : Nat} (h : n ≤ k) : Builtin.Str.strSliceIndices (some (k : Int)) (some ((k : Int) + 1)) 1 n = [] := by
  unfold Builtin.Str.strSliceIndices sliceRange
  simp only [show (1 : Int) > 0 by decide, if_true, show ¬ (k : Int) < 0 by omega, show ¬ (k : Int) + 1 < 0 by omega, if_false]
  rw [show max (0 : Int) (min (k : Int) (n : Int)) = n by omega, show max (0 : Int) (min ((k : Int) + 1) (n : Int)) = n by omega]
  rw [if_neg (by omega)]
  rfl
theorem chAt_cons {page : Str} {k c : Nat} {t : List Nat} (h : page.cps.toList.drop k = c :: t) : chAt page k = ⟨#[c]⟩ ∧ page.cps.toList.drop (k + 1) = t := by
  have hk : k < page.cps.toList.length := by
    apply Nat.lt_of_not_le; intro h2; rw [List.drop_of_length_le h2] at h; cases h
  have hc : page.cps.toList[k]? = some c := by
    have := congrArg List.head? h
    rwa [List.head?_drop] at this
  refine ⟨?_, by rw [← List.drop_drop, h]; rfl⟩
  have hn : k < page.length := by unfold Str.length; simpa using hk
  unfold chAt Txt.slice
  rw [idx_lt hn]
  split
  · next e =>
    have e1 : page.length = 1 := by simpa using Eq.symm (show (1 : Nat) = page.length by simpa using e)
    obtain ⟨cps⟩ := page
    have e2 : cps.toList.length = 1 := by simpa [Str.length] using e1
    have hk0 : k = 0 := by have : k < cps.toList.length := hk; omega
    subst hk0
    have e3 : cps.toList = [c] := by
      match hcl : cps.toList, e2 with
      | [a], _ => rw [show (Str.mk cps).cps.toList = cps.toList from rfl, hcl] at hc; simpa using hc
    show Str.mk cps = Str.mk #[c]
    rw [show cps = #[c] from Array.toList_inj.mp (by rw [e3])]
  · have : page.cps[k]? = some c := by rw [← hc]; exact (Array.getElem?_toList ..).symm
    simp [this]
theorem chAt_nil {page : Str} {k : Nat} (h : page.cps.toList.drop k = []) : chAt page k = Str.ofString "" := by
  have hk : page.length ≤ k := by unfold Str.length; have := List.drop_eq_nil_iff.mp h; simpa using this
  unfold chAt Txt.slice
  rw [idx_ge hk]
  split
  · next e =>
    have e1 : page.length = 0 := by simpa using Eq.symm (show (0 : Nat) = page.length by simpa using e)
    obtain ⟨cps⟩ := page
    have : cps = #[] := Array.eq_empty_of_size_eq_zero (by simpa [Str.length] using e1)
    rw [this]; rfl
  · rfl
def sgC (a : Int) : Nat := ([43, 45, 42, 47, 124, 38, 60, 62] : List Nat).getD (a - 1).toNat 0
def enc1 (p : Int × Int) : List Nat := if p.2 = 0 then [92, sgC p.1, 10] else if p.2 = 1 then [34, sgC p.1, 34, 10] else [sgC p.1, 10]
def encL (ws : List (Int × Int)) : List Nat := ws.flatMap enc1
theorem sg_item {a : Int} (h1 : 1 ≤ a) (h8 : a ≤ 8) : Txt.item signsS (a - 1) = ⟨#[sgC a]⟩ ∧ signOf a = ⟨#[sgC a]⟩ ∧ Sg (signOf a) := by
  rcases eight h1 h8 with rfl | rfl | rfl | rfl | rfl | rfl | rfl | rfl <;> refine ⟨by decide +kernel, by decide +kernel, by decide +kernel, by decide +kernel, by decide +kernel, by decide +kernel, by decide +kernel, by decide +kernel⟩
theorem putWord_list {acc : Str} {p : Int × Int} (h1 : 1 ≤ p.1) (h8 : p.1 ≤ 8) : (putWord acc p).cps.toList = acc.cps.toList ++ enc1 p := by
  have e := (sg_item h1 h8).1
  have ap : ∀ a b : Str, (a ++ b).cps.toList = a.cps.toList ++ b.cps.toList := fun a b => by show (a.cps ++ b.cps).toList = _; simp
  unfold putWord enc1
  split
  · rw [ap, ap, ap, e]; simp [show (Str.ofString "\\").cps.toList = [92] by decide, show (Str.ofString "\n").cps.toList = [10] by decide]
  · split
    · rw [ap, ap, ap, e]; simp [show (Str.ofString "\"").cps.toList = [34] by decide, show (Str.ofString "\"\n").cps.toList = [34, 10] by decide]
    · rw [ap, ap, e]; simp [show (Str.ofString "\n").cps.toList = [10] by decide]
theorem page_list : ∀ (ws : List (Int × Int)) (acc : Str), (∀ p ∈ ws, 1 ≤ p.1 ∧ p.1 ≤ 8) → (ws.foldl putWord acc).cps.toList = acc.cps.toList ++ encL ws := by
  intro ws
  induction ws with
  | nil => intro acc _; simp [encL]
  | cons p ws ih =>
    intro acc h
    rw [List.foldl_cons, ih _ (fun q hq => h q (.tail _ hq)), putWord_list (h p (.head _)).1 (h p (.head _)).2]
    simp [encL]
theorem toks_of {page : Str} : ∀ (ws : List (Int × Int)) (k : Nat) (line : Int) (pend : Bool), (∀ p ∈ ws, 1 ≤ p.1 ∧ p.1 ≤ 8) → page.cps.toList.drop k = (if pend then [10] else []) ++ encL ws → k + 4 * ws.length + 5 ≤ 90 →
    ∃ k', Toks page k line (ws.map (·.1)) k' (line + (if pend then 1 else 0) + (ws.length : Nat)) := by
  intro ws
  induction ws with
  | nil =>
    intro k line pend _ hd hk
    rw [List.length_nil] at hk
    cases pend with
    | false =>
      have hd' : page.cps.toList.drop k = [] := by simpa [encL] using hd
      have e := chAt_nil hd'
      exact ⟨k, by simpa using Toks.nil (line := line) (by omega) (.at0 (.done e)) (by omega) e⟩
    | true =>
      have hd' : page.cps.toList.drop k = 10 :: [] := by simpa [encL] using hd
      obtain ⟨e, hd2⟩ := chAt_cons hd'
      have e2 := chAt_nil hd2
      exact ⟨k + 1, by simpa using Toks.nil (line := line) (by omega) (.at1 e (.done e2)) (by omega) e2⟩
  | cons p ws ih =>
    intro k line pend hb hd hk
    have hp := hb p (.head _)
    have hb' : ∀ q ∈ ws, 1 ≤ q.1 ∧ q.1 ≤ 8 := fun q hq => hb q (.tail _ hq)
    obtain ⟨_, hs1, hs2⟩ := sg_item hp.1 hp.2
    rw [List.length_cons] at hk
    have core : ∀ k0 line0, page.cps.toList.drop k0 = enc1 p ++ encL ws → k0 ≤ k + 1 → ∃ k1 line1 k', Sh0 page k0 line0 (signOf p.1) k1 line1 ∧ Toks page k1 line1 (ws.map (·.1)) k' (line0 + 1 + (ws.length : Nat)) := by
      intro k0 line0 h0 hk0
      unfold enc1 at h0
      split at h0
      · obtain ⟨c1, d1⟩ := chAt_cons h0
        obtain ⟨c2, d2⟩ := chAt_cons d1
        obtain ⟨c3, d3⟩ := chAt_cons d2
        obtain ⟨k', t⟩ := ih (k0 + 1 + 1 + 1) (line0 + 1) false hb' (by simpa using d3) (by omega)
        exact ⟨_, _, k', .esc hs2 c1 (c2.trans hs1.symm) c3, by simpa using t⟩
      · split at h0
        · obtain ⟨c1, d1⟩ := chAt_cons h0
          obtain ⟨c2, d2⟩ := chAt_cons d1
          obtain ⟨c3, d3⟩ := chAt_cons d2
          obtain ⟨k', t⟩ := ih (k0 + 1 + 1 + 1) line0 true hb' (by simpa using d3) (by omega)
          exact ⟨_, _, k', .quo hs2 c1 (c2.trans hs1.symm) c3, by simpa using t⟩
        · obtain ⟨c1, d1⟩ := chAt_cons h0
          obtain ⟨c2, d2⟩ := chAt_cons d1
          obtain ⟨k', t⟩ := ih (k0 + 1 + 1) (line0 + 1) false hb' (by simpa using d2) (by omega)
          exact ⟨_, _, k', .bare hs2 (c1.trans hs1.symm) c2, by simpa using t⟩
    have el : encL (p :: ws) = enc1 p ++ encL ws := by simp [encL]
    rw [el] at hd
    cases pend with
    | false =>
      obtain ⟨k1, line1, k', S, t⟩ := core k line (by simpa using hd) (by omega)
      refine ⟨k', ?_⟩
      rw [show line + (if false = true then 1 else 0) + (((p :: ws).length : Nat) : Int) = line + 1 + (ws.length : Nat) by simp; omega]
      exact .cons (by omega) (.at0 S) hp.1 hp.2 t
    | true =>
      obtain ⟨c0, d0⟩ := chAt_cons (show page.cps.toList.drop k = 10 :: (enc1 p ++ encL ws) by simpa using hd)
      obtain ⟨k1, line1, k', S, t⟩ := core (k + 1) (line + 1) d0 (by omega)
      refine ⟨k', ?_⟩
      rw [show line + (if true = true then 1 else 0) + (((p :: ws).length : Nat) : Int) = line + 1 + 1 + (ws.length : Nat) by simp; omega]
      exact .cons (by omega) (.at1 c0 S) hp.1 hp.2 t
theorem page_toks {ws : List (Int × Int)} (hb : ∀ p ∈ ws, 1 ≤ p.1 ∧ p.1 ≤ 8) (hn : ws.length ≤ 8) : ∃ k', Toks (pageF ws) 0 1 (ws.map (·.1)) k' (1 + (ws.length : Nat)) := by
  have e := page_list ws (Str.ofString "") hb
  obtain ⟨k', t⟩ := toks_of (page := pageF ws) ws 0 1 false hb (by rw [List.drop_zero]; show (ws.foldl putWord (Str.ofString "")).cps.toList = _; rw [e]; simp [show (Str.ofString "").cps.toList = [] by decide]) (by omega)
  exact ⟨k', by simpa using t⟩
theorem encL_len : ∀ ws, (encL ws).length ≤ 4 * ws.length := by
  intro ws
  induction ws with
  | nil => exact Nat.le_refl _
  | cons p ws ih =>
    have e : encL (p :: ws) = enc1 p ++ encL ws := by simp [encL]
    rw [e, List.length_append, List.length_cons]
    have : (enc1 p).length ≤ 4 := by unfold enc1; split; exact (by decide : (3 : Nat) ≤ 4); split; exact Nat.le_refl _; exact (by decide : (2 : Nat) ≤ 4)
    omega
theorem page_len {ws : List (Int × Int)} (hb : ∀ p ∈ ws, 1 ≤ p.1 ∧ p.1 ≤ 8) (hn : ws.length ≤ 8) : (pageF ws).length ≤ 100 := by
  have e := page_list ws (Str.ofString "") hb
  have e2 : (pageF ws).length = (pageF ws).cps.toList.length := by unfold Str.length; simp
  rw [e2, show (pageF ws).cps.toList = (ws.foldl putWord (Str.ofString "")).cps.toList from rfl, e, List.length_append]
  have := encL_len ws
  have e3 : (Str.ofString "").cps.toList.length = 0 := by decide
  omega

end

section
def Apart (a b : Nat) : Prop := a ≠ b
theorem Apart.l {a b : Nat} (h : Apart a b) : @Ne Nat a b := h
theorem Apart.r {a b : Nat} (h : Apart b a) : @Ne Nat a b := Ne.symm h
def AllAp (d : Nat) : List (Addr × Obj) → Prop
  | [] => True
  | p :: r => Apart p.1 d ∧ AllAp d r
theorem allAp_of {d : Nat} {l : List (Addr × Obj)} (h : AllNe d l) : AllAp d l := by
  induction l with
  | nil => trivial
  | cons p r ih => exact ⟨h.1, ih h.2⟩
section
variable {w : World} {lo : List Str} {me : ExcName → Option Value} {mg mb : Str → Option Value} {A : Around} {s : Shared} {h₀ : Heap} {L : Addr} {m : Str → Option Value} {Q : Value → Shared → Prop} {E : Value → Shared → Prop} {news : List (Addr × Obj)}
theorem join_fresh {h h' : Heap} {D : Addr} {o : Obj} (F : Fr h₀ L h m) (k : ∀ b o, b = L → h.get? b = some o → h'.get? b = some o) (hn : h.get? D = none) (kb : Kp h₀ h) (e : h'.get? D = some o) {nn : List (Addr × Obj)} (N : News h₀ L h' nn) : News h₀ L h' ((D, o) :: nn) := fun p hp => by
  rcases List.mem_cons.mp hp with rfl | hp
  · refine ⟨e, fun q => ?_, ?_⟩
    · obtain ⟨o', _, _, e', _⟩ := F.ns
      rw [show L = D from q.symm, hn] at e'; cases e'
    · cases q : h₀.get? D with
      | none => rfl
      | some o' => have := kb D o' q; rw [hn] at this; cases this
  · exact N p hp
theorem ne_of_fresh {h : Heap} {D : Addr} (hn : h.get? D = none) (N : News h₀ L h news) : ∀ p ∈ news, p.1 ≠ D := fun p hp q => by
  have := (N p hp).1; rw [q, hn] at this; cases this
theorem cells_w {sa oa : Addr} {vs ws : List Value} {ns os : List Int} (X : (Mine.Kc w.params).In h₀) (T : Top topProg lo me mg mb h₀) (F : Fr h₀ L s.heap m) (N : News h₀ L s.heap news) (R : Rm A 2 20) (hI : IntsAre vs ns) (hl : s.heap.IsList sa vs.toArray) (hn : ns.length ≤ 63)
    (hI2 : IntsAre ws os) (hl2 : s.heap.IsList oa ws.toArray) (ho : os.length = 5) (hb : ∀ x ∈ os, 0 ≤ x ∧ x ≤ 8)
    (h : ∀ h' tk D (vs : List Value) (cs : List Int) k, Fr h₀ L h' m → News h₀ L h' ((D, listOf vs.toArray k) :: news) → AllNe D news → IntsAre vs cs → cs.length = 5 → (∀ x ∈ cs, 0 ≤ x ∧ x ≤ 20000) → Q (.ref D) { s with heap := h', toks := tk }) :
    wpAny (model PySem.Challenge.rw_to0028_01.row.prog w) A (call (.ref 105) [.ref sa, .ref oa]) Q E s := by
  refine wpAny_mono (cells_c (X.keeps F.keep) (T.keeps F.keep) R sa oa vs ws ns os hI hl hn hI2 hl2 ho hb) (fun v s' y => ?_) fun _ _ y => y.elim
  obtain ⟨h', tk, rfl, kp, D, rfl, hD, vs', cs, k, e, hI', hl', hb'⟩ := y
  exact h _ _ D vs' cs k (F.keeps kp) (join_fresh F (fun b o _ e => kp b o e) hD F.keep e (N.keeps kp)) (allNe_of hD N) hI' hl' hb'
theorem tup_ne {h : Heap} {tl : List (Addr × Obj)} {q : Addr} {o : Obj} (N : News h₀ L h news) (hq : (q, o) ∈ news) (ho : ∀ its n, o.data ≠ .seq its n) (hs : ∀ p ∈ tl, p ∈ news) (htl : ∀ p ∈ tl, ∃ its n, p.2.data = .seq its n) : ∀ p ∈ tl, p.1 ≠ q := fun p hp e => by
  have h1 := (N p (hs p hp)).1
  have h2 := (N _ hq).1
  rw [e] at h1
  dsimp only at h2
  rw [h1] at h2
  cases h2
  obtain ⟨its, n, e3⟩ := htl p hp
  exact ho its n e3
theorem app_ne {a b : List (Addr × Obj)} {q : Addr} (h1 : ∀ p ∈ a, p.1 ≠ q) (h2 : ∀ p ∈ b, p.1 ≠ q) : ∀ p ∈ a ++ b, p.1 ≠ q := fun p hp => (List.mem_append.mp hp).elim (h1 p) (h2 p)
/-- the pairs, kept by the ledger -/
theorem words_led2 {h : Heap} (F : Fr h₀ L h m) {vs : List Value} {ps : List (Int × Int)} (W : WordsAt h vs ps) : ∃ tl, News h₀ L h tl ∧ (∀ p ∈ tl, ∃ its n, p.2.data = .seq its n) ∧ ∀ h'' : Heap, (∀ b o, h₀.get? b = some o → h''.get? b = some o) → (∀ p ∈ tl, h''.get? p.1 = some p.2) → WordsAt h'' vs ps := by
  induction W with
  | nil => exact ⟨[], News.nil, fun _ h => (nomatch h), fun _ _ _ => .nil⟩
  | @cons T a b ta tb vs ps hT _ ih =>
    obtain ⟨tl, N, hc, hk⟩ := ih
    obtain ⟨o, e, hcls, hd⟩ := hT
    have hsq := hd
    cases q : h₀.get? T with
    | some o' =>
      have e2 := F.keep T o' q
      rw [e] at e2; cases e2
      exact ⟨tl, N, hc, fun h'' k1 k2 => .cons ⟨o, k1 _ _ q, hcls, hd⟩ (hk h'' k1 k2)⟩
    | none =>
      refine ⟨(T, o) :: tl, List.forall_mem_cons.mpr ⟨⟨e, fun q2 => ?_, q⟩, N⟩, List.forall_mem_cons.mpr ⟨⟨_, hsq⟩, hc⟩, fun h'' k1 k2 => .cons ⟨o, k2 _ (.head _), hcls, hd⟩ (hk h'' k1 fun p hp => k2 p (.tail _ hp))⟩
      obtain ⟨o', es, ep, e', hd', _⟩ := F.ns
      rw [show L = T from q2.symm, e] at e'
      cases e'
      obtain ⟨n, hd⟩ := hd
      rw [hd'] at hd; cases hd
theorem words_w {ca : Addr} {vs : List Value} {cs : List Int} (X : (Mine.Kc w.params).In h₀) (T : Top topProg lo me mg mb h₀) (F : Fr h₀ L s.heap m) (N : News h₀ L s.heap news) (R : Rm A 2 20) (hI : IntsAre vs cs) (hl : s.heap.IsList ca vs.toArray) (hn : cs.length = 5) (hb : ∀ x ∈ cs, 0 ≤ x ∧ x ≤ 20000)
    (h : ∀ h' tk D (ws : List Value) k tl, Fr h₀ L h' m → News h₀ L h' ((D, listOf ws.toArray k) :: (news ++ tl)) → AllNe D news → (∀ p ∈ tl, ∃ its n, p.2.data = .seq its n) → (∀ h'' : Heap, (∀ b o, h₀.get? b = some o → h''.get? b = some o) → (∀ p ∈ tl, h''.get? p.1 = some p.2) → WordsAt h'' ws (wordsF cs)) → Q (.ref D) { s with heap := h', toks := tk }) :
    wpAny (model PySem.Challenge.rw_to0028_01.row.prog w) A (call (.ref 110) [.ref ca]) Q E s := by
  refine wpAny_mono (words_c (X.keeps F.keep) (T.keeps F.keep) R ca vs cs hI hl hn hb) (fun v s' y => ?_) fun _ _ y => y.elim
  obtain ⟨h', tk, rfl, kp, D, ws, k, rfl, hD, e, W⟩ := y
  obtain ⟨tl, Nt, hc, hk⟩ := words_led2 (F.keeps kp) W
  refine h _ _ D ws k tl (F.keeps kp) (join_fresh F (fun b o _ e => kp b o e) hD F.keep e fun p hp => ?_) (allNe_of hD N) hc hk
  rcases List.mem_append.mp hp with hp | hp
  · exact N.keeps kp p hp
  · exact Nt p hp
theorem page_w {wa : Addr} {vs : List Value} {ps : List (Int × Int)} (X : (Mine.Kc w.params).In h₀) (T : Top topProg lo me mg mb h₀) (F : Fr h₀ L s.heap m) (N : News h₀ L s.heap news) (R : Rm A 2 20) (hl : s.heap.IsList wa vs.toArray) (W : WordsAt s.heap vs ps) (hn : ps.length ≤ 8) (hb : ∀ p ∈ ps, 1 ≤ p.1 ∧ p.1 ≤ 8)
    (h : ∀ h' tk t, Fr h₀ L h' m → News h₀ L h' news → Q (.str (pageF ps) t) { s with heap := h', toks := tk }) :
    wpAny (model PySem.Challenge.rw_to0028_01.row.prog w) A (call (.ref 117) [.ref wa]) Q E s := by
  refine wpAny_mono (page_c (X.keeps F.keep) (T.keeps F.keep) R wa vs ps hl W hn hb) (fun v s' y => ?_) fun _ _ y => y.elim
  obtain ⟨h', tk, rfl, kp, t, rfl⟩ := y
  exact h _ _ t (F.keeps kp) (N.keeps kp)
end
theorem RdOK.more {w : World} {page : Str} {fx fx' : List (Addr × Obj)} {f aL : Nat} (h : RdOK w page fx f aL) (hs : ∀ p ∈ fx, p ∈ fx') : RdOK w page fx' f aL := fun lo me mg mb h₀ A s k tk t n g R hk =>
  h lo me mg mb h₀ A s k tk t n (g.sub fun p hp => by
    rcases List.mem_cons.mp hp with rfl | hp
    · exact .head _
    · exact .tail _ (hs p hp)) R hk
section
variable {w : World} {lo : List Str} {me : ExcName → Option Value} {mg mb : Str → Option Value} {A : Around} {s : Shared} {h₀ : Heap} {L : Addr} {m : Str → Option Value} {Q : Value → Shared → Prop} {E : Value → Shared → Prop} {news : List (Addr × Obj)}
theorem lexer_w {page : Str} {t : Tok} {pre rest : List (Addr × Obj)} (X : (Mine.Kc w.params).In h₀) (T : Top topProg lo me mg mb h₀) (CH : CodeHd h₀ 97 93) (F : Fr h₀ L s.heap m) (N : News h₀ L s.heap (pre ++ (93, tabObj #[]) :: rest)) (R : Rm A 5 20) (hxl : page.length ≤ 100) (hp : ∀ p ∈ pre, p.1 ≠ 93) (hr : ∀ p ∈ rest, p.1 ≠ 93)
    (h : ∀ h' tk fx x d sT sd f aL pb ps fd sl oD ocF odF fdF slF a b c e f' g' n0 n1 n2 tA, Fr h₀ L h' m →
      News h₀ L h' ((pb, listOf #[] n0) :: (d, lxD w.params 1 sT pb a b c e f' g' n1) :: (aL, listOf #[.int (0 : Nat) tA] n2) :: (x, instObj 77 d) :: (sT, ⟨.type "function", some sd, .func fd, sl⟩) :: (sd, oD) :: (f, ⟨ocF, odF, .func fdF, slF⟩) :: (pre ++ (93, tabObj ps) :: (rest ++ fx))) →
      (aL < f ∧ f < sT ∧ sT < sd ∧ sd < d ∧ d < x ∧ x < pb) → s.heap.objs.size ≤ d → NsO oD (fun y => if y = "read" then some (.ref f) else none) → RdOK w page fx f aL → (∀ p ∈ fx, p.1 ≠ d ∧ p.1 ≠ aL ∧ p.1 ≠ pb) → AllNe d (pre ++ (93, tabObj #[]) :: rest) → AllNe aL (pre ++ (93, tabObj #[]) :: rest) → AllNe pb (pre ++ (93, tabObj #[]) :: rest) →
      (∀ p ∈ fx, AllNe p.1 (pre ++ (93, tabObj #[]) :: rest)) → AllNe x (pre ++ (93, tabObj #[]) :: rest) → AllNe sT (pre ++ (93, tabObj #[]) :: rest) → AllNe sd (pre ++ (93, tabObj #[]) :: rest) → AllNe f (pre ++ (93, tabObj #[]) :: rest) → Q (.ref x) { s with heap := h', toks := tk }) :
    wpAny (model PySem.Challenge.rw_to0028_01.row.prog w) A (call (.ref 98) [.str page t]) Q E s := by
  have hm93 : (93, tabObj #[]) ∈ pre ++ (93, tabObj #[]) :: rest := List.mem_append_right _ (.head _)
  have g : Got w lo me mg mb h₀ s.heap [(93, tabObj #[])] := ⟨⟨X, T⟩, F.keep, fun p hp => by rw [List.mem_singleton.mp hp]; exact (N _ hm93).1, fun p hp => by rw [List.mem_singleton.mp hp]; exact (N _ hm93).2.2⟩
  refine wpAny_mono (lexer_c g (CH.keeps (hid_kp g)) R page t hxl) (fun v s' y => ?_) fun _ _ y => y.elim
  obtain ⟨h', tk, fx, x, d, sT, sd, f, aL, pb, rfl, rfl, hk, ⟨ps, h93⟩, hfx, hd, hal, hpb, hdz, hRD, L9⟩ := y
  obtain ⟨fix, ix, ⟨fd, sl, iS⟩, ⟨oD, iD, hD⟩, ⟨ocF, odF, fdF, slF, iF⟩, ⟨a, b, c, e, f', g', n1, dd⟩, ⟨tA, n2, al⟩, ⟨n0, pp⟩, ord, apart⟩ := L9
  obtain ⟨F', N'⟩ := led_set F N hk h93 hp hr
  have J : ∀ (D : Addr) (o : Obj), s.heap.get? D = none → h'.get? D = some o → ∀ nn, News h₀ L h' nn → News h₀ L h' ((D, o) :: nn) := fun D o hn e nn NN p hp => by
    rcases List.mem_cons.mp hp with rfl | hp
    · refine ⟨e, fun q => ?_, ?_⟩
      · obtain ⟨o', _, _, e', _⟩ := F.ns
        rw [show L = D from q.symm, hn] at e'; cases e'
      · cases q : h₀.get? D with
        | none => rfl
        | some o' => have := F.keep D o' q; rw [hn] at this; cases this
    · exact NN p hp
  have Nf : News h₀ L h' (pre ++ (93, tabObj ps) :: (rest ++ fx)) := fun p hp => by
    rcases List.mem_append.mp hp with hp | hp
    · exact N' p (List.mem_append_left _ hp)
    rcases List.mem_cons.mp hp with rfl | hp
    · exact N' _ (List.mem_append_right _ (.head _))
    rcases List.mem_append.mp hp with hp | hp
    · exact N' p (List.mem_append_right _ (.tail _ hp))
    · exact J p.1 p.2 (hfx p hp) (fix p hp) [] News.nil p (.head _)
  refine h h' tk fx x d sT sd f aL pb ps fd sl oD ocF odF fdF slF a b c e f' g' n0 n1 n2 tA F' (J _ _ hpb pp _ (J _ _ hd dd _ (J _ _ hal al _ (J _ _ (hfx _ ix) (fix _ ix) _ (J _ _ (hfx _ iS) (fix _ iS) _ (J _ _ (hfx _ iD) (fix _ iD) _ (J _ _ (hfx _ iF) (fix _ iF) _ Nf))))))) ord hdz hD hRD apart (allNe_of hd N) (allNe_of hal N) (allNe_of hpb N) (fun p hp => allNe_of (hfx p hp) N)
    (allNe_of (hfx _ ix) N) (allNe_of (hfx _ iS) N) (allNe_of (hfx _ iD) N) (allNe_of (hfx _ iF) N)
theorem inorder_w {page : Str} {x d sT sd f aL pb k n0 n1 n2 : Nat} {line : Int} {oD : Obj} {a b c e f' g' tA : Tok} {fd fdF : FuncData} {sl slF : Array (Option Value)} {fx : List (Addr × Obj)} {ocF : Value} {odF : Option Addr} {k' : Nat} {line' : Int} {ps : List Int}
    (X : (Mine.Kc w.params).In h₀) (T : Top topProg lo me mg mb h₀) (F : Fr h₀ L s.heap m)
    (N : News h₀ L s.heap ((pb, listOf #[] n0) :: (d, lxD w.params line sT pb a b c e f' g' n1) :: (aL, listOf #[.int k tA] n2) :: (x, instObj 77 d) :: (sT, ⟨.type "function", some sd, .func fd, sl⟩) :: (sd, oD) :: (f, ⟨ocF, odF, .func fdF, slF⟩) :: fx)) (R : Rm A 20 200) (S : Toks page k line ps k' line') (hl : ps.length ≤ 20)
    (o1 : aL < f) (o2 : f < sT) (o3 : sT < sd) (o4 : sd < d) (o5 : d < x) (o6 : x < pb) (hD : NsO oD (fun y => if y = "read" then some (.ref f) else none)) (RD : RdOK w page fx f aL) (ap1 : ∀ p ∈ fx, p.1 ≠ d) (ap2 : ∀ p ∈ fx, p.1 ≠ aL)
    (h : ∀ h' tk r nr (vs : List Value) aa bb cc ee ff gg nn tt mm, Fr h₀ L h' m → News h₀ L h' ((r, listOf vs.toArray nr) :: (pb, listOf #[] n0) :: (d, lxD w.params line' sT pb aa bb cc ee ff gg nn) :: (aL, listOf #[.int k' tt] mm) :: (x, instObj 77 d) :: (sT, ⟨.type "function", some sd, .func fd, sl⟩) :: (sd, oD) :: (f, ⟨ocF, odF, .func fdF, slF⟩) :: fx) →
      IntsAre vs (insAll [] ps) → AllNe r ((pb, listOf #[] n0) :: (d, lxD w.params line sT pb a b c e f' g' n1) :: (aL, listOf #[.int k tA] n2) :: (x, instObj 77 d) :: (sT, ⟨.type "function", some sd, .func fd, sl⟩) :: (sd, oD) :: (f, ⟨ocF, odF, .func fdF, slF⟩) :: fx) → Q (.ref r) { s with heap := h', toks := tk }) :
    wpAny (model PySem.Challenge.rw_to0028_01.row.prog w) A (call (.ref 124) [.ref x]) Q E s := by
  refine wpAny_mono (inorder_c (h₀ := h₀) ⟨⟨X, T⟩, F.keep, fun p hp => (N p hp).1, fun p hp => (N p hp).2.2⟩ R S hl o1 o2 o3 o4 o5 o6 hD RD ap1 ap2) (fun v s' y => ?_) fun _ _ y => y.elim
  obtain ⟨h', t2, r, nr, vs, tk', n', a', b', c', e', f'', g'', n1', rfl, rfl, hkk, hal, hdd', hrn, hre, hI⟩ := y
  obtain ⟨F', N'⟩ := led_two (pre := [(pb, listOf #[] n0)]) F N hkk hal hdd' (List.forall_mem_cons.mpr ⟨⟨Nat.ne_of_gt (by kqd_sub), Nat.ne_of_gt (by kqd_sub)⟩, List.forall_mem_nil _⟩)
        (List.forall_mem_cons.mpr ⟨⟨Nat.ne_of_gt (by kqd_sub), Nat.ne_of_gt (by kqd_sub)⟩, List.forall_mem_cons.mpr ⟨⟨Nat.ne_of_gt (by kqd_sub), Nat.ne_of_lt (by kqd_sub)⟩, List.forall_mem_cons.mpr ⟨⟨Nat.ne_of_gt (by kqd_sub), Nat.ne_of_lt (by kqd_sub)⟩, List.forall_mem_cons.mpr ⟨⟨Nat.ne_of_gt (by kqd_sub), Nat.ne_of_lt (by kqd_sub)⟩, fun p hp => ⟨ap2 p hp, ap1 p hp⟩⟩⟩⟩⟩)
  refine h h' t2 r nr vs a' b' c' e' f'' g'' n1' tk' n' F' (fun p hp => ?_) hI (allNe_of hrn N)
  rcases List.mem_cons.mp hp with rfl | hp
  · refine ⟨hre, fun q => ?_, ?_⟩
    · obtain ⟨o', _, _, e', _⟩ := F.ns
      rw [show L = r from q.symm, hrn] at e'; cases e'
    · cases q : h₀.get? r with
      | none => rfl
      | some o' => have := F.keep r o' q; rw [hrn] at this; cases this
  · exact N' p hp
end

end

section
inductive ToldC (own : List (Addr × Obj)) : List Value → List (List Int) → Prop
  | nil : ToldC own [] []
  | cons {vi : List Value} {ds : List (List Int)} {a q : Nat} {vs : List Value} {xs : List Int} : (a, listOf vs.toArray q) ∈ own → IntsAre vs xs → ToldC own vi ds → ToldC own (.ref a :: vi) (xs :: ds)
theorem ToldC.snoc {own : List (Addr × Obj)} {vi : List Value} {ds : List (List Int)} {a q : Nat} {vs : List Value} {xs : List Int} (h : ToldC own vi ds) (hm : (a, listOf vs.toArray q) ∈ own) (hI : IntsAre vs xs) : ToldC own (vi ++ [.ref a]) (ds ++ [xs]) := by
  induction h with
  | nil => exact .cons hm hI .nil
  | cons hm' hI' _ ih => exact .cons hm' hI' ih
theorem ToldAt.c {own : List (Addr × Obj)} {vi : List Value} {ds : List (List Int)} (h : ToldAt own vi ds) : ToldC own vi ds := by
  induction h with
  | nil => exact .nil
  | snoc _ hm hI ih => exact ih.snoc hm hI
theorem told_six {own : List (Addr × Obj)} {vi : List Value} {x0 x1 x2 x3 x4 x5 : List Int} (h : ToldC own vi [x0, x1, x2, x3, x4, x5]) : ∃ (a0 a1 a2 a3 a4 a5 q0 q1 q2 q3 q4 q5 : Nat) (v0 v1 v2 v3 v4 v5 : List Value),
    vi = [.ref a0, .ref a1, .ref a2, .ref a3, .ref a4, .ref a5] ∧ ((a0, listOf v0.toArray q0) ∈ own ∧ IntsAre v0 x0) ∧ ((a1, listOf v1.toArray q1) ∈ own ∧ IntsAre v1 x1) ∧ ((a2, listOf v2.toArray q2) ∈ own ∧ IntsAre v2 x2) ∧ ((a3, listOf v3.toArray q3) ∈ own ∧ IntsAre v3 x3) ∧
    ((a4, listOf v4.toArray q4) ∈ own ∧ IntsAre v4 x4) ∧ ((a5, listOf v5.toArray q5) ∈ own ∧ IntsAre v5 x5) := by
  cases h with
  | cons m0 i0 h => cases h with
    | cons m1 i1 h => cases h with
      | cons m2 i2 h => cases h with
        | cons m3 i3 h => cases h with
          | cons m4 i4 h => cases h with
            | cons m5 i5 h => cases h with
              | nil => exact ⟨_, _, _, _, _, _, _, _, _, _, _, _, _, _, _, _, _, _, rfl, ⟨m0, i0⟩, ⟨m1, i1⟩, ⟨m2, i2⟩, ⟨m3, i3⟩, ⟨m4, i4⟩, ⟨m5, i5⟩⟩
section
variable {w : World} {lo : List Str} {me : ExcName → Option Value} {mg mb : Str → Option Value} {A : Around} {s : Shared} {h₀ : Heap} {L : Addr} {m : Str → Option Value} {Q : Value → Shared → Prop} {E : Value → Shared → Prop} {news : List (Addr × Obj)}
theorem turns_w {x d sT pb n0 n1 l : Nat} {line : Int} {a b c e f' g' : Tok} {vs : List Value} {xs : List Int} {rest : List (List Int)} (X : (Mine.Kc w.params).In h₀) (T : Top topProg lo me mg mb h₀) (CH : CodeHd h₀ 142 140) (F : Fr h₀ L s.heap m) (N : News h₀ L s.heap news)
    (mpb : (pb, listOf #[] n0) ∈ news) (md : (d, lxD w.params line sT pb a b c e f' g' n1) ∈ news) (mx : (x, instObj 77 d) ∈ news) (mt : (140, tabObj #[]) ∈ news) (R : Rm A 30 300) (o1 : d < x) (o2 : x < pb) (o0 : 140 < d)
    (hl : s.heap.IsList l vs.toArray) (hl1 : l ≠ pb) (hl2 : l ≠ d) (hl3 : l ≠ x) (hl4 : l ≠ 140) (hI : IntsAre vs xs) (k0 : Chain xs rest) (hlen5 : rest.length = 5)
    (h : ∀ h' tk gens' tD nt np vi own ps, (AllBare s.gens → AllBare gens') → Fr h₀ L h' m → (∀ p ∈ news, p.1 ≠ pb → p.1 ≠ 140 → h'.get? p.1 = some p.2 ∧ p.1 ≠ L ∧ h₀.get? p.1 = none) → News h₀ L h' [(pb, listOf #[] np), (140, tabObj ps)] → News h₀ L h' own → (tD, listOf (List.toArray vi) nt) ∈ own → ToldAt own vi (xs :: rest) → (∀ p ∈ own, ∀ q ∈ news, q.1 ≠ pb → q.1 ≠ d → q.1 ≠ x → q.1 ≠ 140 → p.1 ≠ q.1) →
      Q (.ref tD) { s with heap := h', toks := tk, gens := gens' }) :
    wpAny (model PySem.Challenge.rw_to0028_01.row.prog w) A (call (.ref 150) [.ref x, .ref l]) Q E s := by
  have sub : ∀ p ∈ [(pb, listOf #[] n0), (d, lxD w.params line sT pb a b c e f' g' n1), (x, instObj 77 d), (140, tabObj #[])], p ∈ news := List.forall_mem_cons.mpr ⟨mpb, List.forall_mem_cons.mpr ⟨md, List.forall_mem_cons.mpr ⟨mx, List.forall_mem_cons.mpr ⟨mt, List.forall_mem_nil _⟩⟩⟩⟩
  have g : Got w lo me mg mb h₀ s.heap [(pb, listOf #[] n0), (d, lxD w.params line sT pb a b c e f' g' n1), (x, instObj 77 d), (140, tabObj #[])] := ⟨⟨X, T⟩, F.keep, fun p hp => (N p (sub p hp)).1, fun p hp => (N p (sub p hp)).2.2⟩
  have nm : ∀ q : Addr, q ≠ pb → q ≠ d → q ≠ x → q ≠ 140 → q ∉ [(pb, listOf #[] n0), (d, lxD w.params line sT pb a b c e f' g' n1), (x, instObj 77 d), (140, tabObj #[])].map (·.1) := fun q h1 h2 h3 h4 hm => by
    simp only [List.map_cons, List.map_nil, List.mem_cons, List.not_mem_nil, or_false] at hm
    rcases hm with h | h | h | h
    · exact h1 h
    · exact h2 h
    · exact h3 h
    · exact h4 h
  have hlh : (hid s.heap [(pb, listOf #[] n0), (d, lxD w.params line sT pb a b c e f' g' n1), (x, instObj 77 d), (140, tabObj #[])]).IsList l vs.toArray := by
    obtain ⟨o, e, r⟩ := hl
    exact ⟨o, hideAll_get _ e (nm l hl1 hl2 hl3 hl4), r⟩
  refine wpAny_mono (turns_c g (CH.keeps (hid_kp g)) R o1 o2 o0 hlh hI k0 hlen5) (fun v s' y => ?_) fun _ _ y => y.elim
  obtain ⟨h', t2, gens', tD, nt, np, vi, own, ps, rfl, rfl, hb, hk, epb, e140, hm, hown, hT⟩ := y
  have Npb := N _ mpb
  have N140 := N _ mt
  have Lpb : L ≠ pb := Ne.symm Npb.2.1
  have L140 : L ≠ 140 := Ne.symm N140.2.1
  have b0 : ∀ b o, h₀.get? b = some o → b ≠ pb ∧ b ≠ 140 := fun b o e => ⟨fun q => (by have := Npb.2.2; dsimp only at this; rw [← q, e] at this; cases this), fun q => (by have := N140.2.2; dsimp only at this; rw [← q, e] at this; cases this)⟩
  refine h h' t2 gens' tD nt np vi own ps hb ⟨F.ns.at' fun o e => hk _ o Lpb L140 e, fun b o e => hk b o (b0 b o e).1 (b0 b o e).2 (F.keep b o e), F.above⟩ (fun p hp h1 h2 => ⟨hk _ _ h1 h2 (N p hp).1, (N p hp).2⟩)
    (List.forall_mem_cons.mpr ⟨⟨epb, Npb.2⟩, List.forall_mem_cons.mpr ⟨⟨e140, N140.2⟩, List.forall_mem_nil _⟩⟩) (fun p hp => ⟨(hown p hp).1, fun q => ?_, ?_⟩) hm hT fun p hp q hq na nb nc nd epq => ?_
  · obtain ⟨oL, es, ep, eL, _⟩ := F.ns
    have := hideAll_get (l := [(pb, listOf #[] n0), (d, lxD w.params line sT pb a b c e f' g' n1), (x, instObj 77 d), (140, tabObj #[])].map (·.1)) eL (nm L Lpb (Ne.symm (N _ md).2.1) (Ne.symm (N _ mx).2.1) L140)
    have h2 := (hown p hp).2
    rw [q] at h2
    rw [show hideAll s.heap _ = hid s.heap _ from rfl, h2] at this
    cases this
  · cases q : h₀.get? p.1 with
    | none => rfl
    | some o => have := hid_kp g _ _ q; rw [(hown p hp).2] at this; cases this
  · have h1 : (hid s.heap [(pb, listOf #[] n0), (d, lxD w.params line sT pb a b c e f' g' n1), (x, instObj 77 d), (140, tabObj #[])]).get? q.1 = some q.2 := hideAll_get _ (N q hq).1 (nm q.1 na nb nc nd)
    have h2 := (hown p hp).2
    rw [epq, h1] at h2
    cases h2
end
theorem Toks.last {page : Str} {k : Nat} {line : Int} {ps : List Int} {k' : Nat} {line' : Int} (h : Toks page k line ps k' line') : k' ≤ 90 ∧ Sh page k' line' (Str.ofString "") k' line' := by
  induction h with
  | nil _ _ h3 h4 => exact ⟨h3, .at0 (.done h4)⟩
  | cons _ _ _ _ _ ih => exact ih
/-- each row of the told -/
theorem row_of {a0 a1 a2 a3 a4 a5 : Nat} {i : Nat} {v : Value} {P : Nat → Nat → Prop} (h : ([.ref a0, .ref a1, .ref a2, .ref a3, .ref a4, .ref a5] : List Value)[i]? = some v) (p0 : P 0 a0) (p1 : P 1 a1) (p2 : P 2 a2) (p3 : P 3 a3) (p4 : P 4 a4) (p5 : P 5 a5) : ∃ a, v = .ref a ∧ P i a := by
  match i with
  | 0 => cases h; exact ⟨_, rfl, p0⟩
  | 1 => cases h; exact ⟨_, rfl, p1⟩
  | 2 => cases h; exact ⟨_, rfl, p2⟩
  | 3 => cases h; exact ⟨_, rfl, p3⟩
  | 4 => cases h; exact ⟨_, rfl, p4⟩
  | 5 => cases h; exact ⟨_, rfl, p5⟩
  | n + 6 => cases h
def RowAt (news : List (Addr × Obj)) (S : Int) (a : Nat) : Prop := ∃ q vv xx, (a, listOf (List.toArray vv) q) ∈ news ∧ IntsAre vv xx ∧ xx.sum = S ∧ isort xx = xx ∧ xx.length ≤ 19
theorem rowAt_of {news : List (Addr × Obj)} {S : Int} {a q : Nat} {vv : List Value} {x y : List Int} (hm : (a, listOf (List.toArray vv) q) ∈ news) (hI : IntsAre vv x) (ok : stepb S x y = true) : RowAt news S a :=
  ⟨q, vv, x, hm, hI, (stepb_ok ok).2.1, (stepb_ok ok).2.2.1, (stepb_ok ok).1.hz⟩
theorem News.dup {h₀ h : Heap} {L : Addr} {p : Addr × Obj} {news : List (Addr × Obj)} (N : News h₀ L h news) (hm : p ∈ news) : News h₀ L h (p :: news) := fun q hq => by
  rcases List.mem_cons.mp hq with rfl | hq
  · exact N _ hm
  · exact N _ hq
section
variable {prog : Program} {w : World} {A : Around} {s : Shared} {l : Addr} {vs : List Value} {ns : List Int} {Q : Value → Shared → Prop} {E : Value → Shared → Prop}
theorem sum_kp (hh : A.handled = none) (hl : s.heap.IsList l vs.toArray) (hi : IntsAre vs ns) (h : ∀ h' tk t', Kp s.heap h' → Q (.int ns.sum t') { s with heap := h', toks := tk }) :
    wpAny (model prog w) A (call (.builtin "sum") [.ref l]) Q E s := by
  obtain ⟨xs, e⟩ := hi.allInts.items
  rw [e] at hl
  have e2 := hi.numsOf
  rw [show vs = (intItems xs).toList by rw [← e], nums_intItems] at e2
  refine sum_intListG hh hl fun h' tk t' hk => ?_
  rw [preSum_eq, List.take_of_length_le (by simp), e2]
  exact h h' tk t' hk
theorem sort_kp (hl : s.heap.IsList l vs.toArray) (hi : IntsAre vs ns) (h64 : ns.length < 64)
    (h : ∀ h' D vs' c, Kp s.heap h' → s.heap.objs.size ≤ D → h'.get? D = some (listOf (List.toArray vs') c) → IntsAre vs' (isort ns) → Q (.ref D) { s with heap := h' }) :
    wpAny (model prog w) A (call (.builtin "sorted") [.ref l]) Q E s := by
  refine sorted_ints hl hi (by rw [hi.length]; exact h64) fun out ns' a1 a2 a3 => ?_
  obtain ⟨e, he⟩ := sortedAll_at s.heap vs out
  rw [sorted_isort a2 a3] at a1
  exact h _ _ out.toList e (fun _ _ => sortedAll_old) (Nat.le_succ _) he a1
end
def LeanAt (news : List (Addr × Obj)) (xs : List (List Int)) (i a : Nat) : Prop := ∃ q vv xx, (a, listOf (List.toArray vv) q) ∈ news ∧ IntsAre vv xx ∧ xs[i]? = some xx ∧ xx.length ≤ 64 ∧ ∀ x ∈ xx, 0 ≤ x ∧ x ≤ 64
theorem leanAt_of {news : List (Addr × Obj)} {S : Int} {a q i : Nat} {vv : List Value} {x y : List Int} {xs : List (List Int)} (hm : (a, listOf (List.toArray vv) q) ∈ news) (hI : IntsAre vv x) (ok : stepb S x y = true) (e : xs[i]? = some x) : LeanAt news xs i a :=
  ⟨q, vv, x, hm, hI, e, Nat.le_trans (stepb_ok ok).1.hz (by decide), (stepb_ok ok).1.hx⟩
theorem ints_lean {xs : List (List Int)} {ys : List Value} {i : Nat} {x : List Int} (h : IntsAre ys ((xs.take i).map leanF)) (e : xs[i]? = some x) (t : Tok) : IntsAre (ys ++ [.int (leanF x) t]) ((xs.take (i + 1)).map leanF) := by
  rw [List.take_add_one, e, List.map_append]
  exact ints_snoc h _ t
theorem lean_zero {S : Int} {x0 x1 x2 x3 x4 : List Int} (c : Cyc S x0 x1 x2 x3 x4) {i : Nat} (hi : i < 5) :
    Int.fmod (List.getD [leanF x0, leanF x1, leanF x2, leanF x3, leanF x4, leanF x0] (Int.toNat (0 + (i : Int))) 0 - List.getD [leanF x0, leanF x1, leanF x2, leanF x3, leanF x4, leanF x0] (Int.toNat (0 + (i : Int) + 1)) 0 - 1) 5 = 0 := by
  match i, hi with
  | 0, _ => exact (stepb_ok c.a0).2.2.2.1
  | 1, _ => exact (stepb_ok c.a1).2.2.2.1
  | 2, _ => exact (stepb_ok c.a2).2.2.2.1
  | 3, _ => exact (stepb_ok c.a3).2.2.2.1
  | 4, _ => exact (stepb_ok c.a4).2.2.2.1

end

section
theorem part_law : True := by
  w_top off
  exact trivial
local macro_rules | `(tactic| walk_at "pad") => `(tactic| fail)
local macro_rules | `(tactic| walk_at "pad") => `(tactic| fail)
local macro_rules | `(tactic| walk_at "pad") => `(tactic| fail)
local macro_rules | `(tactic| walk_at "pad") => `(tactic| fail)
local macro_rules | `(tactic| walk_at "pad") => `(tactic| fail)
local macro_rules | `(tactic| walk_at "pad") => `(tactic| fail)
/-- the end that this law comes to: the model's good end on a state with the same heap, whose finished generators are bare, and the tables grown -/
def EndB (cw : ClaimW) (cl : Str → Option Addr) (mean : ExcName → Option Value) (args : List WData) (s₁ : Shared) (tabs : List (Addr × Addr)) (r : Result) (s' : Shared) : Prop :=
  ∃ s'', GoodW cw cl mean args { s₁ with heap := ghostOf s₁.heap tabs } r s'' ∧ s''.heap = s'.heap ∧ s''.os = s'.os ∧ AllBare s'.gens ∧ GrownAll tabs s'.heap
theorem EndB.of {cw : ClaimW} {cl : Str → Option Addr} {mean : ExcName → Option Value} {args : List WData} {s₁ : Shared} {tabs : List (Addr × Addr)} {r : Result} {h' : Heap} {g : Array GenState} {dr : Drawn} {tk : Nat} {o : OsState}
    (h : GoodW cw cl mean args { s₁ with heap := ghostOf s₁.heap tabs } r { heap := h', gens := #[], drawn := dr, toks := tk, os := o }) (hb : AllBare g) (hg : GrownAll tabs h') : EndB cw cl mean args s₁ tabs r { heap := h', gens := g, drawn := dr, toks := tk, os := o } :=
  ⟨{ heap := h', gens := #[], drawn := dr, toks := tk, os := o }, h, rfl, rfl, hb, hg⟩
theorem kn_postB {M : Model} {A : Around} {cd : Code} {s s₁ : Shared} {cw : ClaimW} {cl : Str → Option Addr} {mean : ExcName → Option Value} {args : List WData} {tabs : List (Addr × Addr)} (hT : TabsAt tabs s₁.heap) (hr : ∀ a x, cw.raises a x = false)
    (h : codeAny M A cd (EndB cw cl mean args s₁ tabs) s) : codeAny M A cd (GoodWG cw cl mean args s₁) s :=
  codeAny_mono h fun r s' ⟨s'', ⟨hc, hk, hos, hg⟩, e1, e2, hab, hgr⟩ => by
    rw [e1] at hc hk
    rw [e2] at hos
    have keep : ∀ b o, b ∉ tabs.map (·.2) → s₁.heap.get? b = some o → s'.heap.get? b = some o := fun b o hb e => hk b o (ghost_ne e hb)
    have grown : ∀ b o, b ∈ tabs.map (·.2) → s₁.heap.get? b = some o → isCodeTable s₁.heap b ∧ o = tabObj #[] ∧ ∃ ps, s'.heap.get? b = some (tabObj ps) := fun b o hb e => by
      obtain ⟨q, hq, rfl⟩ := List.mem_map.mp hb
      have e2 := (hT q hq).2
      rw [e] at e2
      exact ⟨((hT q hq).1.tab (hT q hq).2).isCodeTable, Option.some.inj e2, hgr.get q hq⟩
    refine ⟨?_, ⟨fun b o e => ?_, fun b o e => ?_⟩, hos, hab⟩
    · rcases hc with ⟨v, d, as, r1, r2, r3, r4, r5⟩ | ⟨e, ob, x, _, _, _, r4, _⟩
      · refine .inl ⟨v, d, as, r1, r2, r3, r4, fun q => ⟨(r5 q).1, fun a ha => ?_⟩⟩
        cases q1 : s₁.heap.get? a with
        | none => rfl
        | some o =>
          by_cases hb : a ∈ tabs.map (·.2)
          · obtain ⟨_, _, ps, hP⟩ := grown a o hb q1
            exact absurd ha (readsW_apart hP rfl r3)
          · have e3 := (r5 q).2 a ha
            rw [show (ghostOf s₁.heap tabs).get? a = some o from ghost_ne q1 hb] at e3
            cases e3
      · rw [hr] at r4; cases r4
    · by_cases hb : b ∈ tabs.map (·.2)
      · obtain ⟨ht, rfl, ps, hP⟩ := grown b o hb e
        exact .inr (.inl ⟨ht, rfl, #[], ps, rfl, by rw [Array.empty_append]; exact hP⟩)
      · exact .inl (keep b o hb e)
    · by_cases hb : b ∈ tabs.map (·.2)
      · obtain ⟨_, _, ps, hP⟩ := grown b o hb e
        exact ⟨_, hP⟩
      · exact ⟨o, keep b o hb e⟩
theorem lookup_less {l : Frag} : ∀ {a : Addr} {o : Obj}, l.dropLast.lookup a = some o → l.lookup a = some o := by
  induction l with
  | nil => intro a o e; exact e
  | cons p r ih =>
    intro a o e
    cases r with
    | nil => cases e
    | cons q r =>
      rw [List.dropLast_cons_cons] at e
      obtain ⟨b, x⟩ := p
      rw [List.lookup_cons] at e ⊢
      split at e
      · exact e
      · exact ih e
theorem in_less {K K' : Frag} {h : Heap} (X : K.In h) (e : K' = K.dropLast) : K'.In h := fun a o ea => X a o (by rw [e] at ea; exact lookup_less ea)
theorem rmL {env : Env} {d u : Nat} (h1 : d ≤ 30) (h2 : u ≤ 300) : Rm (callerA.deeper env) d u := ⟨rfl, Nat.lt_of_le_of_lt (Nat.add_le_add_left h1 _) (show 1 + claimMargin + 1 + 30 < recursionLimit by decide +kernel), Nat.lt_of_le_of_lt (Nat.add_le_add_left h2 _) (show 4 + 3 + 300 < cLine by decide +kernel)⟩
section
local macro_rules | `(tactic| walk_at "call builtin:sum") => `(tactic| (k_here; refine stop ?_))
local macro_rules | `(tactic| walk_at "call type:range") => `(tactic| (k_here; (with_reducible show wpAny _ _ (call _ _) (fun xv s₁ => wpAny _ _ (pyIter xv) (CompAt _ _ _ _ _ _ _ _ _ _ _) _ s₁) _ _); refine stop ?_))
local macro_rules | `(tactic| kn_posts) => `(tactic| refine kn_postB (by assumption) (fun _ _ => rfl) ?_)
local macro_rules | `(tactic| k_ne) => `(tactic| (first | (refine Apart.l ?_; (try dsimp only); with_reducible assumption) | (refine Apart.r ?_; (try dsimp only); with_reducible assumption)))
local macro_rules | `(tactic| walk_at "call builtin:len") => `(tactic| (k_here; refine stop ?_))
local macro_rules | `(tactic| walk_at "call builtin:sorted") => `(tactic| (k_here; refine stop ?_))
local macro_rules | `(tactic| walk_at "call ref") => `(tactic| (k_here; refine stop ?_))
theorem law_main.tw5134795769707920985 : True := trivial
theorem law_main.tw3523997080624758908 : True := trivial
theorem law_main.tw1145593773868255878 : True := trivial
theorem law_main.tw10230735740041196917 : True := trivial
theorem law_main.tw17087024262072620663 : True := trivial
theorem law_main.tw7175247201933843960 : True := trivial
theorem law_main.tw13177359441345021608 : True := trivial
theorem law_main.tw12432251705218270710 : True := trivial
theorem law_main.tw11929892378161673143 : True := trivial
theorem law_main.tw7366868828155289065 : True := trivial
theorem law_main.tw6507775789197126563 : True := trivial
theorem law_main.tw1886267683660728072 : True := trivial
theorem law_main.tw12080816583209408913 : True := trivial
theorem law_main.tw6911965145317334431 : True := trivial
theorem law_main.tw3021161606810881396 : True := trivial
theorem law_main.tw13743304894672010325 : True := trivial
theorem law_main.tw4106737135158533645 : True := trivial
theorem law_main.tw13410744797433300967 : True := trivial
theorem law_main.tw16641658687431160304 : True := trivial
theorem law_main.tw15696711027295579848 : True := trivial
theorem law_main.tw9426311698547362514 : True := trivial
theorem law_main.tw8158384327203623158 : True := trivial
theorem law_main.tw5110643204526610549 : True := trivial
theorem law_main.tw3195618915262806641 : True := trivial
theorem law_main.tw15193174626245992110 : True := trivial
theorem law_main.tw6489876347386804070 : True := trivial
theorem law_main.tw13158996258426225200 : True := trivial
theorem law_main.tw14061317263530931702 : True := trivial
theorem law_main.tw15435689404240984815 : True := trivial
theorem law_main.tw9270046347867286811 : True := trivial
theorem law_main.tw3924391508466944231 : True := trivial
theorem law_main.tw13212550689137224838 : True := trivial
theorem law_main.tw2392245640518502878 : True := trivial
theorem law_main.tw10872688426167335000 : True := trivial
theorem law_main.tw16701364666607456501 : True := trivial
theorem law_main.tw12731874653704580340 : True := trivial
theorem law_main.tw12367322884079782491 : True := trivial
theorem law_main.tw12155688874969098221 : True := trivial
theorem law_main.tw12807018679685582186 : True := trivial
theorem law_main.tw16054500444634001434 : True := trivial
theorem law_main.tw781019644868853921 : True := trivial
theorem law_main.tw4469978911400333188 : True := trivial
theorem law_main.tw2146275224559122111 : True := trivial
theorem law_main.tw5657269846823442647 : True := trivial
theorem law_main.tw10643224799968189688 : True := trivial
theorem law_main.tw6688468369064155325 : True := trivial
theorem law_main.tw13733688260295542559 : True := trivial
theorem law_main.tw5456437162019150279 : True := trivial
theorem law_main.tw16049186466863839474 : True := trivial
theorem law_main.tw8114675538437255128 : True := trivial
theorem law_main.tw3684041266594551646 : True := trivial
theorem law_main.tw13166175868067314516 : True := trivial
theorem law_main.tw13494863479825066927 : True := trivial
theorem law_main.tw17139840320656875503 : True := trivial
theorem law_main.tw400879596904773353 : True := trivial
theorem law_main.tw4490709545114356312 : True := trivial
theorem law_main.tw15422167041202342230 : True := trivial
theorem law_main.tw1303358117766163559 : True := trivial
theorem law_main.tw11673154931870055305 : True := trivial
theorem law_main.tw6972923202651475832 : True := trivial
theorem law_main.tw9326305028756454253 : True := trivial
theorem law_main.tw959487037166674673 : True := trivial
theorem law_main.tw6833777438145440775 : True := trivial
theorem law_main.tw1310812633317535026 : True := trivial
theorem law_main.tw670352351605735171 : True := trivial
theorem law_main.tw15573812918238556634 : True := trivial
theorem law_main.tw17894045751029584932 : True := trivial
theorem law_main.tw9890656193443190882 : True := trivial
theorem law_main.tw12588697102615473234 : True := trivial
theorem law_main.tw11187583078992109907 : True := trivial
theorem law_main.tw4453874516444154312 : True := trivial
theorem law_main.tw5915535575383643179 : True := trivial
theorem law_main.tw7558351658216449949 : True := trivial
theorem law_main.tw4662259413225237151 : True := trivial
theorem law_main.tw12523247287805688602 : True := trivial
theorem law_main.tw17151216946866669101 : True := trivial
theorem law_main.tw7965756669043804834 : True := trivial
theorem law_main.tw5277089371198760600 : True := trivial
theorem law_main.tw10786171648791691715 : True := trivial
theorem law_main.tw12432885193953334089 : True := trivial
theorem law_main.tw15266619242901897438 : True := trivial
theorem law_main.tw6310285543953168118 : True := trivial
theorem law_main.tw12847597975321103634 : True := trivial
theorem law_main.tw16883744741543859831 : True := trivial
theorem law_main.tw2532515870888452220 : True := trivial
theorem law_main.tw9592294938987003321 : True := trivial
theorem law_main.tw6819947958596706653 : True := trivial
theorem law_main.tw8021745972451297138 : True := trivial
theorem law_main.tw5225011579016758665 : True := trivial
theorem law_main.tw8836979040123746042 : True := trivial
theorem law_main.tw7522505258732067809 : True := trivial
theorem law_main.tw8301434076310847675 : True := trivial
theorem law_main.tw17037347042100133267 : True := trivial
theorem law_main.tw831747521400388689 : True := trivial
theorem law_main.tw9197974758214243299 : True := trivial
theorem law_main.tw17854344053548254826 : True := trivial
theorem law_main.tw1616937874273478981 : True := trivial
theorem law_main.tw8931976437079329236 : True := trivial
theorem law_main.tw5567308350407831916 : True := trivial
theorem law_main.tw1706564232217015446 : True := trivial
theorem law_main.tw11865086303149753202 : True := trivial
theorem law_main.tw9326545966430228865 : True := trivial
theorem law_main.tw12787793619100741020 : True := trivial
theorem law_main.tw15907958908374375734 : True := trivial
theorem law_main.tw4311112728919163520 : True := trivial
theorem law_main.tw11027507736909729814 : True := trivial
theorem law_main.tw17368169931878646554 : True := trivial
theorem law_main.tw7153252769426735764 : True := trivial
theorem law_main.tw1956967045709578994 : True := trivial
theorem law_main.tw17089030230274127688 : True := trivial
theorem law_main.tw9717091946391871061 : True := trivial
theorem law_main.tw13223271993750682384 : True := trivial
theorem law_main.tw16816693619920311314 : True := trivial
theorem law_main.tw15147513938873241760 : True := trivial
theorem law_main.tw15612462863219608634 : True := trivial
theorem law_main.tw7740449721845060590 : True := trivial
theorem law_main.tw8439756127740942094 : True := trivial
theorem law_main.tw1822880698606447936 : True := trivial
theorem law_main.tw2566805764788308867 : True := trivial
theorem law_main.tw14852190230791651943 : True := trivial
theorem law_main.tw12130933025563133720 : True := trivial
theorem law_main.tw7565586166271477107 : True := trivial
theorem law_main.tw9521140960532336315 : True := trivial
theorem law_main.tw9045028375589228301 : True := trivial
theorem law_main.tw502566766102080955 : True := trivial
theorem law_main.tw10881453890103974140 : True := trivial
theorem law_main.tw8820042682005523393 : True := trivial
theorem law_main.tw3793422112583817507 : True := trivial
theorem law_main.tw7467650648788495577 : True := trivial
theorem law_main.tw17697154268063975738 : True := trivial
theorem law_main.tw15349631616040032352 : True := trivial
theorem law_main.tw1577597359431081712 : True := trivial
theorem law_main.tw4286670451129054371 : True := trivial
theorem law_main.tw5673109901415519642 : True := trivial
theorem law_main.tw17765507678589190047 : True := trivial
theorem law_main.tw18410261702293062621 : True := trivial
theorem law_main.tw8711080293583665415 : True := trivial
theorem law_main.tw4401633632119614206 : True := trivial
theorem law_main.tw2483461438445054578 : True := trivial
theorem law_main.tw14238313309902607001 : True := trivial
theorem law_main.tw16905197365965161809 : True := trivial
theorem law_main.tw9370678825490581806 : True := trivial
theorem law_main.tw5482282589608222830 : True := trivial
theorem law_main.tw13549663157172779975 : True := trivial
theorem law_main.tw6542496317293267545 : True := trivial
theorem law_main.tw17399555652478548588 : True := trivial
theorem law_main.tw9602263878568307332 : True := trivial
theorem law_main.tw13870453677455058880 : True := trivial
theorem law_main.tw16817226997381757417 : True := trivial
theorem law_main.tw6203637219401983604 : True := trivial
theorem law_main.tw10926388693480928781 : True := trivial
theorem law_main.tw3089087230457354089 : True := trivial
theorem law_main.tw13417337573120759379 : True := trivial
theorem law_main.tw12041544693149142044 : True := trivial
set_option maxHeartbeats 8000000 in
set_option Elab.async true in
theorem law_main : PySem.Challenge.rw_to0028_01.Holds := by
  w_on
  o_law
  k_head
  case hw => w_witness2
  k_go0
  all_goals try k_fold
  k_steps
  refine unstop ?_
  rename News _ _ _ _ => N1
  rename Fr _ _ _ _ => F1
  rename Frag.In _ _ => X0
  have X := in_less (K' := Mine.Kc _) X0 rfl
  rename Top _ _ _ _ _ (ghostOf _ _) => T
  rename CodeHd _ (Prod.fst (142, 140)) _ => CH1
  rename CodeHd _ (Prod.fst (97, 93)) _ => CH2
  replace CH1 : CodeHd _ 142 140 := CH1
  replace CH2 : CodeHd _ 97 93 := CH2
  rename IntsAre _ _ => hIn
  rename Heap.IsList (ghostOf _ _) _ _ => hLn
  rename ¬ ((63 : Nat) : Int) < _ => h63
  refine cells_w X T F1 N1 (rmL (by decide) (by decide)) hIn (hLn.at fun o e => F1.keep _ o e) (by omega) (os := [3, 6, 0, 8, 1]) (.cons _ _ (.cons _ _ (.cons _ _ (.cons _ _ (.cons _ _ .nil))))) (News.isList N1 (.head _)) rfl (by decide) ?_
  intro h2 tk2 D1 vs1 cs1 k1 F2 N2 ne2 hI1 hl1 hb1
  clear F1 N1
  replace ne2 := allAp_of ne2
  simp only [AllAp, and_true] at ne2
  obtain ⟨e21, e22, e23, e24, e25⟩ := ne2
  have hP := plain_ok hl1
  k_steps
  refine unstop ?_
  rename News _ _ _ _ => N3
  rename Fr _ _ _ _ => F3
  refine words_w X T F3 N3 (rmL (by decide) (by decide)) hI1 (News.isList N3 (.head _)) hl1 hb1 ?_
  intro h4 tk4 D2 wv k2 tl F4 N4 ne4 htl hW
  clear F3 N3
  simp only [List.cons_append, List.nil_append] at N4
  replace ne4 := allAp_of ne4
  simp only [AllAp, and_true] at ne4
  obtain ⟨e41, e42, e43, e44, e45, e46⟩ := ne4
  generalize wordsF cs1 = ws at hW hP
  k_steps
  refine unstop ?_
  rename News _ _ _ _ => N5
  rename Fr _ _ _ _ => F5
  refine page_w X T F5 N5 (rmL (by decide) (by decide)) (News.isList N5 (.head _)) (hW _ F5.keep fun p hp => (N5 p ?mem).1) hP.hn hP.hb ?_
  case mem => repeat (first | exact hp | apply List.Mem.tail)
  intro h6 tk6 t6 F6 N6
  clear F5 N5
  k_steps
  refine unstop ?_
  rename News _ _ _ _ => N7
  rename Fr _ _ _ _ => F7
  have hrt : ∀ p ∈ tl, p.1 ≠ 93 := tup_ne N7 (q := 93) (o := tabObj #[]) (by k_mem) (fun _ _ e => by cases e) (fun p hp => by repeat (first | exact hp | apply List.Mem.tail)) htl
  have hrc := tup_ne N7 (.tail _ (.tail _ (.tail _ (.head _)))) (fun its n e => by have := Eq.trans (Eq.symm e) ‹Obj.data _ = Data.cell _›; cases this) (fun p hp => by repeat (first | exact hp | apply List.Mem.tail)) htl
  have hre := tup_ne N7 (.tail _ (.tail _ (.tail _ (.tail _ (.head _))))) (fun its n e => by have := Eq.trans (Eq.symm e) ‹Obj.data _ = Data.cell _›; cases this) (fun p hp => by repeat (first | exact hp | apply List.Mem.tail)) htl
  have hr4 : ∀ p ∈ tl, p.1 ≠ 140 := tup_ne N7 (q := 140) (o := tabObj #[]) (by k_mem) (fun _ _ e => by cases e) (fun p hp => by repeat (first | exact hp | apply List.Mem.tail)) htl
  refine lexer_w (pre := [(_, _), (_, _), (_, _), (_, _), (_, _), (_, _)]) (rest := tl) X T CH2 F7 N7 (rmL (by decide) (by decide)) (page_len hP.hb hP.hn) (by k_all) hrt ?_
  intro h8 tk8 fx x d sT sd f aL pb ps8 fd sl oD ocF odF fdF slF xa xb xc xd xe xf n80 n81 n82 tA8 F8 N8 ord hdz hD hRD apf ad aa ap afx ax aT as af
  obtain ⟨o1, o2, o3, o4, o5, o6⟩ := ord
  have o0 : @LT.lt Nat _ 140 d := Nat.lt_of_lt_of_le (Heap.lt_size (N7 _ (.tail _ (.tail _ (.tail _ (.tail _ (.tail _ (.head _))))))).1) hdz
  clear F7 N7 hdz
  simp only [List.cons_append, List.nil_append] at N8
  have tld : ∀ p ∈ tl ++ fx, p.1 ≠ d := fun p hp => (List.mem_append.mp hp).elim (fun hp => allNe_mem ad p (List.mem_append_right _ (.tail _ hp))) fun hp => (apf p hp).1
  have tla : ∀ p ∈ tl ++ fx, p.1 ≠ aL := fun p hp => (List.mem_append.mp hp).elim (fun hp => allNe_mem aa p (List.mem_append_right _ (.tail _ hp))) fun hp => (apf p hp).2.1
  have tlp : ∀ p ∈ tl ++ fx, p.1 ≠ pb := fun p hp => (List.mem_append.mp hp).elim (fun hp => allNe_mem ap p (List.mem_append_right _ (.tail _ hp))) fun hp => (apf p hp).2.2
  have tlc := app_ne hrc fun p hp => Ne.symm (allNe_mem (afx p hp) _ (.tail _ (.tail _ (.tail _ (.head _)))))
  have tle := app_ne hre fun p hp => Ne.symm (allNe_mem (afx p hp) _ (.tail _ (.tail _ (.tail _ (.tail _ (.head _))))))
  have tl4 := app_ne hr4 fun p hp => Ne.symm (allNe_mem (afx p hp) _ (.tail _ (.tail _ (.tail _ (.tail _ (.tail _ (.head _)))))))
  clear hr4
  replace ad := allAp_of ad
  replace aa := allAp_of aa
  replace ap := allAp_of ap
  replace ax := allAp_of ax
  replace aT := allAp_of aT
  replace as := allAp_of as
  replace af := allAp_of af
  simp only [List.cons_append, List.nil_append, AllAp] at ad aa ap ax aT as af
  obtain ⟨ad1, ad2, ad3, ad4, ad5, ad6, ad7, ad8⟩ := ad
  obtain ⟨aa1, aa2, aa3, aa4, aa5, aa6, aa7, aa8⟩ := aa
  obtain ⟨ap1, ap2, ap3, ap4, ap5, ap6, ap7, ap8⟩ := ap
  obtain ⟨ax1, ax2, ax3, ax4, ax5, ax6, ax7, ax8⟩ := ax
  obtain ⟨aT1, aT2, aT3, aT4, aT5, aT6, aT7, aT8⟩ := aT
  obtain ⟨as1, as2, as3, as4, as5, as6, as7, as8⟩ := as
  obtain ⟨af1, af2, af3, af4, af5, af6, af7, af8⟩ := af
  clear ad8 aa8 ap8 ax8 aT8 as8 af8
  have tlm : ∀ p ∈ tl, p ∈ tl ++ fx := fun p hp => List.mem_append_left _ hp
  have fxm : ∀ p ∈ fx, p ∈ tl ++ fx := fun p hp => List.mem_append_right _ hp
  replace hRD := hRD.more fxm
  replace hW : ∀ h'' : Heap, (∀ b o, (ghostOf _ [(142, 140), (97, 93)]).get? b = some o → h''.get? b = some o) → (∀ p ∈ tl ++ fx, h''.get? p.1 = some p.2) → WordsAt h'' wv ws := fun h'' k1 k2 => hW h'' k1 fun p hp => k2 p (tlm p hp)
  generalize tl ++ fx = tf at N8 tld tla tlp tlc tle tl4 hRD hW
  clear apf afx htl hrt hrc hre tlm fxm
  obtain ⟨kE, hTk⟩ := page_toks hP.hb hP.hn
  k_steps
  refine unstop ?_
  rename News _ _ _ _ => N9
  rename Fr _ _ _ _ => F9
  refine inorder_w X T F9 N9 (rmL (by decide) (by decide)) hTk (by rw [List.length_map]; exact Nat.le_trans hP.hn (by decide)) o1 o2 o3 o4 o5 o6 hD (hRD.more fun p hp => by repeat (first | exact hp | apply List.Mem.tail)) (List.forall_mem_cons.mpr ⟨ad1, List.forall_mem_cons.mpr ⟨ad2, List.forall_mem_cons.mpr ⟨ad3, List.forall_mem_cons.mpr ⟨ad4, List.forall_mem_cons.mpr ⟨ad5, List.forall_mem_cons.mpr ⟨ad6, List.forall_mem_cons.mpr ⟨ad7, tld⟩⟩⟩⟩⟩⟩⟩) (List.forall_mem_cons.mpr ⟨aa1, List.forall_mem_cons.mpr ⟨aa2, List.forall_mem_cons.mpr ⟨aa3, List.forall_mem_cons.mpr ⟨aa4, List.forall_mem_cons.mpr ⟨aa5, List.forall_mem_cons.mpr ⟨aa6, List.forall_mem_cons.mpr ⟨aa7, tla⟩⟩⟩⟩⟩⟩⟩) ?_
  intro h10 tk10 r nr rv0 ya yb yc yd ye yf n101 tA10 n102 F10 N10 hR0 ar
  clear F9 N9
  replace ar := allAp_of ar
  simp only [AllAp] at ar
  obtain ⟨ar1, ar2, ar3, ar4, ar5, ar6, ar7, ar8, ar9, ar10, ar11, ar12, ar13, ar14, ar15⟩ := ar
  rw [hP.hi] at hR0
  obtain ⟨S0, x1, x2, x3, x4, hCy⟩ := hP.hc
  have hwn := hP.hn
  k_steps
  rename News _ _ _ _ => N11
  rename Fr _ _ _ _ => F11
  have hNt := News.sub (b := tf) N11 (fun p hp => by repeat (first | exact hp | apply List.Mem.tail))
  have hWA := hW _ F11.keep fun p hp => (hNt p hp).1
  have hwl := hWA.length
  obtain ⟨Ts, va, vb, HT⟩ := hWA.fns
  refine compP Ts va vb rfl ⟨_, _, rfl, Kp.refl _, Nat.le_refl _⟩ (News.isList N11 (.tail _ (.tail _ (.tail _ (.tail _ (.tail _ (.tail _ (.tail _ (.tail _ (.head _)))))))))) (fun j hj => (HT j hj).1) rfl rfl rfl ?hz (fun i ys => IntsAre ys ((ws.take i).map (·.1))) .nil ?el ?en
  case hz => exact Nat.le_trans (show wv.length ≤ 8 by omega) (by decide)
  case el =>
    rintro C i m₁ m₂ ys h tk hi hJ rfl F
    refine wpAny_tests_nil ?_
    rw [if_pos rfl]
    obtain ⟨_, a, b, ta, tb, hp, hva, hvb⟩ := HT i hi
    refine nm_L F (if_neg (by decide) |>.trans (if_pos rfl)) ⟨⟨_, _, rfl, Kp.refl _⟩, ?_⟩ rfl rfl (by decide)
    show IntsAre _ ((ws.take (i + 1)).map (·.1))
    rw [List.take_add_one, hp, hva]
    simpa using ints_snoc hJ a ta
  case en =>
    intro D5 h12 tk12 ys5 hJ5 k12 hz12 hD5
    obtain ⟨F12, N12, l12⟩ := led_new F11 N11 k12 hz12 hD5
    replace l12 := List.forall_mem_cons.mp l12
    clear l12
    rw [hwl, List.take_length] at hJ5
    clear F11 N11 hWA HT
    k_steps
    refine unstop ?_
    refine kso_sorted F12 N12 (News.isList N12 (.head _)) hJ5 (by rw [List.length_map]; omega) fun D7 rv rs c7 h17 FD ND l13 hRv hrl hrp hrs _ => ?_
    have erow := sorted_isort hrp hrs
    clear l13 hrp hrs hrl F12 N12
    rw [erow] at hRv
    generalize isort (List.map (fun x => x.1) ws) = x0 at hR0 hCy hRv
    k_steps
    refine unstop ?_
    rename News _ _ _ _ => NE
    rename Fr _ _ _ _ => FE
    refine call_len_list (News.isList NE (.tail _ (.tail _ (.tail _ (.tail _ (.tail _ (.tail _ (.tail _ (.tail _ (.tail _ (.tail _ (.head _)))))))))))) (by rw [List.size_toArray]; omega) ?_
    have hws : wv.toArray.size = ws.length := (List.size_toArray ..).trans hwl
    rw [hws]
    k_steps
    all_goals try exact absurd (Eq.refl (1 + (ws.length : Int))) (by assumption)
    refine unstop ?_
    rename News _ _ _ _ => NG
    rename Fr _ _ _ _ => FG

    refine turns_w X T CH1 FG NG (.tail _ (.tail _ (.tail _ (.head _)))) (.tail _ (.tail _ (.tail _ (.tail _ (.head _))))) (.tail _ (.tail _ (.tail _ (.tail _ (.tail _ (.tail _ (.head _))))))) (by k_mem) (rmL (by decide) (by decide)) o5 o6 o0 (News.isList NG (.tail _ (.tail _ (.head _)))) (Apart.r ar1) (Apart.r ar2) (Apart.r ar4) (Apart.r ar13) hR0 hCy.chain rfl ?_
    intro h20 tk20 gens20 tD nt np vi own ps20 hb20 F20 hk20 N20 hown hmD hT20 hap
    obtain ⟨b0, b1, b2, b3, b4, b5, q0, q1, q2, q3, q4, q5, v0, v1, v2, v3, v4, v5, rfl, ⟨hm0, hi0⟩, ⟨hm1, hi1⟩, ⟨hm2, hi2⟩, ⟨hm3, hi3⟩, ⟨hm4, hi4⟩, ⟨hm5, hi5⟩⟩ := told_six hT20.c
    clear hT20
    have h14 : @LT.lt Nat _ 140 (Array.size (Heap.objs (Shared.heap _))) := Heap.lt_size (hT8 140 (.head _))
    have lL : @Ne Nat aL pb := Nat.ne_of_lt (Nat.lt_trans o1 (Nat.lt_trans o2 (Nat.lt_trans o3 (Nat.lt_trans o4 (Nat.lt_trans o5 o6)))))
    have lx : @Ne Nat aL x := Nat.ne_of_lt (Nat.lt_trans o1 (Nat.lt_trans o2 (Nat.lt_trans o3 (Nat.lt_trans o4 o5))))
    have ld : @Ne Nat aL d := Nat.ne_of_lt (Nat.lt_trans o1 (Nat.lt_trans o2 (Nat.lt_trans o3 o4)))
    have hapL : ∀ p ∈ own, p.1 ≠ aL := fun p hp => hap p hp (aL, _) (.tail _ (.tail _ (.tail _ (.tail _ (.tail _ (.head _)))))) lL ld lx (Apart.r aa6)
    have hd7 : ∀ (a q : Nat) (vs : List Value), (a, listOf vs.toArray q) ∈ own → @Ne Nat a d := fun a q vs hm e => by
      have h1 := (hown _ hm).1
      have h2 := (hk20 _ (.tail _ (.tail _ (.tail _ (.tail _ (.head _))))) (Nat.ne_of_lt (Nat.lt_trans o5 o6)) (Nat.ne_of_gt o0)).1
      dsimp only at h1 h2
      rw [e, h2] at h1
      have h3 := congrArg Obj.data (Option.some.inj h1)
      cases h3
    have N21 : News _ _ _ ([(tD, _), (b0, _), (b1, _), (b2, _), (b3, _), (b4, _), (b5, _), (r, _)] ++ (pb, _) :: (d, _) :: (aL, _) :: (x, _) :: (sT, _) :: (sd, _) :: (f, _) :: (_, _) :: (_, _) :: (140, _) :: (93, _) :: tf) :=
      List.forall_mem_cons.mpr ⟨hown _ hmD, List.forall_mem_cons.mpr ⟨hown _ hm0, List.forall_mem_cons.mpr ⟨hown _ hm1, List.forall_mem_cons.mpr ⟨hown _ hm2, List.forall_mem_cons.mpr ⟨hown _ hm3, List.forall_mem_cons.mpr ⟨hown _ hm4, List.forall_mem_cons.mpr ⟨hown _ hm5,
      List.forall_mem_cons.mpr ⟨hk20 _ (.tail _ (.tail _ (.head _))) (Apart.r ar1) (Apart.r ar13),
      List.forall_mem_cons.mpr ⟨N20 _ (.head _),
      List.forall_mem_cons.mpr ⟨hk20 _ (.tail _ (.tail _ (.tail _ (.tail _ (.head _))))) (Nat.ne_of_lt (Nat.lt_trans o5 o6)) (Nat.ne_of_gt o0),
      List.forall_mem_cons.mpr ⟨hk20 _ (.tail _ (.tail _ (.tail _ (.tail _ (.tail _ (.head _)))))) lL (Apart.r aa6),
      List.forall_mem_cons.mpr ⟨hk20 _ (.tail _ (.tail _ (.tail _ (.tail _ (.tail _ (.tail _ (.head _))))))) (Nat.ne_of_lt o6) (Apart.r ax6),
      List.forall_mem_cons.mpr ⟨hk20 _ (.tail _ (.tail _ (.tail _ (.tail _ (.tail _ (.tail _ (.tail _ (.head _)))))))) (Nat.ne_of_lt (Nat.lt_trans o3 (Nat.lt_trans o4 (Nat.lt_trans o5 o6)))) (Apart.r aT6),
      List.forall_mem_cons.mpr ⟨hk20 _ (.tail _ (.tail _ (.tail _ (.tail _ (.tail _ (.tail _ (.tail _ (.tail _ (.head _))))))))) (Nat.ne_of_lt (Nat.lt_trans o4 (Nat.lt_trans o5 o6))) (Apart.r as6),
      List.forall_mem_cons.mpr ⟨hk20 _ (.tail _ (.tail _ (.tail _ (.tail _ (.tail _ (.tail _ (.tail _ (.tail _ (.tail _ (.head _)))))))))) (Nat.ne_of_lt (Nat.lt_trans o2 (Nat.lt_trans o3 (Nat.lt_trans o4 (Nat.lt_trans o5 o6))))) (Apart.r af6),
      List.forall_mem_cons.mpr ⟨hk20 _ (.tail _ (.tail _ (.tail _ (.tail _ (.tail _ (.tail _ (.tail _ (.tail _ (.tail _ (.tail _ (.tail _ (.tail _ (.tail _ (.head _)))))))))))))) (Apart.l ap4) (Nat.ne_of_gt (Nat.lt_succ_of_lt (Nat.lt_succ_of_lt h14))),
      List.forall_mem_cons.mpr ⟨hk20 _ (.tail _ (.tail _ (.tail _ (.tail _ (.tail _ (.tail _ (.tail _ (.tail _ (.tail _ (.tail _ (.tail _ (.tail _ (.tail _ (.tail _ (.head _))))))))))))))) (Apart.l ap5) (Nat.ne_of_gt (Nat.lt_succ_of_lt h14)),
      List.forall_mem_cons.mpr ⟨N20 _ (.tail _ (.head _)),
      List.forall_mem_cons.mpr ⟨hk20 _ (.tail _ (.tail _ (.tail _ (.tail _ (.tail _ (.tail _ (.tail _ (.tail _ (.tail _ (.tail _ (.tail _ (.tail _ (.tail _ (.tail _ (.tail _ (.tail _ (.head _))))))))))))))))) (Apart.l ap7) (show @Ne Nat 93 140 by decide),
      fun p hp => hk20 p (.tail _ (.tail _ (.tail _ (.tail _ (.tail _ (.tail _ (.tail _ (.tail _ (.tail _ (.tail _ (.tail _ (.tail _ (.tail _ (.tail _ (.tail _ (.tail _ (.tail _ hp))))))))))))))))) (tlp p hp) (tl4 p hp)⟩⟩⟩⟩⟩⟩⟩⟩⟩⟩⟩⟩⟩⟩⟩⟩⟩⟩⟩
    simp only [List.cons_append, List.nil_append] at N21
    clear hk20 N20 hown NG FG
    k_steps
    refine unstop ?_
    rename News _ _ _ _ => NH
    rename Fr _ _ _ _ => FH
    skip
    obtain ⟨hk22, hS22⟩ := hTk.last
    refine get_w (pre := [(tD, _), (b0, _), (b1, _), (b2, _), (b3, _), (b4, _), (b5, _), (r, _)]) X T FH NH (rmL (by decide) (by decide)) hk22 hS22 o1 o2 o3 o4 o5 o6 hD (hRD.more fun p hp => .tail _ (.tail _ (.tail _ (.tail _ hp))))
      (List.forall_mem_cons.mpr ⟨Apart.l ad4, List.forall_mem_cons.mpr ⟨Apart.l ad5, List.forall_mem_cons.mpr ⟨Apart.l ad6, List.forall_mem_cons.mpr ⟨Apart.l ad7, tld⟩⟩⟩⟩)
      (List.forall_mem_cons.mpr ⟨Apart.l aa4, List.forall_mem_cons.mpr ⟨Apart.l aa5, List.forall_mem_cons.mpr ⟨Apart.l aa6, List.forall_mem_cons.mpr ⟨Apart.l aa7, tla⟩⟩⟩⟩)
      (List.forall_mem_cons.mpr ⟨⟨hapL _ hmD, hd7 _ _ [_, _, _, _, _, _] hmD⟩, List.forall_mem_cons.mpr ⟨⟨hapL _ hm0, hd7 _ _ _ hm0⟩, List.forall_mem_cons.mpr ⟨⟨hapL _ hm1, hd7 _ _ _ hm1⟩, List.forall_mem_cons.mpr ⟨⟨hapL _ hm2, hd7 _ _ _ hm2⟩, List.forall_mem_cons.mpr ⟨⟨hapL _ hm3, hd7 _ _ _ hm3⟩,
        List.forall_mem_cons.mpr ⟨⟨hapL _ hm4, hd7 _ _ _ hm4⟩, List.forall_mem_cons.mpr ⟨⟨hapL _ hm5, hd7 _ _ _ hm5⟩, List.forall_mem_cons.mpr ⟨⟨Apart.r ar3, Apart.r ar2⟩, List.forall_mem_nil _⟩⟩⟩⟩⟩⟩⟩⟩) ?_
    intro h22 tk22 za zb zc zd ze zf n22 tA22 n23 tu22 F22 N22
    clear NH FH
    simp only [List.cons_append, List.nil_append] at N22
    k_steps
    rename News _ _ _ _ => NJ
    rename Fr _ _ _ _ => FJ
    have hx0 := (stepb_ok hCy.a0).2.1
    refine compL (vs := [.ref b0, .ref b1, .ref b2, .ref b3, .ref b4, .ref b5]) rfl ⟨_, _, rfl, Kp.refl _, Nat.le_refl _⟩ (News.isList NJ (.head _)) rfl rfl (show 6 ≤ sizeLine by decide) (fun i ys => ys = []) rfl ?el ?en
    case el =>
      rintro C i m₁ m₂ ys h tk hi rfl ⟨v, hv, rfl⟩ F3
      obtain ⟨a, rfl, q, vv, xx, hm, hxI, hxS, hxs, hxl⟩ := row_of (P := fun _ a => RowAt _ S0 a) hv (rowAt_of (.tail _ (.head _)) hi0 hCy.a0) (rowAt_of (.tail _ (.tail _ (.head _))) hi1 hCy.a1) (rowAt_of (.tail _ (.tail _ (.tail _ (.head _)))) hi2 hCy.a2) (rowAt_of (.tail _ (.tail _ (.tail _ (.tail _ (.head _))))) hi3 hCy.a3) (rowAt_of (.tail _ (.tail _ (.tail _ (.tail _ (.tail _ (.head _)))))) hi4 hCy.a4) (rowAt_of (.tail _ (.tail _ (.tail _ (.tail _ (.tail _ (.tail _ (.head _))))))) hi5 hCy.a0)
      obtain ⟨F4, N4⟩ := comp_lift FJ NJ F3
      have N5 := News.dup N4 hm
      clear NJ FJ N4 hm hv
      refine wpAny_tests_one ?_
      k_steps
      refine unstop ?_
      refine sum_kp rfl (News.isList N5 (.head _)) hxI fun h6 tk6 t6 kp6 => ?_
      replace F4 := F4.keeps kp6
      replace N5 := News.keeps N5 kp6
      k_steps
      refine unstop ?_
      refine sum_kp rfl (News.isList N5 (.tail _ (.tail _ (.tail _ (.tail _ (.tail _ (.tail _ (.tail _ (.tail _ (.head _)))))))))) hR0 fun h7 tk7 t7 kp7 => ?_
      replace F4 := F4.keeps kp7
      replace N5 := News.keeps N5 kp7
      k_steps
      all_goals try exact absurd (hxS.trans hx0.symm) (by assumption)
      refine unstop ?_
      refine sort_kp (News.isList N5 (.head _)) hxI (by omega) fun h8 D8 vv8 c8 kp8 hz8 e8 hI8 => ?_
      obtain ⟨F6, N6, l6⟩ := led_new F4 N5 kp8 hz8 e8
      clear l6 F4 N5
      rw [hxs] at hI8
      k_steps
      all_goals first | exact ⟨_, _, rfl, (kp6.trans kp7).trans kp8⟩ | trivial
    case en =>
      intro D9 h24 tk24 ys9 hJ9 k24 hz24 hD24
      subst hJ9
      obtain ⟨F24, N24, l24⟩ := led_new FJ NJ k24 hz24 hD24
      clear l24 FJ NJ
      k_steps
      rename News _ _ _ _ => NK
      rename Fr _ _ _ _ => FK
      refine compL (vs := [.ref b0, .ref b1, .ref b2, .ref b3, .ref b4, .ref b5]) rfl ⟨_, _, rfl, Kp.refl _, Nat.le_refl _⟩ (News.isList NK (.tail _ (.tail _ (.head _)))) rfl rfl (show 6 ≤ sizeLine by decide) (fun i ys => IntsAre ys ((([x0, x1, x2, x3, x4, x0] : List (List Int)).take i).map leanF)) .nil ?el2 ?en2
      case el2 =>
        rintro C i m₁ m₂ ys h tk hi hJ ⟨v, hv, rfl⟩ F3
        obtain ⟨a, rfl, q, vv, xx, hm, hxI, hxe, hxl, hxb⟩ := row_of (P := LeanAt _ [x0, x1, x2, x3, x4, x0]) hv (leanAt_of (.tail _ (.tail _ (.tail _ (.head _)))) hi0 hCy.a0 rfl) (leanAt_of (.tail _ (.tail _ (.tail _ (.tail _ (.head _))))) hi1 hCy.a1 rfl) (leanAt_of (.tail _ (.tail _ (.tail _ (.tail _ (.tail _ (.head _)))))) hi2 hCy.a2 rfl) (leanAt_of (.tail _ (.tail _ (.tail _ (.tail _ (.tail _ (.tail _ (.head _))))))) hi3 hCy.a3 rfl) (leanAt_of (.tail _ (.tail _ (.tail _ (.tail _ (.tail _ (.tail _ (.tail _ (.head _)))))))) hi4 hCy.a4 rfl) (leanAt_of (.tail _ (.tail _ (.tail _ (.tail _ (.tail _ (.tail _ (.tail _ (.tail _ (.head _))))))))) hi5 hCy.a0 rfl)
        obtain ⟨F4, N4⟩ := comp_lift FK NK F3
        have N5 := News.dup N4 hm
        clear NK FK N4 hm hv
        refine wpAny_tests_nil ?_
        rw [if_pos rfl]
        k_steps
        refine unstop ?_
        refine wpAny_mono (lean_c (X.keeps F4.keep) (T.keeps F4.keep) (rmL (by decide) (by decide)) a vv xx hxI (News.isList N5 (.head _)) hxl hxb) (fun v s2 y => ?_) fun _ _ y => y
        obtain ⟨h25, tk25, rfl, k25, t25, rfl⟩ := y
        exact ⟨⟨_, _, rfl, k25⟩, ints_lean hJ hxe t25⟩
      case en2 =>
        intro D10 h26 tk26 ys26 hJ26 k26 hz26 hD26
        obtain ⟨F26, N26, l26⟩ := led_new FK NK k26 hz26 hD26
        clear FK NK
        have NL : News _ _ _ [(D10, listOf ys26.toArray ys26.length), (_, _), (140, _), (93, _)] := News.sub N26 (List.forall_mem_cons.mpr ⟨.head _, List.forall_mem_cons.mpr ⟨(.tail _ (.tail _ (.tail _ (.tail _ (.tail _ (.tail _ (.tail _ (.tail _ (.tail _ (.tail _ (.tail _ (.tail _ (.tail _ (.tail _ (.tail _ (.tail _ (.tail _ (.tail _ (.head _))))))))))))))))))), List.forall_mem_cons.mpr ⟨(.tail _ (.tail _ (.tail _ (.tail _ (.tail _ (.tail _ (.tail _ (.tail _ (.tail _ (.tail _ (.tail _ (.tail _ (.tail _ (.tail _ (.tail _ (.tail _ (.tail _ (.tail _ (.tail _ (.tail _ (.head _))))))))))))))))))))), List.forall_mem_cons.mpr ⟨(.tail _ (.tail _ (.tail _ (.tail _ (.tail _ (.tail _ (.tail _ (.tail _ (.tail _ (.tail _ (.tail _ (.tail _ (.tail _ (.tail _ (.tail _ (.tail _ (.tail _ (.tail _ (.tail _ (.tail _ (.tail _ (.head _)))))))))))))))))))))), List.forall_mem_nil _⟩⟩⟩⟩)
        have ag1 : Apart _ D10 := Nat.ne_of_lt (l26 _ (.tail _ (.tail _ (.tail _ (.tail _ (.tail _ (.tail _ (.tail _ (.tail _ (.tail _ (.tail _ (.tail _ (.tail _ (.tail _ (.tail _ (.tail _ (.tail _ (.tail _ (.head _)))))))))))))))))))
        have ag2 : Apart 140 _ := Nat.ne_of_lt (Nat.lt_succ_of_lt (Nat.lt_succ_of_lt h14))
        have ag3 : Apart 93 _ := Nat.ne_of_lt (Nat.lt_trans (show @LT.lt Nat _ 93 140 by decide) (Nat.lt_succ_of_lt (Nat.lt_succ_of_lt h14)))
        clear N26 l26
        replace hJ26 : IntsAre ys26 [leanF x0, leanF x1, leanF x2, leanF x3, leanF x4, leanF x0] := hJ26
        k_steps
        refine unstop ?_
        rename News _ _ _ _ => NM
        rename Fr _ _ _ _ => FM
        refine compR1 (n := 5) ?r0 ⟨_, _, rfl, Kp.refl _, Nat.le_refl _⟩ ?sm ?rn ?r1 ?r2 ?hz (fun i ys => ys = []) ?r3 ?el3 ?en3
        case hz => decide
        case r0 => rfl
        case r1 => rfl
        case r2 => rfl
        case r3 => exact rfl
        case sm => decide +kernel
        case rn => decide +kernel
        case el3 =>
          rintro C i m₁ m₂ ys h tk hi rfl ⟨t, rfl⟩ F3
          obtain ⟨F4, N4⟩ := comp_lift FM NM F3
          refine wpAny_tests_one ?_
          k_steps
          refine unstop ?_
          refine wpAny_mono (iseof_c (X.keeps F4.keep) (T.keeps F4.keep) (rmL (by decide) (by decide)) _ _) (fun v s2 y => ?_) fun _ _ y => y
          obtain ⟨h27, tk27, rfl, k27, hv⟩ := y
          rw [lean_zero hCy hi] at hv
          obtain rfl : v = .bool true := hv
          have F5 := F4.keeps k27
          have N5 := News.keeps N4 k27
          clear F4 N4
          k_steps
          all_goals first | exact ⟨_, _, rfl, k27⟩ | trivial
        case en3 =>
          intro D11 h28 tk28 ys28 hJ28 k28 hz28 hD28
          subst hJ28
          obtain ⟨F28, N28, l28⟩ := led_new FM NM k28 hz28 hD28
          clear l28 FM NM
          k_steps
          rename News _ _ _ _ => NZ
          rename Fr _ _ _ _ => FZ
          refine EndB.of ?_ (hb20 (AllBare.of_eq (by assumption))) ⟨GrownAt.of NZ (by k_mem), GrownAt.of NZ (by k_mem), trivial⟩
          refine goodW_bool FZ rfl (fun _ => rfl) ?_
          kc_post
end

end

end Mine
set_option maxRecDepth 100000 in
theorem PySem.Challenge.cw_to0028_01_holds : PySem.Challenge.rw_to0028_01.Holds := by
  exact Mine.law_main
