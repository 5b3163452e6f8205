import PyProof.Rows.All
import Wide.All
import OpenK.AllK
import Wide.FinOn
import PySem.Challenge.RW_ik0159_01
open PySem PySem.W PySem.Spec PySem.Calls PyProof.Rows
set_option Elab.async false
set_option maxRecDepth 100000
set_option maxHeartbeats 0
set_option linter.all false
set_option compiler.extract_closed false
set_option linter.unusedVariables false
namespace Mine
example : True := by w_top off; trivial
noncomputable def view : Program := { PySem.Challenge.pw_ik0159_01 with main := { PySem.Challenge.pw_ik0159_01.main with body := [0, 2, 3, 4, 5, 6, 7, 8, 10, 11, 13, 15, 16, 17, 18, 20, 21, 22, 23, 24, 25, 26, 27].filterMap fun i => PySem.Challenge.pw_ik0159_01.main.body[i]? } }
theorem headH (H : Hook) {d : DefRec} {kwd : List (Str × Expr)} (hdef : defOf view PySem.Challenge.rw_ik0159_01.row.name = some (d, kwd)) (hp : PySem.Challenge.rw_ik0159_01.row.prog.theDef PySem.Challenge.rw_ik0159_01.row.name = some (d.params, d.body, d.scope)) (hk : kwWritten? d.params.kwonlyargs d.params.kw_defaults = some kwd)
    (k1 : PySem.Challenge.rw_ik0159_01.row.wellSaid = true) (hw : PySem.Challenge.rw_ik0159_01.row.toRowW.promised)
    (h : LeftO PySem.Challenge.rw_ik0159_01.row.prog view [Str.ofString "twin_re_1_fnmatch", Str.ofString "_special_chars_map", Str.ofString "twin_re_1_shlex", Str.ofString "_find_unsafe"] (fun s => xlAt view [] s && recOk (RowW.records PySem.Challenge.rw_ik0159_01.row.toRowW) s) H.obs H.val 4184 ∧
      WalkO view [Str.ofString "twin_re_1_fnmatch", Str.ofString "_special_chars_map", Str.ofString "twin_re_1_shlex", Str.ofString "_find_unsafe"] (XL view []) H.says PySem.Challenge.rw_ik0159_01.row.toRowW d kwd fun f vs => PySem.call f vs) : PySem.Challenge.rw_ik0159_01.row.Holds :=
  holds_open h.1 H.of H.keeps (fun s e => xl_of s (Bool.and_eq_true_iff.mp e).1) XL.keeps hdef hp hk (fun s e => recFacts_of (Bool.and_eq_true_iff.mp e).2) (by rfl) k1 (by decide +kernel) ⟨rfl, rfl, rfl, rfl, rfl, by decide +kernel⟩ hw h.2
local macro_rules | `(tactic| o_law) => `(tactic| refine holds_law (by decide +kernel) fun said => ?_)
local macro_rules | `(tactic| o_head $H) => `(tactic| refine headH $H (by rfl) (by rfl) (by rfl) (by assumption) ?hw ?hc)
open_top hd for PySem.Challenge.rw_ik0159_01
example : True := by w_top off; trivial
noncomputable abbrev Hk : Hook := kmHook hd.heap_1 [2, 3, 6, 11, 12, 32, 34, 35, 37, 38, 39, 41, 42, 44, 45, 46, 48, 49, 51, 52, 53, 55, 56, 58, 59, 60, 62, 63,
          65, 66, 70, 71, 73, 77, 79, 80, 82, 83, 84, 86, 87, 89, 90, 94, 95, 96, 98, 99, 101, 102, 103, 104, 106, 107,
          109, 110, 111, 114, 115, 116, 118, 119, 121, 122, 123, 126, 127, 128, 131, 132, 133, 135, 136, 138, 139, 140,
          142, 143, 145, 146, 147, 150, 151, 152, 155, 156] (fun _ => by kernel_rfl) [85, 54, 47]
noncomputable def LeftHere (w : World) : Prop :=
  (openEnds treeTable PySem.Challenge.pw_ik0159_01 w 4184).map (fun s => (openSeen Mine.view [Str.ofString "twin_re_1_fnmatch", Str.ofString "_special_chars_map", Str.ofString "twin_re_1_shlex", Str.ofString "_find_unsafe"] (importedModules PySem.Challenge.pw_ik0159_01.main.body) (fun s => xlAt Mine.view [] s && recOk (RowW.records PySem.Challenge.rw_ik0159_01.row.toRowW) s) true s, Hook.obs Hk s)) = some (openGood Mine.view [Str.ofString "twin_re_1_fnmatch", Str.ofString "_special_chars_map", Str.ofString "twin_re_1_shlex", Str.ofString "_find_unsafe"], Hook.val Hk w)
theorem left_ff (w : World) : LeftHere ((w.withFollow "comprehension-iter-twice" false).withFollow "special-get-raises" false) := by
  unfold LeftHere openEnds fencedOpening topFrom opening
  rw [PySem.W.Fast.te10274390034422433532, PySem.W.Fast.te14082659384304107361, PySem.W.Fast.te14364793385576792824, PySem.W.Fast.te14289696077712309145, PySem.W.Fast.te1435165496053646825, PySem.W.Fast.te4187177175401517315]
  kernel_rfl
theorem left_ft (w : World) : LeftHere ((w.withFollow "comprehension-iter-twice" false).withFollow "special-get-raises" true) := by
  unfold LeftHere openEnds fencedOpening topFrom opening
  rw [PySem.W.Fast.te10274390034422433532, PySem.W.Fast.te14082659384304107361, PySem.W.Fast.te14364793385576792824, PySem.W.Fast.te14289696077712309145, PySem.W.Fast.te1435165496053646825, PySem.W.Fast.te4187177175401517315]
  kernel_rfl
theorem left_tf (w : World) : LeftHere ((w.withFollow "comprehension-iter-twice" true).withFollow "special-get-raises" false) := by
  unfold LeftHere openEnds fencedOpening topFrom opening
  rw [PySem.W.Fast.te10274390034422433532, PySem.W.Fast.te14082659384304107361, PySem.W.Fast.te14364793385576792824, PySem.W.Fast.te14289696077712309145, PySem.W.Fast.te1435165496053646825, PySem.W.Fast.te4187177175401517315]
  kernel_rfl
theorem left_tt (w : World) : LeftHere ((w.withFollow "comprehension-iter-twice" true).withFollow "special-get-raises" true) := by
  unfold LeftHere openEnds fencedOpening topFrom opening
  rw [PySem.W.Fast.te10274390034422433532, PySem.W.Fast.te14082659384304107361, PySem.W.Fast.te14364793385576792824, PySem.W.Fast.te14289696077712309145, PySem.W.Fast.te1435165496053646825, PySem.W.Fast.te4187177175401517315]
  kernel_rfl
theorem left_all (w : World) : LeftHere w :=
  byRow2 "special-get-raises" (P := LeftHere) (byRow2 "comprehension-iter-twice" (P := fun w => LeftHere (w.withFollow "special-get-raises" false)) left_ff left_tf) (byRow2 "comprehension-iter-twice" (P := fun w => LeftHere (w.withFollow "special-get-raises" true)) left_ft left_tt) w
example : True := by w_top off; trivial
theorem fm_cons {α : Type} {P : α → Prop} {a : α} {l : List α} (h1 : P a) (h2 : ∀ p ∈ l, P p) : ∀ p ∈ a :: l, P p := fun _ hp => (List.mem_cons.mp hp).elim (fun e => e ▸ h1) (h2 _)
theorem mem1 {α : Type} {a x : α} {r : List α} : x ∈ a :: x :: r := (.tail _ (.head _))
theorem mem2 {α : Type} {a b x : α} {r : List α} : x ∈ a :: b :: x :: r := (.tail _ (.tail _ (.head _)))
theorem mem3 {α : Type} {a b c x : α} {r : List α} : x ∈ a :: b :: c :: x :: r := (.tail _ (.tail _ (.tail _ (.head _))))
theorem mem4 {α : Type} {a b c d x : α} {r : List α} : x ∈ a :: b :: c :: d :: x :: r := (.tail _ (.tail _ (.tail _ (.tail _ (.head _)))))
theorem mem5 {α : Type} {a b c d e x : α} {r : List α} : x ∈ a :: b :: c :: d :: e :: x :: r := (.tail _ (.tail _ (.tail _ (.tail _ (.tail _ (.head _))))))
theorem mem6 {α : Type} {a b c d e f x : α} {r : List α} : x ∈ a :: b :: c :: d :: e :: f :: x :: r := (.tail _ (.tail _ (.tail _ (.tail _ (.tail _ (.tail _ (.head _)))))))
theorem mem7 {α : Type} {a b c d e f g x : α} {r : List α} : x ∈ a :: b :: c :: d :: e :: f :: g :: x :: r := (.tail _ (.tail _ (.tail _ (.tail _ (.tail _ (.tail _ (.tail _ (.head _))))))))
theorem mem8 {α : Type} {a b c d e f g h x : α} {r : List α} : x ∈ a :: b :: c :: d :: e :: f :: g :: h :: x :: r := (.tail _ (.tail _ (.tail _ (.tail _ (.tail _ (.tail _ (.tail _ (.tail _ (.head _)))))))))
theorem mem9 {α : Type} {a b c d e f g h i x : α} {r : List α} : x ∈ a :: b :: c :: d :: e :: f :: g :: h :: i :: x :: r := (.tail _ (.tail _ (.tail _ (.tail _ (.tail _ (.tail _ (.tail _ (.tail _ (.tail _ (.head _))))))))))
theorem mem10 {α : Type} {a b c d e f g h i j x : α} {r : List α} : x ∈ a :: b :: c :: d :: e :: f :: g :: h :: i :: j :: x :: r := (.tail _ (.tail _ (.tail _ (.tail _ (.tail _ (.tail _ (.tail _ (.tail _ (.tail _ (.tail _ (.head _)))))))))))
theorem mem11 {α : Type} {a b c d e f g h i j k x : α} {r : List α} : x ∈ a :: b :: c :: d :: e :: f :: g :: h :: i :: j :: k :: x :: r := (.tail _ (.tail _ (.tail _ (.tail _ (.tail _ (.tail _ (.tail _ (.tail _ (.tail _ (.tail _ (.tail _ (.head _))))))))))))
theorem mem12 {α : Type} {a b c d e f g h i j k l x : α} {r : List α} : x ∈ a :: b :: c :: d :: e :: f :: g :: h :: i :: j :: k :: l :: x :: r := (.tail _ (.tail _ (.tail _ (.tail _ (.tail _ (.tail _ (.tail _ (.tail _ (.tail _ (.tail _ (.tail _ (.tail _ (.head _)))))))))))))
theorem mem13 {α : Type} {a b c d e f g h i j k l m x : α} {r : List α} : x ∈ a :: b :: c :: d :: e :: f :: g :: h :: i :: j :: k :: l :: m :: x :: r := (.tail _ (.tail _ (.tail _ (.tail _ (.tail _ (.tail _ (.tail _ (.tail _ (.tail _ (.tail _ (.tail _ (.tail _ (.tail _ (.head _))))))))))))))
theorem mem14 {α : Type} {a b c d e f g h i j k l m n x : α} {r : List α} : x ∈ a :: b :: c :: d :: e :: f :: g :: h :: i :: j :: k :: l :: m :: n :: x :: r := (.tail _ (.tail _ (.tail _ (.tail _ (.tail _ (.tail _ (.tail _ (.tail _ (.tail _ (.tail _ (.tail _ (.tail _ (.tail _ (.tail _ (.head _)))))))))))))))
local macro_rules | `(tactic| k_mem) => `(tactic| first | exact List.Mem.head _ | exact mem1 | exact mem2 | exact mem3 | exact mem4 | exact mem5 | exact mem6 | exact mem7 | exact mem8 | exact mem9 | exact mem10 | exact mem11 | exact mem12 | exact mem13 | exact mem14)
local macro_rules | `(tactic| k_all) => `(tactic| first | exact List.forall_mem_nil _ | (refine' fm_cons ?a ?b; (case a => k_ne); (case b => k_all)))
theorem q_le {x m b : Nat} (h : x ≤ m) (g : Nat.ble m b = true) : x ≤ b := Nat.le_trans h (Nat.le_of_ble_eq_true g)
theorem q_lt {x m b : Nat} (h : x ≤ m) (g : Nat.ble (m + 1) b = true) : x < b := Nat.lt_of_le_of_lt h (Nat.le_of_ble_eq_true g)
theorem q_lt' {x m b : Nat} (h : x < m) (g : Nat.ble m b = true) : x < b := Nat.lt_of_lt_of_le h (Nat.le_of_ble_eq_true g)
theorem q_ge {x m b : Nat} (h : m ≤ x) (g : Nat.ble b m = true) : b ≤ x := Nat.le_trans (Nat.le_of_ble_eq_true g) h
theorem q_ge' {x m b : Nat} (h : m < x) (g : Nat.ble b (m + 1) = true) : b ≤ x := Nat.le_trans (Nat.le_of_ble_eq_true g) h
theorem q_r0 {x b R : Nat} (h : x + b < R) : x < R := Nat.lt_of_le_of_lt (Nat.le_add_right x b) h
theorem q_r1 {x b c R : Nat} (h : x + b < R) (g : Nat.ble c b = true) : x + c < R := Nat.lt_of_le_of_lt (Nat.add_le_add_left (Nat.le_of_ble_eq_true g) x) h
theorem q_r2 {x b c d R : Nat} (h : x + b < R) (g : Nat.ble (c + d) b = true) : x + c + d < R := by rw [Nat.add_assoc]; exact q_r1 h g
theorem q_r3 {x b c d e R : Nat} (h : x + b < R) (g : Nat.ble (c + d + e) b = true) : x + c + d + e < R := by rw [Nat.add_assoc, Nat.add_assoc, ← Nat.add_assoc c d e]; exact q_r1 h g
local macro_rules | `(tactic| fail "m q_p0") => `(tactic| with_reducible assumption)
local macro_rules | `(tactic| fail "m q_p1") => `(tactic| first | with_reducible assumption | (refine' And.left ?c9; (case c9 => fail "m q_p0")) | (refine' And.right ?c9; (case c9 => fail "m q_p0")))
local macro_rules | `(tactic| fail "m q_p2") => `(tactic| first | with_reducible assumption | (refine' And.left ?c9; (case c9 => fail "m q_p1")) | (refine' And.right ?c9; (case c9 => fail "m q_p1")))
local macro_rules | `(tactic| fail "m q_p3") => `(tactic| first | with_reducible assumption | (refine' And.left ?c9; (case c9 => fail "m q_p2")) | (refine' And.right ?c9; (case c9 => fail "m q_p2")))
local macro_rules | `(tactic| fail "m q_p4") => `(tactic| first | with_reducible assumption | (refine' And.left ?c9; (case c9 => fail "m q_p3")) | (refine' And.right ?c9; (case c9 => fail "m q_p3")))
local macro_rules | `(tactic| fail "m q_all") => `(tactic| first
  | with_reducible assumption
  | exact Nat.le_of_ble_eq_true rfl
  | ((with_reducible show _ ≤ _); first | (refine' q_le ?h9 ?g9; (case h9 => with_reducible assumption); (case g9 => exact rfl); done) | (refine' q_ge ?h9 ?g9; (case h9 => with_reducible assumption); (case g9 => exact rfl); done) | (refine' q_ge' ?h9 ?g9; (case h9 => with_reducible assumption); (case g9 => exact rfl); done))
  | ((with_reducible show _ < _); first | (refine' q_r0 ?h9; (case h9 => with_reducible assumption); done) | (refine' q_r1 ?h9 ?g9; (case h9 => with_reducible assumption); (case g9 => exact rfl); done) | (refine' q_r2 ?h9 ?g9; (case h9 => with_reducible assumption); (case g9 => exact rfl); done) | (refine' q_r3 ?h9 ?g9; (case h9 => with_reducible assumption); (case g9 => exact rfl); done) | (refine' q_lt ?h9 ?g9; (case h9 => with_reducible assumption); (case g9 => exact rfl); done) | (refine' q_lt' ?h9 ?g9; (case h9 => with_reducible assumption); (case g9 => exact rfl); done))
  | ((with_reducible show _ ≠ _); first | (refine' Nat.ne_of_gt ?_; fail "m q_p4"; done) | (refine' Nat.ne_of_lt ?_; fail "m q_p4"; done) | (fail "m q_p4"; done) | (refine' Ne.symm ?_; fail "m q_p4"; done)))
local macro_rules | `(tactic| omega) => `(tactic| first | fail "m q_all" | ((fail_if_success (fail_if_success (omega +splitDisjunctions))); first | lia | omega -splitDisjunctions | omega +splitDisjunctions))

structure Inv (w : World) (h : Heap) : Prop where
  X : (hd.heap_1 w.params).In h
  T : ∃ p loose mean mg mb, Top p loose mean mg mb h
theorem Inv.keeps {w : World} {h h' : Heap} (I : Inv w h) (hk : ∀ b o, h.get? b = some o → h'.get? b = some o) : Inv w h' :=
  ⟨I.X.keeps hk, let ⟨p, l, m, g, b, T⟩ := I.T; ⟨p, l, m, g, b, T.keeps hk⟩⟩

noncomputable abbrev Ar (dp un : Nat) (fr : Option (List Env)) (gd : Option (List Code)) : Around := { handled := none, depth := dp, frames := fr, guards := gd, units := un }
noncomputable def Done (s : Shared) (Post : Value → Heap → Prop) (v : Value) (s' : Shared) : Prop :=
  ∃ h' tk, s' = { s with heap := h', toks := tk } ∧ (∀ b o, s.heap.get? b = some o → h'.get? b = some o) ∧ Post v h'
theorem Done.intro {s : Shared} {L : Addr} {m : Str → Option Value} {Post : Value → Heap → Prop} {v : Value} {h' : Heap} {tk : Nat} (F : Fr s.heap L h' m) (hp : Post v h') : Done s Post v { s with heap := h', toks := tk } :=
  ⟨h', tk, rfl, F.keep, hp⟩
noncomputable def Pure (w : World) (f : Addr) (vs : List Value) (s : Shared) (Post : Value → Heap → Prop) : Prop :=
  ∀ (dp un : Nat) (fr : Option (List Env)) (gd : Option (List Code)) (E : Value → Shared → Prop), dp + 20 < recursionLimit → un + 100 < cLine →
    wpAny (model PySem.Challenge.rw_ik0159_01.row.prog w) (Ar dp un fr gd) (call (.ref f) vs)
      (Done s Post) E s

noncomputable def PureN (k : Nat) (w : World) (f : Addr) (vs : List Value) (s : Shared) (Post : Value → Heap → Prop) : Prop :=
  ∀ (dp un : Nat) (fr : Option (List Env)) (gd : Option (List Code)) (E : Value → Shared → Prop), dp + k < recursionLimit → un + 100 + 10 * k < cLine →
    wpAny (model PySem.Challenge.rw_ik0159_01.row.prog w) (Ar dp un fr gd) (call (.ref f) vs)
      (Done s Post) E s
theorem pure_def {w : World} {A : Around} {s : Shared} {R : Result → Shared → Prop} {name qual : Str} {params : Arguments} {body : List Stmt} {scope : Scope} {dV kV doc pm cdv ct oc : Value} {an od : Option Addr} {osl : Array (Option Value)} {f : Addr} {args : Args} {binds : List (Str × Value)} {K : Frag}
    {p : Program} {loose : List Str} {mean : ExcName → Option Value} {mg mb : Str → Option Value}
    (X : K.In s.heap) (T : Top p loose mean mg mb s.heap)
    (ho : K.lookup f = some ⟨oc, od, .func (fnOf name qual params body scope dV kV doc pm an cdv ct), osl⟩) (hcd : codeIn K cdv qual = true) (hroom : A.depth < recursionLimit)
    (hbind : BindsTo s (fnOf name qual params body scope dV kV doc pm an cdv ct) args binds) (hloc : ∀ y ∈ binds, scope.names.lookup y.1 = some .local)
    (h : ∀ h₁, Fr s.heap s.heap.objs.size h₁ (fun y => binds.reverse.lookup y) → News s.heap s.heap.objs.size h₁ [] →
      wpAny (model PySem.Challenge.rw_ik0159_01.row.prog w) (A.deeper (envOf qual scope s.heap.objs.size f cdv)) (execs body (envOf qual scope s.heap.objs.size f cdv))
        (fun fl s' => R (.ok (.ret (match fl with | .ret v => v | _ => .none))) s') (fun _ _ => False)
        { s with heap := h₁, toks := s.toks + binds.length })
    (hco : scope.isCoroutine = false) (hgen : scope.isGenerator = false) (hk : scope.kind = .function)
    (hcell : ∀ x ∈ scope.names, x.2 ≠ .cell) : codeAny (model PySem.Challenge.rw_ik0159_01.row.prog w) A (.call (.ref f) args) R s := by
  refine codeAny_call_def (fd := fnOf name qual params body scope dV kV doc pm an cdv ct) (body := body) (binds := binds) hroom (X _ _ ho) rfl T.nolimit (codeRec_of X hcd) rfl hbind hcell hloc (fun h₁ hns hk₁ => ?_) hco hgen hk
  exact wpAny_mono (h h₁ ⟨hns, hk₁, Nat.le_refl _⟩ News.nil) (fun _ _ x => x) (fun _ _ x => x.elim)


local macro_rules | `(tactic| fail "m units64") => `(tactic| first | fail "m q_all" | ((try first | show (Around.deeper (Ar _ _ _ _) _).units + _ < _ | show (Around.deeper (Ar _ _ _ _) _).units + _ + _ < _ | show (Around.deeper (Ar _ _ _ _) _).units < _); have hcL9 := cLine_is; (try simp only [units_in1, units_deeper, Around.mark_units, units_caller] at *); (try dsimp only at *); omega))
local macro_rules | `(tactic| fail "m m_fn") => `(tactic| ((case F => k_asm); (case N => k_asm)))
local macro_rules | `(tactic| fail "m m_hu") => `(tactic| ((case hd => (show (Ar _ _ _ _).depth + 1 + _ < _; dsimp only [Ar]; omega)); (case hu => fail "m units64")))
local macro_rules | `(tactic| fail "m m_sz") => `(tactic| (simp only [List.length_cons, List.length_nil, List.length_append]; omega))
example : True := by w_top off; trivial
open PySem.SeqAt

inductive Sg where
  | star
  | txt (x : Str)
  deriving DecidableEq
noncomputable def sgD : Sg → PyData
  | .star => .list [.str (Str.ofString "star")]
  | .txt x => .str x
noncomputable def sgOk : Sg → Bool
  | .star => true
  | .txt x => PyData.strOk x
inductive SgIs (st : Addr) : Value → Sg → Prop
  | star : SgIs st (.ref st) .star
  | txt (x : Str) (t : Tok) : SgIs st (.str x t) (.txt x)
noncomputable abbrev SgsAre (st : Addr) : List Value → List Sg → Prop := Paired (SgIs st)
noncomputable def IsStar (h : Heap) (st : Addr) : Prop := ∃ t n, h.get? st = some (W.listOf #[.str (Str.ofString "star") t] n)
theorem IsStar.keeps {h h' : Heap} {st : Addr} (x : IsStar h st) (hk : ∀ b o, h.get? b = some o → h'.get? b = some o) : IsStar h' st :=
  let ⟨t, n, e⟩ := x; ⟨t, n, hk _ _ e⟩

theorem eqv_sg (p q : Sg) : PyData.eqv (sgD p) (sgD q) = decide (p = q) := by
  cases p <;> cases q <;> simp [sgD, PyData.eqv, PyData.eqvAll]
  rename_i x y
  by_cases h : x = y <;> simp [h]
theorem eqvAll_sg : ∀ ps qs : List Sg, PyData.eqvAll (ps.map sgD) (qs.map sgD) = decide (ps = qs)
  | [], [] => by simp [PyData.eqvAll]
  | [], _ :: _ => by simp [PyData.eqvAll]
  | _ :: _, [] => by simp [PyData.eqvAll]
  | p :: ps, q :: qs => by
    simp only [List.map_cons, PyData.eqvAll, eqv_sg, eqvAll_sg ps qs, List.cons.injEq, Bool.decide_and]
theorem canLay_sgs : ∀ ps : List Sg, (∀ p ∈ ps, sgOk p = true) → PyData.canLayAll0 (ps.map sgD) = true
  | [], _ => by simp [PyData.canLayAll0]
  | p :: ps, h => by
    simp only [List.map_cons, PyData.canLayAll0, Bool.and_eq_true]
    refine ⟨?_, canLay_sgs ps fun q hq => h q (.tail _ hq)⟩
    have := h p (.head _)
    cases p with
    | star => simp [sgD, PyData.canLay0, PyData.canLayAll0, PyData.strOk]; decide
    | txt x => simpa [sgD, PyData.canLay0, sgOk] using this
theorem depth_sgs : ∀ ps : List Sg, PyData.depthAll (ps.map sgD) ≤ 3
  | [] => by simp [PyData.depthAll]
  | p :: ps => by
    have h1 := depth_sgs ps
    have h2 : (sgD p).depth ≤ 3 := by cases p <;> simp [sgD, PyData.depth, PyData.depthAll]
    simp only [List.map_cons, PyData.depthAll]
    omega
theorem shaped_sgs {ps : List Sg} (h : ∀ p ∈ ps, sgOk p = true) : SeqAt.shaped (.list (ps.map sgD)) = true := by
  have h1 := depth_sgs ps
  have h2 : PyData.depth (.list (ps.map sgD)) ≤ 64 := by simp only [PyData.depth]; omega
  show (PyData.canLay0 (.list (ps.map sgD)) && decide (PyData.depth (.list (ps.map sgD)) ≤ 64)) = true
  rw [Bool.and_eq_true]
  exact ⟨by simp only [PyData.canLay0]; exact canLay_sgs ps h, decide_eq_true h2⟩
theorem reads_sgs {h : Heap} {st : Addr} (S : IsStar h st) : ∀ {vs : List Value} {ps : List Sg}, SgsAre st vs ps → ∃ as, ReadsAll h vs (ps.map sgD) as
  | _, _, .nil => ⟨_, .nil⟩
  | _, _, .cons hd r => by
    obtain ⟨as, ra⟩ := reads_sgs S r
    cases hd with
    | star =>
      obtain ⟨t, n, e⟩ := S
      exact ⟨_, .cons (Reads.list e rfl rfl (.cons (.str _ _) .nil)) ra⟩
    | txt x t => exact ⟨_, .cons (.str _ _) ra⟩
theorem reads_sgl {h : Heap} {st a : Addr} {vs : List Value} {n : Nat} {ps : List Sg} (S : IsStar h st) (ha : h.get? a = some (W.listOf vs.toArray n)) (hs : SgsAre st vs ps) : ∃ as, Reads h (.ref a) (.list (ps.map sgD)) as := by
  obtain ⟨as, ra⟩ := reads_sgs S hs
  exact ⟨_, Reads.list ha rfl rfl (by simpa using ra)⟩
theorem reads_txt {h : Heap} {vs : List Value} {xs : List Str} (c : CarriedAll vs (xs.map PyData.str)) : ReadsAll h vs ((xs.map Sg.txt).map sgD) [] := by
  induction xs generalizing vs with
  | nil => cases c; exact .nil
  | cons x xs ih => cases c with | cons hc r => cases hc with | str _ t => exact (by simpa [sgD] using ReadsAll.cons (Reads.str (h := h) x t) (ih r))
theorem reads_txl {h : Heap} {a : Addr} {vs : List Value} {xs : List Str} (ha : h.IsList a vs.toArray) (hs : CarriedAll vs (xs.map PyData.str)) : Reads h (.ref a) (.list ((xs.map Sg.txt).map sgD)) [a] := by
  obtain ⟨o, e, hc, n, hd⟩ := ha
  exact Reads.list e hc hd (by simpa using reads_txt hs)

section
variable {prog : Program} {w : World} {A : Around} {E : Value → Shared → Prop} {s : Shared} {a b : Addr} {ps qs : List Sg} {as bs : List Addr} {Q : Value → Shared → Prop}
theorem eq_sgs (ra : Reads s.heap (.ref a) (.list (ps.map sgD)) as) (rb : Reads s.heap (.ref b) (.list (qs.map sgD)) bs) (ha : ∀ p ∈ ps, sgOk p = true) (hb : ∀ p ∈ qs, sgOk p = true) (hu : A.units + 64 < cLine)
    (h : Q (.bool (decide (ps = qs))) s) : wpAny (model prog w) A (compareOp .Eq (.ref a) (.ref b)) Q E s :=
  eq_dataH ra rb (shaped_sgs ha) (shaped_sgs hb) hu (by rw [PyData.eqv, eqvAll_sg]; exact h)
theorem ne_sgs (ra : Reads s.heap (.ref a) (.list (ps.map sgD)) as) (rb : Reads s.heap (.ref b) (.list (qs.map sgD)) bs) (ha : ∀ p ∈ ps, sgOk p = true) (hb : ∀ p ∈ qs, sgOk p = true) (hu : A.units + 64 < cLine)
    (h : Q (.bool (!decide (ps = qs))) s) : wpAny (model prog w) A (compareOp .NotEq (.ref a) (.ref b)) Q E s :=
  ne_dataH ra rb (shaped_sgs ha) (shaped_sgs hb) hu (by rw [PyData.eqv, eqvAll_sg]; exact h)
end
section
variable {prog : Program} {w : World} {A : Around} {E : Value → Shared → Prop} {s : Shared} {st : Addr} {v : Value} {p : Sg} {Q : Value → Shared → Prop}
theorem reads_sg1 {h : Heap} (S : IsStar h st) (hv : SgIs st v p) : ∃ as, Reads h v (sgD p) as := by
  cases hv with
  | star => obtain ⟨t, n, e⟩ := S; exact ⟨_, Reads.list e rfl rfl (.cons (.str _ _) .nil)⟩
  | txt x t => exact ⟨_, .str _ _⟩
theorem shaped_sg1 (h : sgOk p = true) : SeqAt.shaped (sgD p) = true := by
  cases p with
  | star => simp [sgD, SeqAt.shaped, PyData.canLay0, PyData.canLayAll0, PyData.depth, PyData.depthAll, PyData.strOk]; decide
  | txt x => simpa [sgD, SeqAt.shaped, PyData.canLay0, PyData.depth, sgOk] using h
theorem eq_sg1 {y : Str} {u : Tok} (S : IsStar s.heap st) (hv : SgIs st v p) (hp : sgOk p = true) (hy : PyData.strOk y = true) (hu : A.units + 64 < cLine) (h : Q (.bool (decide (p = .txt y))) s) :
    wpAny (model prog w) A (compareOp .Eq v (.str y u)) Q E s := by
  obtain ⟨as, ra⟩ := reads_sg1 S hv
  refine eq_dataH (db := sgD (.txt y)) ra (.str y u) (shaped_sg1 hp) (shaped_sg1 (by simpa [sgOk] using hy)) hu ?_
  rw [eqv_sg]; exact h
theorem ne_star {u : Addr} (S : IsStar s.heap st) (hu' : u = st) (hv : SgIs st v p) (hp : sgOk p = true) (hu : A.units + 64 < cLine) (h : Q (.bool (!decide (p = .star))) s) :
    wpAny (model prog w) A (compareOp .NotEq v (.ref u)) Q E s := by
  subst hu'
  obtain ⟨as, ra⟩ := reads_sg1 S hv
  obtain ⟨bs, rb⟩ := reads_sg1 S (SgIs.star (st := u))
  refine ne_dataH ra rb (shaped_sg1 hp) (shaped_sg1 (p := .star) rfl) hu ?_
  rw [eqv_sg]; exact h
end
theorem paired_at {α β : Type} {F : α → β → Prop} {l₁ : List α} {l₂ : List β} (h : Paired F l₁ l₂) : ∀ (i : Nat) (x : α), l₁[i]? = some x → ∃ y, l₂[i]? = some y ∧ F x y := by
  induction h with
  | nil => intro i x h; cases h
  | cons hd r ih => intro i x h; cases i with
    | zero => cases h; exact ⟨_, rfl, hd⟩
    | succ i => exact ih i x h
theorem paired_len {α β : Type} {F : α → β → Prop} : ∀ {l₁ : List α} {l₂ : List β}, Paired F l₁ l₂ → l₁.length = l₂.length
  | _, _, .nil => rfl
  | _, _, .cons _ r => by simp [paired_len r]
theorem paired_app {α β : Type} {F : α → β → Prop} {a₁ : List α} {a₂ : List β} : ∀ {l₁ : List α} {l₂ : List β}, Paired F l₁ l₂ → Paired F a₁ a₂ → Paired F (l₁ ++ a₁) (l₂ ++ a₂)
  | _, _, .nil, h => h
  | _, _, .cons hd r, h => .cons hd (paired_app r h)
theorem take_snoc {α : Type} {l : List α} {i : Nat} {x : α} (h : l[i]? = some x) : l.take (i + 1) = l.take i ++ [x] := by
  rw [List.take_add_one, h]; rfl
theorem paired_last {α β : Type} {F : α → β → Prop} {l₁ : List α} {l₂ : List β} (h : Paired F l₁ l₂) (hne : l₂ ≠ []) : ∃ u v p, l₁ = u ++ [v] ∧ l₂.getLast? = some p ∧ F v p := by
  induction h with
  | nil => exact absurd rfl hne
  | cons hd r ih =>
    cases r with
    | nil => exact ⟨[], _, _, rfl, rfl, hd⟩
    | cons hd' r' =>
      obtain ⟨u, v, p, e, g, hv⟩ := ih (List.cons_ne_nil _ _)
      exact ⟨_ :: u, v, p, by rw [e]; rfl, by rw [List.getLast?_cons_cons]; exact g, hv⟩
example : True := by w_top off; trivial
theorem mem_split {α : Type} {P : α → Prop} {a : α} {l : List α} (p : α) (hp : p ∈ a :: l) (h1 : P a) (h2 : p ∈ l → P p) : P p := (List.mem_cons.mp hp).elim (fun e => e ▸ h1) h2
theorem mem_one {α : Type} {P : α → Prop} {a : α} (p : α) (hp : p ∈ [a]) (h : P a) : P p := List.mem_singleton.mp hp ▸ h

section
variable {prog : Program} {w : World} {A : Around} {E : Value → Shared → Prop} {s : Shared} {env : Env} {h₀ : Heap} {x : Str} {body : List Stmt} {Q : Flow → Shared → Prop}

structure LSt where
  led : List (Addr × Obj)
  nms : List (Str × Value)

noncomputable def Same (x : Str) (stored : List Str) (m₀ : Str → Option Value) (c : LSt) (m : Str → Option Value) : Prop :=
  (∀ p ∈ c.nms, m p.1 = some p.2) ∧ ∀ z, z ≠ x → (∀ p ∈ c.nms, z ≠ p.1) → stored.contains z = false → m z = m₀ z

noncomputable def TurnPost (h₀ : Heap) (L : Addr) (x : Str) (stored : List Str) (m₀ : Str → Option Value) (I : Addr) (oI : Obj) (P : LSt → Prop) (s : Shared) (Q : Flow → Shared → Prop) (f : Flow) (s₂ : Shared) : Prop :=
  match f with
  | .ret v => Q (.ret v) s₂
  | .brk => Q .next s₂
  | _ => ∃ h' tk c m, s₂ = { s with heap := h', toks := tk } ∧ Fr h₀ L h' m ∧ News h₀ L h' ((I, oI) :: c.led) ∧ (∀ p ∈ c.led, p.1 ≠ I) ∧ Same x stored m₀ c m ∧ P c

theorem TurnPost.next {L : Addr} {stored : List Str} {m₀ m : Str → Option Value} {I : Addr} {oI : Obj} {P : LSt → Prop} {h' : Heap} {tk : Nat} {f : Flow} (hf : f = .next ∨ f = .cont) (c : LSt) (F : Fr h₀ L h' m) (N : News h₀ L h' ((I, oI) :: c.led)) (hI : ∀ p ∈ c.led, p.1 ≠ I)
    (hs : Same x stored m₀ c m) (hp : P c) : TurnPost h₀ L x stored m₀ I oI P s Q f { s with heap := h', toks := tk } := by
  rcases hf with rfl | rfl <;> exact ⟨h', tk, c, m, rfl, F, N, hI, hs, hp⟩

theorem loop_turns {I : Addr} {fp : List Addr} {n : Nat} {It : Nat → Value → Prop} {St : Nat → Heap → Prop} {m₀ : Str → Option Value} (stored : List Str) (P : Nat → LSt → Prop) (c₀ : LSt)
    (W : Walks prog w A I fp [I] n It St) (hLf : env.locals ∉ fp) (hI : h₀.get? I = none) (hst : St 0 s.heap) (hIo : ∀ i h, St i h → ∃ o, h.get? I = some o)
    (hfp : ∀ b ∈ fp, b = I ∨ (∃ o, h₀.get? b = some o) ∨ ∃ o, ∀ i c, P i c → (b, o) ∈ c.led)
    (F : Fr h₀ env.locals s.heap m₀) (N : News h₀ env.locals s.heap c₀.led) (hn : ∀ p ∈ c₀.led, p.1 ≠ I) (hs₀ : ∀ p ∈ c₀.nms, m₀ p.1 = some p.2) (hp₀ : P 0 c₀)
    (turn : ∀ i v c (u : Str → Option Value) h tk oI, i < n → It i v → P i c → (∀ p ∈ c.led, p.1 ≠ I) → Fr h₀ env.locals h (fun y => if y = x then some v else kstB (fun z => if stored.contains z then u z else m₀ z) c.nms y) → News h₀ env.locals h ((I, oI) :: c.led) →
      wpAny (model prog w) A (execs body env) (TurnPost h₀ env.locals x stored m₀ I oI (P (i + 1)) s Q) E { s with heap := h, toks := tk })
    (done : ∀ c (u : Str → Option Value) h tk, P n c → Fr h₀ env.locals h (fun y => if y = x then u y else kstB (fun z => if stored.contains z then u z else m₀ z) c.nms y) → News h₀ env.locals h c.led → Q .next { s with heap := h, toks := tk }) :
    LoopAtV prog w A h₀ env x body Q E (.ref I) s := by
  let J : Nat → (Str → Option Value) → List (Addr × Obj) → Prop := fun i m nx => ∃ c, nx = LSt.led c ∧ Same x stored m₀ c m ∧ P i c
  refine ⟨I, fp, [I], n, It, St, m₀, c₀.led, J, rfl, W, hLf, (fun b hb => (List.mem_singleton.mp hb) ▸ hI), (fun p hp hq => hn p hp (List.mem_singleton.mp hq)), hst, F, N, ⟨c₀, rfl, ⟨hs₀, fun _ _ _ _ => rfl⟩, hp₀⟩, ?_, ?_⟩
  · rintro i v m₁ news₁ s₁ own ⟨h, tk, rfl⟩ hin hIt ⟨c, rfl, ⟨h1, h2⟩, hP⟩ hoff hown hheld hall hst₁ F₁ N₁
    obtain ⟨oI, heI⟩ := hIo _ _ hst₁
    have hoI : (I, oI) ∈ own := hall I (W.sub I (List.mem_singleton.mpr rfl)) hI oI heI
    have hcI : ∀ p ∈ c.led, p.1 ≠ I := fun p hp e => hoff p hp (List.mem_singleton.mpr e)
    refine wpAny_mono (turn i v c m₁ h tk oI hin hIt hP hcI (kst_fr h1 h2 F₁) (fun p hp => ?_)) (fun f s₂ t => ?_) fun _ _ e => e
    · apply mem_split p hp
      · exact N₁ _ (List.mem_append_left _ hoI)
      intro hp
      · exact N₁ _ (List.mem_append_right _ hp)
    · have fin : (∃ h' tk' c' m, s₂ = { s with heap := h', toks := tk' } ∧ Fr h₀ env.locals h' m ∧ News h₀ env.locals h' ((I, oI) :: LSt.led c') ∧ (∀ p ∈ LSt.led c', p.1 ≠ I) ∧ Same x stored m₀ c' m ∧ P (i + 1) c') →
          LoopStepU h₀ env.locals [I] own (J (i + 1)) { s with heap := h, toks := tk } .next s₂ := by
        rintro ⟨h', tk', c', m, rfl, F', N', hI', hs', hP'⟩
        refine ⟨rfl, h', tk', m, c'.led, rfl, F', fun p hp => ?_, (fun p hp hq => hI' p hp (List.mem_singleton.mp hq)), c', rfl, hs', hP'⟩
        rcases List.mem_append.mp hp with hp | hp
        · rcases hfp p.1 (hown p hp) with e | ⟨o, e⟩ | ⟨o, e⟩
          · have := hheld p hp
            rw [e] at this
            have heI' : h.get? I = some oI := heI
            rw [show ({ s with heap := h, toks := tk } : Shared).heap = h from rfl, heI'] at this
            have hp' : p = (I, oI) := Prod.ext e (Option.some.inj this).symm
            rw [hp']
            exact N' _ (.head _)
          · have := (N₁ p (List.mem_append_left _ hp)).2.2
            rw [e] at this; cases this
          · have e1 := (N₁ (p.1, o) (List.mem_append_right _ (e i c hP))).1
            have e2 := (N₁ p (List.mem_append_left _ hp)).1
            have hp' : p = (p.1, o) := Prod.ext rfl (Option.some.inj (e2.symm.trans e1))
            rw [hp']
            exact N' _ (.tail _ (e (i + 1) c' hP'))
        · exact N' p (.tail _ hp)
      cases f with
      | ret v => exact .ret t
      | brk => exact .brk t
      | next => exact .next (fin t)
      | cont => exact .cont (fin t)
  · rintro h tk m nx F₁ N₁ _ ⟨c, rfl, ⟨h1, h2⟩, hP⟩
    exact done c m h tk hP (kst_frOut h1 h2 F₁) N₁

theorem for_text {xt : Str} {tx : Tok} {m₀ : Str → Option Value} (stored : List Str) (P : Nat → LSt → Prop) (c₀ : LSt) (hh : A.handled = none)
    (F : Fr h₀ env.locals s.heap m₀) (N : News h₀ env.locals s.heap c₀.led) (hs₀ : ∀ p ∈ c₀.nms, m₀ p.1 = some p.2) (hp₀ : P 0 c₀)
    (turn : ∀ i k t c (u : Str → Option Value) h tk I oI, xt.cps[i]? = some k → P i c → (∀ p ∈ c.led, p.1 ≠ I) → Fr h₀ env.locals h (fun y => if y = x then some (.str ⟨#[k]⟩ t) else kstB (fun z => if stored.contains z then u z else m₀ z) c.nms y) → News h₀ env.locals h ((I, oI) :: c.led) →
      wpAny (model prog w) A (execs body env) (TurnPost h₀ env.locals x stored m₀ I oI (P (i + 1)) s Q) E { s with heap := h, toks := tk })
    (done : ∀ c (u : Str → Option Value) h tk, P xt.cps.size c → Fr h₀ env.locals h (fun y => if y = x then u y else kstB (fun z => if stored.contains z then u z else m₀ z) c.nms y) → News h₀ env.locals h c.led → Q .next { s with heap := h, toks := tk }) :
    wpAny (model prog w) A (pyIter (.str xt tx)) (fun it s₂ => LoopAtV prog w A h₀ env x body Q E it s₂) E s := by
  have fin : ∀ (o : Obj) (St : Nat → Heap → Prop), Walks prog w A s.heap.objs.size [s.heap.objs.size] [s.heap.objs.size] xt.cps.size (SignAt xt) St → St 0 (s.heap.push o) → (∀ i h, St i h → ∃ o, h.get? s.heap.objs.size = some o) →
      LoopAtV prog w A h₀ env x body Q E (.ref s.heap.objs.size) { s with heap := s.heap.push o } := by
    intro o St W hst hIo
    refine loop_turns stored P c₀ W ?_ (next_is_new F) hst hIo ?_ (F.push _) (fun p hp => ⟨Heap.get?_push_of_some _ (N p hp).1, (N p hp).2⟩) ?_ hs₀ hp₀ ?_ done
    · intro hm
      exact absurd F.ns.lt ((List.mem_singleton.mp hm) ▸ Nat.lt_irrefl _)
    · intro b hb
      exact .inl (List.mem_singleton.mp hb)
    · intro p hp e
      exact absurd (Heap.lt_size (N p hp).1) (e ▸ Nat.lt_irrefl _)
    · rintro i v c u h tk oI hi ⟨k, t, hk, rfl⟩ hP hI F' N'
      exact turn i k t c u h tk _ oI hk hP hI F' N'
  cases ha : xt.cps.all (· < 128)
  · exact wpAny_pyIter_wide ha (fin _ _ (Walks.strWide hh _ xt tx) ⟨_, Heap.get?_push_size _ rfl, rfl, rfl⟩ fun i h st => let ⟨o, ho, _⟩ := st; ⟨o, ho⟩)
  · exact wpAny_pyIter_ascii ha (fin _ _ (Walks.strAscii hh _ xt tx) ⟨_, Heap.get?_push_size _ rfl, rfl, rfl⟩ fun i h st => let ⟨o, ho, _⟩ := st; ⟨o, ho⟩)

theorem for_list {ax : Addr} {oax : Obj} {its : List Value} {m₀ : Str → Option Value} (stored : List Str) (P : Nat → LSt → Prop) (c₀ : LSt) (hh : A.handled = none)
    (hcls : oax.cls = .type "list") (hdat : ∃ n, oax.data = .seq its.toArray n) (src : h₀.get? ax = some oax ∨ ∀ i c, P i c → (ax, oax) ∈ c.led)
    (F : Fr h₀ env.locals s.heap m₀) (N : News h₀ env.locals s.heap c₀.led) (hs₀ : ∀ p ∈ c₀.nms, m₀ p.1 = some p.2) (hp₀ : P 0 c₀)
    (turn : ∀ i v c (u : Str → Option Value) h tk I oI, its[i]? = some v → P i c → (∀ p ∈ c.led, p.1 ≠ I) → Fr h₀ env.locals h (fun y => if y = x then some v else kstB (fun z => if stored.contains z then u z else m₀ z) c.nms y) → News h₀ env.locals h ((I, oI) :: c.led) →
      wpAny (model prog w) A (execs body env) (TurnPost h₀ env.locals x stored m₀ I oI (P (i + 1)) s Q) E { s with heap := h, toks := tk })
    (done : ∀ c (u : Str → Option Value) h tk, P its.length c → Fr h₀ env.locals h (fun y => if y = x then u y else kstB (fun z => if stored.contains z then u z else m₀ z) c.nms y) → News h₀ env.locals h c.led → Q .next { s with heap := h, toks := tk }) :
    wpAny (model prog w) A (pyIter (.ref ax)) (fun it s₂ => LoopAtV prog w A h₀ env x body Q E it s₂) E s := by
  have hax : s.heap.get? ax = some oax ∧ ax ≠ env.locals := by
    rcases src with e | e
    · exact ⟨F.keep _ _ e, fun q => absurd (Nat.lt_of_lt_of_le (Heap.lt_size e) F.above) (q ▸ Nat.lt_irrefl _)⟩
    · exact ⟨(N _ (e 0 c₀ hp₀)).1, (N _ (e 0 c₀ hp₀)).2.1⟩
  have hl : s.heap.IsList ax its.toArray := ⟨oax, hax.1, hcls, hdat⟩
  have hlt : ax < s.heap.objs.size := Heap.lt_size hax.1
  refine wpAny_pyIter_list hl ?_
  have W := Walks.list (prog := prog) (w := w) hh s.heap.objs.size ax (Nat.ne_of_lt hlt) its.toArray
  refine loop_turns stored P c₀ W ?_ (next_is_new F) ⟨⟨_, Heap.get?_push_size _ rfl, rfl, rfl⟩, hl.push _⟩ (fun i h st => let ⟨o, ho, _⟩ := st.1; ⟨o, ho⟩) ?_ (F.push _) (fun p hp => ⟨Heap.get?_push_of_some _ (N p hp).1, (N p hp).2⟩) ?_ hs₀ hp₀ ?_ ?_
  · intro hm
    rcases List.mem_cons.mp hm with e | hm
    · exact absurd F.ns.lt (e ▸ Nat.lt_irrefl _)
    · exact hax.2 (List.mem_singleton.mp hm).symm
  · intro b hb
    rcases List.mem_cons.mp hb with e | hb
    · exact .inl e
    · apply mem_one b hb
      exact .inr (src.imp (fun e => ⟨_, e⟩) fun e => ⟨oax, e⟩)
  · intro p hp e
    exact absurd (Heap.lt_size (N p hp).1) (e ▸ Nat.lt_irrefl _)
  · intro i v c u h tk oI hi hv hP hI F' N'
    exact turn i v c u h tk _ oI (by simpa using hv) hP hI F' N'
  · intro c u h tk hP F' N'
    exact done c u h tk (by simpa using hP) F' N'
end
example : True := by w_top off; trivial
section
variable {prog : Program} {w : World} {A : Around} {E : Value → Shared → Prop} {s : Shared} {h₀ h : Heap} {L D b : Addr} {m : Str → Option Value} {news news' : List (Addr × Obj)} {us ws : List Value} {n n2 : Nat}
theorem my_last {value slice : PySem.Expr} {l : Addr} {vs : List Value} {u : Tok} {v : Value} {Q : Value → Shared → Prop} (hl : s.heap.IsList l (vs ++ [v]).toArray) (h : Q v s)
    (hs : subscripted slice false (.ref l) (.int (-1) u) = operate [.ref l, .int (-1) u] (getItem (.ref l) (.int (-1) u)) := by with_unfolding_all rfl) :
    wpAny (model prog w) A (subscriptTail value slice (.ref l) (.int (-1) u)) Q E s :=
  tail_any hl.typeIs slot_list_getitem.lookup (wpAny_getItem_list_neg hl (by decide) (by simp; omega) (by decide) (by
    have e : ((-1 : Int) + ((vs ++ [v]).toArray.size : Nat)).toNat = vs.length := by simp; omega
    rw [e]; simp) h) hs
theorem my_extend {Q : Value → Shared → Prop} (F : Fr h₀ L s.heap m) (N : News h₀ L s.heap news) (hb : (b, W.listOf ws.toArray n2) ∈ news)
    (U : Upd D (W.listOf us.toArray n) (W.listOf (us ++ ws).toArray (n + 1)) news news') (hne : ws ≠ []) (hz : us.length + ws.length ≤ 10000000)
    (h : ∀ h', Fr h₀ L h' m → News h₀ L h' news' → Q .none { s with heap := h' }) : wpAny (model prog w) A (call (.builtin "list.extend") [.ref D, .ref b]) Q E s := by
  refine kl_extend (l := us ++ ws) F N hb (by simp) (by simpa using hne) U ?_ (by simp only [sizeLine_eq]; show us.length ≤ _; omega) (by simp only [sizeLine_eq, List.size_toArray]; omega) h
  have : Builtin.List.listTooLong (us.toArray.size + ws.toArray.size) = false := by
    simp only [Builtin.List.listTooLong, List.size_toArray, sizeLine_eq, decide_eq_false_iff_not]; omega
  rw [this]; simp
theorem my_append {x : Value} {Q : Value → Shared → Prop} (F : Fr h₀ L s.heap m) (N : News h₀ L s.heap news)
    (U : Upd D (W.listOf us.toArray n) (W.listOf (us ++ [x]).toArray (n + 1)) news news') (hz : us.length ≤ 10000000)
    (h : ∀ h', Fr h₀ L h' m → News h₀ L h' news' → Q .none { s with heap := h' }) : wpAny (model prog w) A (call (.builtin "list.append") [.ref D, x]) Q E s := by
  have e : us.toArray.push x = (us ++ [x]).toArray := by simp
  refine append_K (its := us.toArray) (n := n) (news' := news') F N (by rw [e]; exact U) h (by simp only [List.size_toArray, sizeLine_eq]; omega)
end
local macro_rules | `(tactic| walk_at "call builtin:list.append") => `(tactic| (k_here; (with_reducible show wpAny _ _ (call (Value.builtin _) [Value.ref _, _]) _ _ _); k_dflt (refine' my_append ?F ?N ?U ?z ?_; fail "m m_fn"; (case U => k_upd); (case z => fail "m m_sz")); intro h' F' N'; (try dsimp only at N'); (try k_sweep)))
local macro_rules | `(tactic| walk_at "call builtin:list.extend") => `(tactic| (k_here; (with_reducible show wpAny _ _ (call (Value.builtin _) [Value.ref _, Value.ref _]) _ _ _); k_dflt (refine' my_extend ?F ?N ?b ?U ?ne ?z ?_; fail "m m_fn"; (case b => k_mem); (case U => k_upd); (case ne => exact List.cons_ne_nil _ _); (case z => fail "m m_sz")); intro h' F' N'; (try dsimp only at N'); (try k_sweep)))
local macro_rules | `(tactic| walk_at "callWith") => `(tactic| (plain_pass; (with_reducible show wpAny _ _ (callWith _ (Value.builtin _) [_] (backTo _ (starEach [_] _)) []) _ _ _); refine callWith_method1 ?_))
theorem st_ne {stored : List Str} {z x : Str} (h3 : stored.contains z = false) (hx : stored.contains x = true) : z ≠ x := fun e => by rw [e, hx] at h3; cases h3
theorem st_bot {b : Bool} {α : Type} {u v : α} (h : b = false) : (if b = true then u else v) = v := by rw [h]; rfl
theorem st_if {α : Type} {z x : Str} {v a b : α} (h : z ≠ x) (g : a = b) : (if z = x then v else a) = b := (if_neg h).trans g
theorem st_ifr {α : Type} {z x : Str} {v a b : α} (h : z ≠ x) (g : a = b) : a = (if z = x then v else b) := g.trans (if_neg h).symm
example : True := by w_top off; trivial
noncomputable def okC (c : Nat) : Bool := c == 97 || c == 39 || c == 34 || c == 32 || c == 42 || c == 63 || c == 233 || c == 37
noncomputable abbrev tx (l : List Nat) : Str := ⟨l.toArray⟩
noncomputable def bareB (l : List Nat) : Bool := l != [] && l.all (fun c => c == 97 || c == 37)
theorem okC_cases {c : Nat} (h : okC c = true) : c = 97 ∨ c = 39 ∨ c = 34 ∨ c = 32 ∨ c = 42 ∨ c = 63 ∨ c = 233 ∨ c = 37 := by
  simp only [okC, Bool.or_eq_true, beq_iff_eq, or_assoc] at h; exact h
theorem okC_lt {c : Nat} (h : okC c = true) : c < 1114112 := by rcases okC_cases h with rfl | rfl | rfl | rfl | rfl | rfl | rfl | rfl <;> decide
theorem sgOk_one {c : Nat} (h : okC c = true) : sgOk (.txt ⟨#[c]⟩) = true := by
  simp [sgOk, PyData.strOk, okC_lt h]
theorem tx_ne_empty (l : List Nat) : (tx l != Str.ofString "") = (l != []) := by
  cases l with
  | nil => decide +kernel
  | cons c r =>
    have h2 : (Str.ofString "").cps.size = 0 := by decide +kernel
    have : tx (c :: r) ≠ Str.ofString "" := fun e => by
      have h := congrArg (fun x : Str => x.cps.size) e
      dsimp only at h
      rw [h2] at h
      simp at h
    rw [bne_iff_ne.mpr this]; rfl
theorem bare_filter {l : List Nat} (hl : ∀ c ∈ l, okC c = true) :
    decide (List.map Sg.txt (List.filter (fun a => !!(Builtin.Str.occurrences (Str.ofString "a%") a 0 (Str.ofString "a%").length 1).isEmpty) (signs (tx l))) = List.map Sg.txt []) = l.all (fun c => c == 97 || c == 37) := by
  unfold signs
  induction l with
  | nil => rfl
  | cons c r ih =>
    have ih := ih fun d hd => hl d (.tail _ hd)
    have key : (!!(Builtin.Str.occurrences (Str.ofString "a%") ⟨#[c]⟩ 0 (Str.ofString "a%").length 1).isEmpty) = !(c == 97 || c == 37) := by
      rcases okC_cases (hl c (.head _)) with rfl | rfl | rfl | rfl | rfl | rfl | rfl | rfl <;> decide +kernel
    simp only [List.map_cons, List.filter_cons, key, List.all_cons]
    cases hc : (c == 97 || c == 37)
    · simp
    · simpa using ih

theorem bare_spec (w : World) (l : List Nat) (t : Tok) (s : Shared) (I : Inv w s.heap) (hl : ∀ c ∈ l, okC c = true) (hx : (tx l).length ≤ 1048576) : Pure w 127 [.str (tx l) t] s (fun r _ => r = .bool (bareB l)) := by
  have hne := tx_ne_empty l
  have hfil := bare_filter hl
  have hok : ∀ x ∈ signs (tx l), sgOk (.txt x) = true := by
    intro x hx
    simp only [signs, List.mem_map] at hx
    obtain ⟨c, hc, rfl⟩ := hx
    exact sgOk_one (hl c hc)
  generalize hX : tx l = x at *
  (first | unfold Pure | unfold PureN)
  have X9p := Inv.X I
  revert X9p
  k_fill
  intro X9p dp9p un9p fr9p gd9p E9p hdp9p hun9p
  (refine wpAny_call ?_)
  obtain ⟨p9p, loose9p, mean9p, mg9p, mb9p, T9p⟩ := Inv.T I
  k_dflt (refine' pure_def (binds := [(Str.ofString "word", .str x t)]) X9p T9p ?ho ?hcd ?hroom ?hbind ?hloc ?_ ?c2 ?c3 ?c4 ?c5; (case ho => k_is); (case hcd => k_is); (case hroom => (show dp9p < _; omega)); (case hbind => exact BindsTo.of_eq rfl); (case c5 => decide); (case hloc => exact locs rfl); (case c2 => exact rfl); (case c3 => exact rfl); (case c4 => exact rfl))
  intro h9p F9p N9p
  (try dsimp only)
  (try k_fold)
  (repeat' ((( (fail_if_success (with_reducible show PySem.wpAny _ _ (PySem.exec (PySem.Stmt.For _ _ _ _ _) _) _ _ _)); (fail_if_success (with_reducible show PySem.wpAny _ _ (PySem.exec (PySem.Stmt.While _ _ _ _) _) _ _ _)); first | (k_unfold; (try dsimp only)) | (first | ((with_reducible show PySem.wpAny _ _ (PySem.execs _ _) _ _ _); k_fold) | walk1 | (dsimp only; walk1)) | fail "no step"))))
  · rename_i hne' D ys g1 tk1 hD hIs hC gnN gnA l' g2 F2 N2 l1
    refine eq_sgs (reads_txl ⟨_, N2.get mem1, rfl, _, rfl⟩ hC) (reads_txl (vs := []) (xs := []) ⟨_, N2.get (.head _), rfl, _, rfl⟩ .nil) ?_ (by simp) (by fail "m units64") ?_
    · intro p hp
      simp only [List.mem_map, List.mem_filter] at hp
      obtain ⟨y, ⟨hy, _⟩, rfl⟩ := hp
      exact hok y hy
    · rw [hfil]
      (repeat' ((( (fail_if_success (with_reducible show PySem.wpAny _ _ (PySem.exec (PySem.Stmt.For _ _ _ _ _) _) _ _ _)); (fail_if_success (with_reducible show PySem.wpAny _ _ (PySem.exec (PySem.Stmt.While _ _ _ _) _) _ _ _)); first | (k_unfold; (try dsimp only)) | (first | ((with_reducible show PySem.wpAny _ _ (PySem.execs _ _) _ _ _); k_fold) | walk1 | (dsimp only; walk1)) | fail "no step"))))
      refine Done.intro F2 ?_
      rw [bareB, ← hne, hne']
      rfl
  · rename_i hne'
    refine Done.intro (by assumption) ?_
    rw [bareB, ← hne, hne']
    rfl
example : True := by w_top off; trivial
noncomputable def q1 (p : Sg) : List Sg := if p = .txt (tx [39]) then [.txt (tx [39]), .txt (tx [34]), .txt (tx [39]), .txt (tx [34]), .txt (tx [39])] else [p]
noncomputable def quotedSg (ps : List Sg) : List Sg := .txt (tx [39]) :: (ps.flatMap q1 ++ [.txt (tx [39])])

theorem s39 : Str.ofString "'" = tx [39] := by decide +kernel
theorem s34 : Str.ofString "\"" = tx [34] := by decide +kernel
theorem q1_len (ps : List Sg) : (ps.flatMap q1).length ≤ 5 * ps.length := by
  induction ps with
  | nil => simp
  | cons p r ih =>
    have : (q1 p).length ≤ 5 := by unfold q1; split <;> simp
    simp only [List.flatMap_cons, List.length_append, List.length_cons]; omega
theorem quoted_spec (w : World) (st a : Addr) (vs : List Value) (n : Nat) (ps : List Sg) (s : Shared) (I : Inv w s.heap) (S : IsStar s.heap st) (ha : s.heap.get? a = some (W.listOf vs.toArray n)) (hv : SgsAre st vs ps) (hok : ∀ p ∈ ps, sgOk p = true) (hl : ps.length ≤ 100000) :
    Pure w 146 [.ref a] s (fun r h => ∃ b us k, r = .ref b ∧ s.heap.get? b = none ∧ h.get? b = some (W.listOf us.toArray k) ∧ SgsAre st us (quotedSg ps)) := by
  (first | unfold Pure | unfold PureN)
  have X9p := Inv.X I
  revert X9p
  k_fill
  intro X9p dp9p un9p fr9p gd9p E9p hdp9p hun9p
  (refine wpAny_call ?_)
  obtain ⟨p9p, loose9p, mean9p, mg9p, mb9p, T9p⟩ := Inv.T I
  k_dflt (refine' pure_def (binds := [(Str.ofString "parts", .ref a)]) X9p T9p ?ho ?hcd ?hroom ?hbind ?hloc ?_ ?c2 ?c3 ?c4 ?c5; (case ho => k_is); (case hcd => k_is); (case hroom => (show dp9p < _; omega)); (case hbind => exact BindsTo.of_eq rfl); (case c5 => decide); (case hloc => exact locs rfl); (case c2 => exact rfl); (case c3 => exact rfl); (case c4 => exact rfl))
  intro h9p F9p N9p
  (try dsimp only)
  (try k_fold)
  (repeat' ((( (fail_if_success (with_reducible show PySem.wpAny _ _ (PySem.exec (PySem.Stmt.For _ _ _ _ _) _) _ _ _)); (fail_if_success (with_reducible show PySem.wpAny _ _ (PySem.exec (PySem.Stmt.While _ _ _ _) _) _ _ _)); first | (k_unfold; (try dsimp only)) | (first | ((with_reducible show PySem.wpAny _ _ (PySem.execs _ _) _ _ _); k_fold) | walk1 | (dsimp only; walk1)) | fail "no step"))))
  rename_i l' _ _ _ F' N'
  refine For_invV s.heap (by rfl) (by rfl) ?_ (by intro _; rfl) PassesOwn.never
  walk1
  refine for_list (oax := W.listOf vs.toArray n) (its := vs) [] (fun i c => c.nms = [] ∧ ∃ us k, c.led = [(l', W.listOf us.toArray k)] ∧ SgsAre st us ((ps.take i).flatMap q1)) ⟨[(l', W.listOf [].toArray 0)], []⟩ (by rfl) rfl ⟨n, rfl⟩ (.inl ha) F' N' (fun _ h => nomatch h) ⟨rfl, [], 0, rfl, .nil⟩ ?_ ?_
  · intro i v z19 u h tk I' oI hi z29 hI F1 N1
    show wpAny _ _ _ _ _ _
    k_fold
    obtain ⟨led, nms⟩ := z19
    obtain ⟨hn, us, k, hled, hus⟩ := z29
    dsimp only at hn hled F1 N1
    subst hn hled
    obtain ⟨p, hp, hvp⟩ := paired_at hv i v hi
    have hpok := hok p (List.mem_of_getElem? hp)
    (repeat' ((( (fail_if_success (with_reducible show PySem.wpAny _ _ (PySem.exec (PySem.Stmt.For _ _ _ _ _) _) _ _ _)); (fail_if_success (with_reducible show PySem.wpAny _ _ (PySem.exec (PySem.Stmt.While _ _ _ _) _) _ _ _)); first | (k_unfold; (try dsimp only)) | (first | ((with_reducible show PySem.wpAny _ _ (PySem.execs _ _) _ _ _); k_fold) | walk1 | (dsimp only; walk1)) | fail "no step"))))
    refine eq_sg1 (S.keeps F1.keep) hvp hpok (by decide +kernel) (by fail "m units64") ?_
    have hne : @Ne Nat l' I' := hI _ (.head _)
    have hlen : us.length ≤ 5 * ps.length := by
      rw [paired_len hus]
      exact Nat.le_trans (q1_len _) (Nat.mul_le_mul_left 5 (List.length_take_le' _ _))
    (repeat' ((( (fail_if_success (with_reducible show PySem.wpAny _ _ (PySem.exec (PySem.Stmt.For _ _ _ _ _) _) _ _ _)); (fail_if_success (with_reducible show PySem.wpAny _ _ (PySem.exec (PySem.Stmt.While _ _ _ _) _) _ _ _)); first | (k_unfold; (try dsimp only)) | (first | ((with_reducible show PySem.wpAny _ _ (PySem.execs _ _) _ _ _); k_fold) | walk1 | (dsimp only; walk1)) | fail "no step"))))
    · refine TurnPost.next (.inl rfl) ⟨[(l', W.listOf (us ++ _).toArray (k + 1))], []⟩ (by assumption) (by ((refine cb_drop (by assumption) ?_; repeat (first | exact List.forall_mem_nil _ | refine fm_cons (by k_mem) ?_)))) (by ((repeat (first | exact List.forall_mem_nil _ | refine fm_cons (by first | assumption | k_ne) ?_)))) (by ((refine ⟨?n9, ?m9⟩; (case n9 => (repeat (first | exact List.forall_mem_nil _ | refine fm_cons (by with_unfolding_all rfl) ?_))); (case m9 => intro z h1 h2 h3; (((try dsimp only [kstB]); (repeat (first | refine st_if (st_ne (by assumption) (by rfl)) ?_ | refine st_if (by assumption) ?_ | refine st_if (by rename (∀ p, p ∈ _ → _ ≠ _) => h9; exact h9 _ (.head _)) ?_ | refine st_if (by rename (∀ p, p ∈ _ → _ ≠ _) => h9; exact h9 _ mem1) ?_ | refine st_if (by rename (∀ p, p ∈ _ → _ ≠ _) => h9; exact h9 _ mem2) ?_ | refine st_if (by rename (∀ p, p ∈ _ → _ ≠ _) => h9; exact h9 _ mem3) ?_)); first | exact st_bot (by assumption) | ((repeat (first | refine st_ifr (st_ne (by assumption) (by rfl)) ?_ | refine st_ifr (by assumption) ?_ | refine st_ifr (by rename (∀ p, p ∈ _ → _ ≠ _) => h9; exact h9 _ (.head _)) ?_ | refine st_ifr (by rename (∀ p, p ∈ _ → _ ≠ _) => h9; exact h9 _ mem1) ?_ | refine st_ifr (by rename (∀ p, p ∈ _ → _ ≠ _) => h9; exact h9 _ mem2) ?_ | refine st_ifr (by rename (∀ p, p ∈ _ → _ ≠ _) => h9; exact h9 _ mem3) ?_)); exact rfl))))))) ⟨rfl, _, _, rfl, ?_⟩
      rw [take_snoc hp, List.flatMap_append, s39, s34]
      rename p = Sg.txt _ => hpe
      refine paired_app hus ?_
      rw [s39] at hpe
      rw [List.flatMap_cons, List.flatMap_nil, List.append_nil, q1, if_pos hpe]
      exact .cons (.txt _ _) (.cons (.txt _ _) (.cons (.txt _ _) (.cons (.txt _ _) (.cons (.txt _ _) .nil))))
    · refine TurnPost.next (.inl rfl) ⟨[(l', W.listOf (us ++ _).toArray (k + 1))], []⟩ (by assumption) (by ((refine cb_drop (by assumption) ?_; repeat (first | exact List.forall_mem_nil _ | refine fm_cons (by k_mem) ?_)))) (by ((repeat (first | exact List.forall_mem_nil _ | refine fm_cons (by first | assumption | k_ne) ?_)))) (by ((refine ⟨?n9, ?m9⟩; (case n9 => (repeat (first | exact List.forall_mem_nil _ | refine fm_cons (by with_unfolding_all rfl) ?_))); (case m9 => intro z h1 h2 h3; (((try dsimp only [kstB]); (repeat (first | refine st_if (st_ne (by assumption) (by rfl)) ?_ | refine st_if (by assumption) ?_ | refine st_if (by rename (∀ p, p ∈ _ → _ ≠ _) => h9; exact h9 _ (.head _)) ?_ | refine st_if (by rename (∀ p, p ∈ _ → _ ≠ _) => h9; exact h9 _ mem1) ?_ | refine st_if (by rename (∀ p, p ∈ _ → _ ≠ _) => h9; exact h9 _ mem2) ?_ | refine st_if (by rename (∀ p, p ∈ _ → _ ≠ _) => h9; exact h9 _ mem3) ?_)); first | exact st_bot (by assumption) | ((repeat (first | refine st_ifr (st_ne (by assumption) (by rfl)) ?_ | refine st_ifr (by assumption) ?_ | refine st_ifr (by rename (∀ p, p ∈ _ → _ ≠ _) => h9; exact h9 _ (.head _)) ?_ | refine st_ifr (by rename (∀ p, p ∈ _ → _ ≠ _) => h9; exact h9 _ mem1) ?_ | refine st_ifr (by rename (∀ p, p ∈ _ → _ ≠ _) => h9; exact h9 _ mem2) ?_ | refine st_ifr (by rename (∀ p, p ∈ _ → _ ≠ _) => h9; exact h9 _ mem3) ?_)); exact rfl))))))) ⟨rfl, _, _, rfl, ?_⟩
      rw [take_snoc hp, List.flatMap_append]
      rename ¬ p = Sg.txt _ => hpe
      refine paired_app hus ?_
      rw [s39] at hpe
      rw [List.flatMap_cons, List.flatMap_nil, List.append_nil, q1, if_neg hpe]
      exact .cons hvp .nil
  · rintro ⟨led, nms⟩ u h tk ⟨hn, us, k, hled, hus⟩ F1 N1
    dsimp only at hn hled F1 N1
    subst hn hled
    have hlen : us.length ≤ 5 * ps.length := by
      rw [paired_len hus]
      exact Nat.le_trans (q1_len _) (Nat.mul_le_mul_left 5 (List.length_take_le' _ _))
    (repeat' ((( (fail_if_success (with_reducible show PySem.wpAny _ _ (PySem.exec (PySem.Stmt.For _ _ _ _ _) _) _ _ _)); (fail_if_success (with_reducible show PySem.wpAny _ _ (PySem.exec (PySem.Stmt.While _ _ _ _) _) _ _ _)); first | (k_unfold; (try dsimp only)) | (first | ((with_reducible show PySem.wpAny _ _ (PySem.execs _ _) _ _ _); k_fold) | walk1 | (dsimp only; walk1)) | fail "no step"))))
    refine Done.intro (by assumption) ⟨_, _, _, rfl, ?_, News.get (by assumption) (.head _), ?_⟩
    · exact News.fresh (by assumption) (.head _)
    · rw [List.take_of_length_le (Nat.le_of_eq (paired_len hv).symm)] at hus
      rw [s39]
      exact paired_app (.cons (.txt _ _) hus) (.cons (.txt _ _) .nil)
example : True := by w_top off; trivial
noncomputable def sg1 (c : Nat) : Sg := .txt (if c = 63 then tx [109, 97, 114, 107] else if c = 32 then tx [92, 32] else tx [c])
noncomputable def stepP (ps : List Sg) (c : Nat) : List Sg := if c = 42 then (if ps.getLast? = some .star then ps else ps ++ [.star]) else ps ++ [sg1 c]
noncomputable def partsOf (l : List Nat) : List Sg := l.foldl stepP []

theorem parts_ok {l : List Nat} (h : ∀ c ∈ l, okC c = true) : ∀ p ∈ partsOf l, sgOk p = true := by
  have : ∀ (l : List Nat), (∀ c ∈ l, okC c = true) → ∀ ps : List Sg, (∀ p ∈ ps, sgOk p = true) → ∀ p ∈ l.foldl stepP ps, sgOk p = true := by
    intro l
    induction l with
    | nil => intro _ ps hp; exact hp
    | cons c r ih =>
      intro hl ps hp
      refine ih (fun d hd => hl d (.tail _ hd)) _ ?_
      intro p hq
      unfold stepP at hq
      split at hq
      · split at hq
        · exact hp p hq
        · rcases List.mem_append.mp hq with h1 | h1
          · exact hp p h1
          · rw [List.mem_singleton.mp h1]; rfl
      · rcases List.mem_append.mp hq with h1 | h1
        · exact hp p h1
        · rw [List.mem_singleton.mp h1]
          rcases okC_cases (hl c (.head _)) with rfl | rfl | rfl | rfl | rfl | rfl | rfl | rfl <;> decide +kernel
  exact this l h [] (fun _ h => nomatch h)
theorem stepP_len (ps : List Sg) (c : Nat) : (stepP ps c).length ≤ ps.length + 1 := by
  unfold stepP; split
  · split <;> simp
  · simp
theorem parts_len (l : List Nat) : (partsOf l).length ≤ l.length := by
  have : ∀ (l : List Nat) (ps : List Sg), (l.foldl stepP ps).length ≤ ps.length + l.length := by
    intro l
    induction l with
    | nil => intro ps; simp
    | cons c r ih =>
      intro ps
      have h1 := ih (stepP ps c)
      have h2 := stepP_len ps c
      simp only [List.foldl_cons, List.length_cons]; omega
  simpa [partsOf] using this l []
theorem parts_spec (w : World) (st : Addr) (l : List Nat) (t tm : Tok) (s : Shared) (I : Inv w s.heap) (S : IsStar s.heap st) (hok : ∀ c ∈ l, okC c = true) (hl : l.length ≤ 100000) :
    Pure w 139 [.str (tx l) t, .ref st, .str (Str.ofString "mark") tm] s (fun r h => ∃ b us k, r = .ref b ∧ s.heap.get? b = none ∧ h.get? b = some (W.listOf us.toArray k) ∧ SgsAre st us (partsOf l)) := by
  (first | unfold Pure | unfold PureN)
  have X9p := Inv.X I
  revert X9p
  k_fill
  intro X9p dp9p un9p fr9p gd9p E9p hdp9p hun9p
  (refine wpAny_call ?_)
  obtain ⟨p9p, loose9p, mean9p, mg9p, mb9p, T9p⟩ := Inv.T I
  k_dflt (refine' pure_def (binds := [(Str.ofString "line", .str (tx l) t), (Str.ofString "star", .ref st), (Str.ofString "mark", .str (Str.ofString "mark") tm)]) X9p T9p ?ho ?hcd ?hroom ?hbind ?hloc ?_ ?c2 ?c3 ?c4 ?c5; (case ho => k_is); (case hcd => k_is); (case hroom => (show dp9p < _; omega)); (case hbind => exact BindsTo.of_eq rfl); (case c5 => decide); (case hloc => exact locs rfl); (case c2 => exact rfl); (case c3 => exact rfl); (case c4 => exact rfl))
  intro h9p F9p N9p
  (try dsimp only)
  (try k_fold)
  (repeat' ((( (fail_if_success (with_reducible show PySem.wpAny _ _ (PySem.exec (PySem.Stmt.For _ _ _ _ _) _) _ _ _)); (fail_if_success (with_reducible show PySem.wpAny _ _ (PySem.exec (PySem.Stmt.While _ _ _ _) _) _ _ _)); first | (k_unfold; (try dsimp only)) | (first | ((with_reducible show PySem.wpAny _ _ (PySem.execs _ _) _ _ _); k_fold) | walk1 | (dsimp only; walk1)) | fail "no step"))))
  rename_i l' _ _ _ F' N'
  refine For_invV s.heap (by rfl) (by rfl) ?_ (by intro _; rfl) PassesOwn.never
  walk1
  refine for_text [] (fun i c => c.nms = [] ∧ ∃ us k, c.led = [(l', W.listOf us.toArray k)] ∧ SgsAre st us (partsOf (l.take i))) ⟨[(l', W.listOf [].toArray 0)], []⟩ (by rfl) F' N' (fun _ h => nomatch h) ⟨rfl, [], 0, rfl, .nil⟩ ?_ ?_
  · intro i c tc z19 u h tk I' oI hi z29 hI F1 N1
    show wpAny _ _ _ _ _ _
    k_fold
    obtain ⟨led, nms⟩ := z19
    obtain ⟨hn, us, k, hled, hus⟩ := z29
    dsimp only at hn hled F1 N1
    subst hn hled
    have hc : l[i]? = some c := by simpa using hi
    have hcok := hok c (List.mem_of_getElem? hc)
    have hne : @Ne Nat l' I' := hI _ (.head _)
    have hlen : us.length ≤ 100000 := by
      rw [paired_len hus]
      exact Nat.le_trans (parts_len _) (Nat.le_trans (List.length_take_le' _ _) hl)
    have fin : ∀ (v : Value) (p : Sg), SgIs st v p → stepP (partsOf (l.take i)) c = partsOf (l.take i) ++ [p] → SgsAre st (us ++ [v]) (partsOf (l.take (i + 1))) := by
      intro v p hv hp
      rw [take_snoc hc, partsOf, List.foldl_append]
      show SgsAre st (us ++ [v]) (stepP (partsOf (l.take i)) c)
      rw [hp]
      exact paired_app hus (.cons hv .nil)
    rcases okC_cases hcok with rfl | rfl | rfl | rfl | rfl | rfl | rfl | rfl
    rotate_left 4
    · (repeat' ( (fail_if_success (with_reducible show PySem.wpAny _ _ (PySem.truthy (PySem.Value.ref _)) _ _ _)); (fail_if_success (with_reducible show PySem.wpAny _ _ (PyProof.Rows.subscriptTail _ _ (PySem.Value.ref _) _) _ _ _)); (fail_if_success (with_reducible show PySem.wpAny _ _ (PySem.setItem (PySem.Value.ref _) _ _) _ _ _)); (fail_if_success (with_reducible show PySem.wpAny _ _ (PySem.compareOp _ (PySem.Value.ref _) (PySem.Value.ref _)) _ _ _)); (fail_if_success (with_reducible show PySem.wpAny _ _ (PySem.call (PySem.Value.builtin "len") _) _ _ _)); (fail_if_success (with_reducible show PySem.wpAny _ _ (PySem.call (PySem.Value.builtin "list.reverse") _) _ _ _)); (( (fail_if_success (with_reducible show PySem.wpAny _ _ (PySem.exec (PySem.Stmt.For _ _ _ _ _) _) _ _ _)); (fail_if_success (with_reducible show PySem.wpAny _ _ (PySem.exec (PySem.Stmt.While _ _ _ _) _) _ _ _)); first | (k_unfold; (try dsimp only)) | (first | ((with_reducible show PySem.wpAny _ _ (PySem.execs _ _) _ _ _); k_fold) | walk1 | (dsimp only; walk1)) | fail "no step"))))
      rename News _ _ _ _ => N2
      rename Fr _ _ _ _ => F2
      have S2 := S.keeps F2.keep
      obtain ⟨as1, r1⟩ := reads_sgl S2 (N2.get (by k_mem)) hus
      refine eq_sgs (qs := []) r1 (reads_txl (vs := []) (xs := []) ⟨_, N2.get (.head _), rfl, _, rfl⟩ .nil) (parts_ok fun c hc => hok c (List.mem_of_mem_take hc)) (fun _ h => nomatch h) (by fail "m units64") ?_
      (repeat' ( (fail_if_success (with_reducible show PySem.wpAny _ _ (PySem.truthy (PySem.Value.ref _)) _ _ _)); (fail_if_success (with_reducible show PySem.wpAny _ _ (PyProof.Rows.subscriptTail _ _ (PySem.Value.ref _) _) _ _ _)); (fail_if_success (with_reducible show PySem.wpAny _ _ (PySem.setItem (PySem.Value.ref _) _ _) _ _ _)); (fail_if_success (with_reducible show PySem.wpAny _ _ (PySem.compareOp _ (PySem.Value.ref _) (PySem.Value.ref _)) _ _ _)); (fail_if_success (with_reducible show PySem.wpAny _ _ (PySem.call (PySem.Value.builtin "len") _) _ _ _)); (fail_if_success (with_reducible show PySem.wpAny _ _ (PySem.call (PySem.Value.builtin "list.reverse") _) _ _ _)); (( (fail_if_success (with_reducible show PySem.wpAny _ _ (PySem.exec (PySem.Stmt.For _ _ _ _ _) _) _ _ _)); (fail_if_success (with_reducible show PySem.wpAny _ _ (PySem.exec (PySem.Stmt.While _ _ _ _) _) _ _ _)); first | (k_unfold; (try dsimp only)) | (first | ((with_reducible show PySem.wpAny _ _ (PySem.execs _ _) _ _ _); k_fold) | walk1 | (dsimp only; walk1)) | fail "no step"))))
      · rename decide (partsOf _ = []) = true => hnil
        have hnil := of_decide_eq_true hnil
        rename News _ _ _ _ => nE
        (try simp only [List.push_toArray] at nE)
        refine TurnPost.next (.inl rfl) ⟨[(l', W.listOf (us ++ _).toArray (k + 1))], []⟩ (by assumption) (by ((refine cb_drop (by assumption) ?_; repeat (first | exact List.forall_mem_nil _ | refine fm_cons (by k_mem) ?_)))) (by ((repeat (first | exact List.forall_mem_nil _ | refine fm_cons (by first | assumption | k_ne) ?_)))) (by ((refine ⟨?n9, ?m9⟩; (case n9 => (repeat (first | exact List.forall_mem_nil _ | refine fm_cons (by with_unfolding_all rfl) ?_))); (case m9 => intro z h1 h2 h3; (((try dsimp only [kstB]); (repeat (first | refine st_if (st_ne (by assumption) (by rfl)) ?_ | refine st_if (by assumption) ?_ | refine st_if (by rename (∀ p, p ∈ _ → _ ≠ _) => h9; exact h9 _ (.head _)) ?_ | refine st_if (by rename (∀ p, p ∈ _ → _ ≠ _) => h9; exact h9 _ mem1) ?_ | refine st_if (by rename (∀ p, p ∈ _ → _ ≠ _) => h9; exact h9 _ mem2) ?_ | refine st_if (by rename (∀ p, p ∈ _ → _ ≠ _) => h9; exact h9 _ mem3) ?_)); first | exact st_bot (by assumption) | ((repeat (first | refine st_ifr (st_ne (by assumption) (by rfl)) ?_ | refine st_ifr (by assumption) ?_ | refine st_ifr (by rename (∀ p, p ∈ _ → _ ≠ _) => h9; exact h9 _ (.head _)) ?_ | refine st_ifr (by rename (∀ p, p ∈ _ → _ ≠ _) => h9; exact h9 _ mem1) ?_ | refine st_ifr (by rename (∀ p, p ∈ _ → _ ≠ _) => h9; exact h9 _ mem2) ?_ | refine st_ifr (by rename (∀ p, p ∈ _ → _ ≠ _) => h9; exact h9 _ mem3) ?_)); exact rfl))))))) ⟨rfl, _, _, rfl, ?_⟩
        refine fin _ _ .star ?_
        rw [hnil]; rfl
      · rename decide (partsOf _ = []) = false => hnil
        have hnil := of_decide_eq_false hnil
        obtain ⟨u', v, p, hu, hg, hvp⟩ := paired_last hus hnil
        have hpok : sgOk p = true := parts_ok (fun c hc => hok c (List.mem_of_mem_take hc)) p (List.mem_of_getLast? hg)
        subst hu
        refine my_last (vs := u') (v := v) ⟨W.listOf (u' ++ [v]).toArray k, N2.get (by k_mem), rfl, _, rfl⟩ ?_
        (repeat' ((( (fail_if_success (with_reducible show PySem.wpAny _ _ (PySem.exec (PySem.Stmt.For _ _ _ _ _) _) _ _ _)); (fail_if_success (with_reducible show PySem.wpAny _ _ (PySem.exec (PySem.Stmt.While _ _ _ _) _) _ _ _)); first | (k_unfold; (try dsimp only)) | (first | ((with_reducible show PySem.wpAny _ _ (PySem.execs _ _) _ _ _); k_fold) | walk1 | (dsimp only; walk1)) | fail "no step"))))
        refine ne_star S2 rfl hvp hpok (by fail "m units64") ?_
        (repeat' ((( (fail_if_success (with_reducible show PySem.wpAny _ _ (PySem.exec (PySem.Stmt.For _ _ _ _ _) _) _ _ _)); (fail_if_success (with_reducible show PySem.wpAny _ _ (PySem.exec (PySem.Stmt.While _ _ _ _) _) _ _ _)); first | (k_unfold; (try dsimp only)) | (first | ((with_reducible show PySem.wpAny _ _ (PySem.execs _ _) _ _ _); k_fold) | walk1 | (dsimp only; walk1)) | fail "no step"))))
        · have hq : p = .star := by
            first | assumption | (rename decide (p = Sg.star) = _ => hq; simpa using hq) | (rename (!decide (p = Sg.star)) = _ => hq; simpa using hq)
          refine TurnPost.next (.inl rfl) ⟨[(l', W.listOf (u' ++ [v]).toArray k)], []⟩ (by assumption) (by ((refine cb_drop (by assumption) ?_; repeat (first | exact List.forall_mem_nil _ | refine fm_cons (by k_mem) ?_)))) (by ((repeat (first | exact List.forall_mem_nil _ | refine fm_cons (by first | assumption | k_ne) ?_)))) (by ((refine ⟨?n9, ?m9⟩; (case n9 => (repeat (first | exact List.forall_mem_nil _ | refine fm_cons (by with_unfolding_all rfl) ?_))); (case m9 => intro z h1 h2 h3; (((try dsimp only [kstB]); (repeat (first | refine st_if (st_ne (by assumption) (by rfl)) ?_ | refine st_if (by assumption) ?_ | refine st_if (by rename (∀ p, p ∈ _ → _ ≠ _) => h9; exact h9 _ (.head _)) ?_ | refine st_if (by rename (∀ p, p ∈ _ → _ ≠ _) => h9; exact h9 _ mem1) ?_ | refine st_if (by rename (∀ p, p ∈ _ → _ ≠ _) => h9; exact h9 _ mem2) ?_ | refine st_if (by rename (∀ p, p ∈ _ → _ ≠ _) => h9; exact h9 _ mem3) ?_)); first | exact st_bot (by assumption) | ((repeat (first | refine st_ifr (st_ne (by assumption) (by rfl)) ?_ | refine st_ifr (by assumption) ?_ | refine st_ifr (by rename (∀ p, p ∈ _ → _ ≠ _) => h9; exact h9 _ (.head _)) ?_ | refine st_ifr (by rename (∀ p, p ∈ _ → _ ≠ _) => h9; exact h9 _ mem1) ?_ | refine st_ifr (by rename (∀ p, p ∈ _ → _ ≠ _) => h9; exact h9 _ mem2) ?_ | refine st_ifr (by rename (∀ p, p ∈ _ → _ ≠ _) => h9; exact h9 _ mem3) ?_)); exact rfl))))))) ⟨rfl, _, _, rfl, ?_⟩
          rw [take_snoc hc, partsOf, List.foldl_append]
          show SgsAre st (u' ++ [v]) (stepP (partsOf (l.take i)) 42)
          rw [stepP, if_pos rfl, hg, hq, if_pos rfl]
          exact hus
        · have hq : p ≠ .star := by
            first | assumption | (rename decide (p = Sg.star) = _ => hq; simpa using hq) | (rename (!decide (p = Sg.star)) = _ => hq; simpa using hq)
          rename News _ _ _ _ => nE
          (try simp only [List.push_toArray] at nE)
          refine TurnPost.next (.inl rfl) ⟨[(l', W.listOf ((u' ++ [v]) ++ _).toArray (k + 1))], []⟩ (by assumption) (by ((refine cb_drop (by assumption) ?_; repeat (first | exact List.forall_mem_nil _ | refine fm_cons (by k_mem) ?_)))) (by ((repeat (first | exact List.forall_mem_nil _ | refine fm_cons (by first | assumption | k_ne) ?_)))) (by ((refine ⟨?n9, ?m9⟩; (case n9 => (repeat (first | exact List.forall_mem_nil _ | refine fm_cons (by with_unfolding_all rfl) ?_))); (case m9 => intro z h1 h2 h3; (((try dsimp only [kstB]); (repeat (first | refine st_if (st_ne (by assumption) (by rfl)) ?_ | refine st_if (by assumption) ?_ | refine st_if (by rename (∀ p, p ∈ _ → _ ≠ _) => h9; exact h9 _ (.head _)) ?_ | refine st_if (by rename (∀ p, p ∈ _ → _ ≠ _) => h9; exact h9 _ mem1) ?_ | refine st_if (by rename (∀ p, p ∈ _ → _ ≠ _) => h9; exact h9 _ mem2) ?_ | refine st_if (by rename (∀ p, p ∈ _ → _ ≠ _) => h9; exact h9 _ mem3) ?_)); first | exact st_bot (by assumption) | ((repeat (first | refine st_ifr (st_ne (by assumption) (by rfl)) ?_ | refine st_ifr (by assumption) ?_ | refine st_ifr (by rename (∀ p, p ∈ _ → _ ≠ _) => h9; exact h9 _ (.head _)) ?_ | refine st_ifr (by rename (∀ p, p ∈ _ → _ ≠ _) => h9; exact h9 _ mem1) ?_ | refine st_ifr (by rename (∀ p, p ∈ _ → _ ≠ _) => h9; exact h9 _ mem2) ?_ | refine st_ifr (by rename (∀ p, p ∈ _ → _ ≠ _) => h9; exact h9 _ mem3) ?_)); exact rfl))))))) ⟨rfl, _, _, rfl, ?_⟩
          refine fin _ _ .star ?_
          rw [stepP, if_pos rfl, hg, if_neg (by simpa using hq)]
    all_goals (
      (repeat' ((( (fail_if_success (with_reducible show PySem.wpAny _ _ (PySem.exec (PySem.Stmt.For _ _ _ _ _) _) _ _ _)); (fail_if_success (with_reducible show PySem.wpAny _ _ (PySem.exec (PySem.Stmt.While _ _ _ _) _) _ _ _)); first | (k_unfold; (try dsimp only)) | (first | ((with_reducible show PySem.wpAny _ _ (PySem.execs _ _) _ _ _); k_fold) | walk1 | (dsimp only; walk1)) | fail "no step"))))
      rename News _ _ _ _ => nE
      (try simp only [List.push_toArray] at nE)
      refine TurnPost.next (.inl rfl) ⟨[(l', W.listOf (us ++ _).toArray (k + 1))], []⟩ (by assumption) (by ((refine cb_drop (by assumption) ?_; repeat (first | exact List.forall_mem_nil _ | refine fm_cons (by k_mem) ?_)))) (by ((repeat (first | exact List.forall_mem_nil _ | refine fm_cons (by first | assumption | k_ne) ?_)))) (by ((refine ⟨?n9, ?m9⟩; (case n9 => (repeat (first | exact List.forall_mem_nil _ | refine fm_cons (by with_unfolding_all rfl) ?_))); (case m9 => intro z h1 h2 h3; (((try dsimp only [kstB]); (repeat (first | refine st_if (st_ne (by assumption) (by rfl)) ?_ | refine st_if (by assumption) ?_ | refine st_if (by rename (∀ p, p ∈ _ → _ ≠ _) => h9; exact h9 _ (.head _)) ?_ | refine st_if (by rename (∀ p, p ∈ _ → _ ≠ _) => h9; exact h9 _ mem1) ?_ | refine st_if (by rename (∀ p, p ∈ _ → _ ≠ _) => h9; exact h9 _ mem2) ?_ | refine st_if (by rename (∀ p, p ∈ _ → _ ≠ _) => h9; exact h9 _ mem3) ?_)); first | exact st_bot (by assumption) | ((repeat (first | refine st_ifr (st_ne (by assumption) (by rfl)) ?_ | refine st_ifr (by assumption) ?_ | refine st_ifr (by rename (∀ p, p ∈ _ → _ ≠ _) => h9; exact h9 _ (.head _)) ?_ | refine st_ifr (by rename (∀ p, p ∈ _ → _ ≠ _) => h9; exact h9 _ mem1) ?_ | refine st_ifr (by rename (∀ p, p ∈ _ → _ ≠ _) => h9; exact h9 _ mem2) ?_ | refine st_ifr (by rename (∀ p, p ∈ _ → _ ≠ _) => h9; exact h9 _ mem3) ?_)); exact rfl))))))) ⟨rfl, _, _, rfl, ?_⟩
      refine fin _ _ (.txt _ _) ?_
      first | exact rfl | decide +kernel | (simp [stepP, sg1]; decide +kernel))
  · rintro ⟨led, nms⟩ u h tk ⟨hn, us, k, hled, hus⟩ F1 N1
    dsimp only at hn hled F1 N1
    subst hn hled
    (repeat' ((( (fail_if_success (with_reducible show PySem.wpAny _ _ (PySem.exec (PySem.Stmt.For _ _ _ _ _) _) _ _ _)); (fail_if_success (with_reducible show PySem.wpAny _ _ (PySem.exec (PySem.Stmt.While _ _ _ _) _) _ _ _)); first | (k_unfold; (try dsimp only)) | (first | ((with_reducible show PySem.wpAny _ _ (PySem.execs _ _) _ _ _); k_fold) | walk1 | (dsimp only; walk1)) | fail "no step"))))
    dsimp only
    k_unfold
    dsimp only
    refine Done.intro F1 ⟨_, _, _, rfl, News.fresh N1 (.head _), News.get N1 (.head _), ?_⟩
    rw [List.take_of_length_le (by simp)] at hus
    exact hus
example : True := by w_top off; trivial
noncomputable def ucode : Array Nat := #[14, 17, 4, 1, 1, 21, 9, 0, 604043296, 1, 0, 0, 0, 0, 0, 8, 4, 0, 13, 14, 21, 9, 0, 604043296, 1, 0, 0, 0, 0, 0, 8, 4, 0, 1]
noncomputable def unsafeC (c : Nat) : Bool := !(c == 97 || c == 37)
open PySem.Sre (inSet)
theorem inSet5 {c : Nat} (h : okC c = true) (seen : Sre.Seen) : ∃ seen', inSet ucode c ucode.size 5 true seen = .ok (unsafeC c, seen') := by
  rcases okC_cases h with rfl | rfl | rfl | rfl | rfl | rfl | rfl | rfl <;> exact ⟨_, rfl⟩
theorem inSet20 {c : Nat} (h : okC c = true) (seen : Sre.Seen) : ∃ seen', inSet ucode c ucode.size 20 true seen = .ok (unsafeC c, seen') := by
  rcases okC_cases h with rfl | rfl | rfl | rfl | rfl | rfl | rfl | rfl <;> exact ⟨_, rfl⟩
theorem admitted_ok (m : Sre.M) (hm : m.code = ucode) (hok : ∀ i, i < m.lim → okC (m.text.getD i 0) = true) : ∀ (fuel s : Nat) (seen : Sre.Seen), m.lim + 1 ≤ fuel + s →
    (∃ i seen', s ≤ i ∧ i < m.lim ∧ unsafeC (m.text.getD i 0) = true ∧ Sre.M.admitted m fuel s seen = .ok (some i, seen')) ∨
    ((∀ i, s ≤ i → i < m.lim → unsafeC (m.text.getD i 0) = false) ∧ ∃ seen', Sre.M.admitted m fuel s seen = .ok (none, seen')) := by
  intro fuel
  induction fuel with
  | zero => intro s seen hf; exact .inr ⟨fun i h1 h2 => by omega, seen, rfl⟩
  | succ fuel ih =>
    intro s seen hf
    by_cases hs : s ≥ m.lim
    · exact .inr ⟨fun i h1 h2 => by omega, seen, by unfold Sre.M.admitted; rw [if_pos hs]⟩
    · obtain ⟨seen1, e⟩ := inSet5 (hok s (by omega)) seen
      cases hu : unsafeC (m.text.getD s 0) with
      | true =>
        refine .inl ⟨s, seen1, Nat.le_refl _, by omega, hu, ?_⟩
        unfold Sre.M.admitted
        rw [if_neg hs, hm, e, hu]
      | false =>
        have step : Sre.M.admitted m (fuel + 1) s seen = Sre.M.admitted m fuel (s + 1) seen1 := by
          conv => lhs; unfold Sre.M.admitted
          rw [if_neg hs, hm, e, hu]
        rw [step]
        rcases ih (s + 1) seen1 (by omega) with ⟨i, seen', h1, h2, h3, h4⟩ | ⟨h1, h2⟩
        · exact .inl ⟨i, seen', by omega, h2, h3, h4⟩
        · refine .inr ⟨fun i a b => ?_, h2⟩
          by_cases hi : i = s
          · rw [hi]; exact hu
          · exact h1 i (by omega) b
noncomputable def um1 (x : Array Nat) : Sre.M := { code := ucode, text := x, lim := x.size, start := 0, pc := 18, pos := 0, handed := 0, marks := Array.replicate 0 none, mustAdvance := false, seen := ({} : Sre.Seen).add 14, lastStart := x.size }
noncomputable def um2 (x : Array Nat) (i : Nat) (seen : Sre.Seen) : Sre.M := { um1 x with seen := seen, start := i, pos := i, handed := i, frames := [{ wait := .nextStart, pc := 18, pos := i, outermost := true }], weight := 1 }
theorem um_search (x : Array Nat) (hx : x.size ≠ 0) : Sre.forSearch ucode x 0 0 x.size false = (um1 x).attemptFrom 0 true := by
  have h : ¬ ((decide (0 > x.size) || decide (x.size - 0 < 1)) = true) := by
    have h1 : ¬ (0 > x.size) := by omega
    have h2 : ¬ (x.size - 0 < 1) := by omega
    rw [decide_eq_false h1, decide_eq_false h2]; decide
  show (if (decide (0 > x.size) || decide (x.size - 0 < 1)) = true then _ else _) = _
  rw [if_neg h]
  rfl
theorem um_exec (x : Array Nat) (i : Nat) (seen : Sre.Seen) : (um2 x i seen).exec =
    (if i ≥ x.size then ({ um2 x i seen with seen := seen.add 13 } : Sre.M).say false else
      match Sre.inSet ucode (x.getD i 0) ucode.size 20 true (seen.add 13) with
      | .error why => ({ um2 x i seen with seen := seen.add 13 } : Sre.M).stick why
      | .ok (false, seen') => ({ um2 x i seen with seen := seen' } : Sre.M).say false
      | .ok (true, seen') => { um2 x i seen with seen := seen', pc := 33, pos := i + 1 }) := rfl
theorem search_run (x : Array Nat) (hx : x.size ≠ 0) (hok : ∀ i, i < x.size → okC (x.getD i 0) = true) :
    ((Sre.forSearch ucode x 0 0 x.size false).runFor 4).outcome = some (if (∀ i, i < x.size → unsafeC (x.getD i 0) = false) then .failed else .matched) := by
  rw [um_search x hx]
  rcases admitted_ok (um1 x) rfl hok (x.size + 1 - 0) 0 (um1 x).seen (by show x.size + 1 ≤ _; omega) with ⟨i, seen', _, hi, hu, e⟩ | ⟨h1, seen', e⟩
  · have hat : (um1 x).attemptFrom 0 true = um2 x i seen' := by
      show (match Sre.M.admitted (um1 x) (x.size + 1 - 0) 0 (um1 x).seen with
        | .ok (some s, seen) => Sre.M.attemptAt { um1 x with mustAdvance := false, seen } s true
        | .ok (none, seen) => Sre.M.say { um1 x with seen } false
        | .error why => (um1 x).stick why) = _
      rw [e]; rfl
    have hn : ¬ ∀ i, i < x.size → unsafeC (x.getD i 0) = false := fun h => by
      have h2 : unsafeC (x.getD i 0) = true := hu
      rw [h i hi] at h2; cases h2
    rw [hat, if_neg hn]
    obtain ⟨seen3, e3⟩ := inSet20 (hok i hi) (seen'.add 13)
    have hi' : i < x.size := hi
    have hx2 : (um2 x i seen').exec = { um2 x i seen' with seen := seen3, pc := 33, pos := i + 1 } := by
      rw [um_exec, if_neg (by omega), e3, show unsafeC (x.getD i 0) = true from hu]
    show ((um2 x i seen').exec.runFor 3).outcome = _
    rw [hx2]
    rfl
  · have hat : (um1 x).attemptFrom 0 true = ({ um1 x with seen := seen' } : Sre.M).say false := by
      show (match Sre.M.admitted (um1 x) (x.size + 1 - 0) 0 (um1 x).seen with
        | .ok (some s, seen) => Sre.M.attemptAt { um1 x with mustAdvance := false, seen } s true
        | .ok (none, seen) => Sre.M.say { um1 x with seen } false
        | .error why => (um1 x).stick why) = _
      rw [e]
    have hp : ∀ i, i < x.size → unsafeC (x.getD i 0) = false := fun i hi => h1 i (Nat.zero_le _) hi
    rw [hat, if_pos hp]
    rfl
section
variable {prog : Program} {w : World} {A : Around} {E : Value → Shared → Prop} {s : Shared}
noncomputable abbrev bfmObj (id : String) (self : Value) : Obj := { cls := .type "builtin_function_or_method", data := .fields #[.builtin id, self] }
theorem bound_call {p : Addr} {id : String} {self : Value} {rest : List Value} {b : Builtin} {Q : Value → Shared → Prop}
    (ho : s.heap.get? p = some (bfmObj id self)) (hq : plainId id = true) (hb : entryFor table id = some b)
    (hchk : ∀ (A : Around) (E : Value → Shared → Prop) (Q : Unit → Shared → Prop), Q () s → wpAny (model prog w) A (checkBoundCall id ⟨self :: rest, []⟩) Q E s)
    (h : wpAny (model prog w) A.in1 (b ⟨self :: rest, []⟩) (fun fin s' => ∃ v, fin = .done (.ret v) ∧ Q v s') E s) :
    wpAny (model prog w) A (call (.ref p) rest) Q E s := by
  refine wpAny_call (codeAny_of_tree ?_)
  show wpAny _ A.in1 (callAny (.ref p) ⟨rest, []⟩) _ _ _
  refine nd_load ho ?_
  show wpAny _ A.in1 (checkBoundCall id ⟨self :: rest, []⟩ >>= fun _ => again (.builtin id ⟨self :: rest, []⟩)) _ _ _
  refine wpAny_bind (hchk _ _ _ (wpAny_pure ⟨plainId_quiet hq _, codeAny_builtin hb ?_⟩))
  rw [Around.under_plainId hq]
  refine wpAny_mono h (fun fin s' hf => ?_) fun _ _ e => e
  obtain ⟨v, rfl, hv⟩ := hf
  exact hv
end
example : True := by w_top off; trivial
section
variable {prog : Program} {w : World} {A : Around} {E : Value → Shared → Prop} {s : Shared}
theorem bound_check {id T : String} {sig : Manifest.Signature} {a : Addr} {o : Obj} {rest : List Value} {Q : Unit → Shared → Prop} (hs : Manifest.signature? id = some sig) (hk : builtinKind id = some .method) (hv : Manifest.varargsMethods.contains id = false)
    (ho : s.heap.get? a = some o) (hT : o.cls = .type T) (hnc : (match o.data with | .cls _ => true | _ => false) = false) (hmod : isSubtype (.type T) (.type "module") = pure false)
    (hargs : Bind.checkArgs id { sig with full := s!"{Bind.lastOf T}.{Bind.lastOf id}" } ⟨.ref a :: rest, []⟩ = pure ()) (h : Q () s) : wpAny (model prog w) A (checkBoundCall id ⟨.ref a :: rest, []⟩) Q E s := by
  unfold checkBoundCall
  simp only [hs, hk, hv]
  rw [if_neg (by decide)]
  refine wpAny_bind (wpAny_isInstance (T := T) ⟨o, ho, hT⟩ hmod ?_)
  rw [if_neg (by decide)]
  have ht : wpAny (model prog w) A (isType (.ref a)) (fun b s' => b = false ∧ s' = s) E s := by
    simp only [isType, loadHead]
    refine wpAny_bind (wpAny_loadPart ho (wpAny_pure ⟨?_, rfl⟩))
    exact hnc
  refine wpAny_bind (wpAny_mono ht (fun b s' hb => ?_) fun _ _ e => e)
  obtain ⟨rfl, rfl⟩ := hb
  rw [if_neg (by decide)]
  refine wpAny_bind (wpAny_typeOf (T := T) ⟨o, ho, hT⟩ ?_)
  exact wpAny_of_eq hargs h

end
theorem sub_pattern : isSubtype (.type "re.Pattern") (.type "module") = pure false := by rw [isSubtype_type]; kernel_rfl
theorem sub_list_module : isSubtype (.type "list") (.type "module") = pure false := by rw [isSubtype_type]; kernel_rfl
theorem kind_search : builtinKind "re.Pattern.search" = some .method := by decide +kernel
theorem kind_append : builtinKind "list.append" = some .method := by decide +kernel
theorem plain_search : plainId "re.Pattern.search" = true := by decide +kernel
theorem va_search : Manifest.varargsMethods.contains "re.Pattern.search" = false := by decide +kernel
theorem va_append : Manifest.varargsMethods.contains "list.append" = false := by decide +kernel
theorem entry_search : entryFor table "re.Pattern.search" = some Builtin.«re.Pattern.search» := entryFor_of_tree (by kernel_rfl)
theorem sig_append : Manifest.signature? "list.append" = Manifest.sig_list.lookup "append" := signature?_of (id := "list.append") (n := ['d', 'n', 'e', 'p', 'p', 'a']) (o := ['t', 's', 'i', 'l']) (by kernel_rfl) F.owner_list

theorem owner_pattern : Manifest.owners.lookup (String.ofList ['n', 'r', 'e', 't', 't', 'a', 'P', '.', 'e', 'r'].reverse) = some Manifest.sig_re_Pattern := by kernel_rfl
theorem sig_search : Manifest.signature? "re.Pattern.search" = Manifest.sig_re_Pattern.lookup "search" := by
  have := signature?_of (id := "re.Pattern.search") (n := ['h', 'c', 'r', 'a', 'e', 's']) (o := ['n', 'r', 'e', 't', 't', 'a', 'P', '.', 'e', 'r']) (by kernel_rfl) owner_pattern
  exact this
noncomputable def sigSearch : Manifest.Signature := ⟨.keywords, "Pattern.search", "search", .self, [⟨"string", .posOrKw, true⟩, ⟨"pos", .posOrKw, false⟩, ⟨"endpos", .posOrKw, false⟩]⟩
theorem sig_search' : Manifest.signature? "re.Pattern.search" = some sigSearch := by rw [sig_search]; kernel_rfl
noncomputable def sigAppend : Manifest.Signature := ⟨.oneArg, "list.append", "append", .self, [⟨"object", .posOnly, true⟩]⟩
theorem sig_append' : Manifest.signature? "list.append" = some sigAppend := by rw [sig_append]; kernel_rfl
theorem args_search (a b : Value) : Bind.checkArgs "re.Pattern.search" { sigSearch with full := s!"{Bind.lastOf "re.Pattern"}.{Bind.lastOf "re.Pattern.search"}" } ⟨[a, b], []⟩ = pure () := by kernel_rfl
theorem args_append (a b : Value) : Bind.checkArgs "list.append" { sigAppend with full := s!"{Bind.lastOf "list"}.{Bind.lastOf "list.append"}" } ⟨[a, b], []⟩ = pure () := by kernel_rfl
example : True := by w_top off; trivial
section
variable {prog : Program} {w : World} {A : Around} {E : Value → Shared → Prop} {s : Shared}
theorem named_search (x : Value) : Builtin.Re.reNamed "re.Pattern.search" "search" ["string", "pos", "endpos"] 1 [x] [] = pure [some x, none, none] := by kernel_rfl
noncomputable abbrev pvals : Array Value := #[.int 14 0, .int 17 0, .int 4 0, .int 1 0, .int 1 0, .int 21 0, .int 9 0, .int 0 0, .int 604043296 0, .int 1 0, .int 0 0, .int 0 0, .int 0 0, .int 0 0, .int 0 0, .int 8 0, .int 4 0, .int 0 0, .int 13 0, .int 14 0, .int 21 0, .int 9 0, .int 0 0, .int 604043296 0, .int 1 0, .int 0 0, .int 0 0, .int 0 0, .int 0 0, .int 0 0, .int 8 0, .int 4 0, .int 0 0, .int 1 0]
theorem target_rule {pa ta : Addr} {x : Str} {t tp tf : Tok} {sp : Str} {Q : Builtin.Re.ReTarget → Shared → Prop} (hp : s.heap.get? pa = some { cls := .type "re.Pattern", data := .fields #[.str sp tp, .int 256 tf, .int 0 0, .none, .none, .ref ta, .int 0 0] })
    (ht : s.heap.get? ta = some { cls := .type "tuple", data := .seq pvals }) (hx : x.cps.size < 1000000)
    (h : Q ⟨.ref pa, .str x t, ucode, x.cps, 0, 0, 0, x.cps.size⟩ s) :
    wpAny (model prog w) A (Builtin.Re.reTarget "re.Pattern.search" "search" ⟨[.ref pa, .str x t], []⟩) Q E s := by
  unfold Builtin.Re.reTarget
  refine wpAny_bind (wpAny_of_eq (named_search _) ?_)
  dsimp only
  refine wpAny_bind (wpAny_pure ?_)
  refine wpAny_bind (wpAny_pure ?_)
  refine wpAny_bind (wpAny_fieldsOf hp rfl ?_)
  refine wpAny_bind (wpAny_of_eq (rfl : Builtin.Re.reTextOf (.str x t) = pure (x.cps, 0)) ?_)
  dsimp only
  change wpAny _ _ (if false = true then _ else if false = true then _ else _) _ _ _
  rw [if_neg Bool.false_ne_true, if_neg Bool.false_ne_true]
  refine wpAny_bind (wpAny_of_eq (rfl : Builtin.Re.reNoCollectionInside (.str x t) 0 = pure ()) ?_)
  have hraw : wpAny (model prog w) A (Builtin.Re.reRawItems (.ref ta)) (fun r s' => r = pvals.map Builtin.Re.reRawOf ∧ s' = s) E s := by
    unfold Builtin.Re.reRawItems
    refine wpAny_bind (wpAny_seqItems ht rfl (wpAny_pure ⟨rfl, rfl⟩))
  refine wpAny_bind (wpAny_mono hraw (fun r s' hr => ?_) fun _ _ e => e)
  obtain ⟨rfl, rfl⟩ := hr
  refine wpAny_pure ?_
  have e1 : Array.map (fun x => x.toNat) (Array.map Builtin.Re.reRawOf pvals) = ucode := by decide +kernel
  have e2 : min (2 ^ 63 - 1 : Int).toNat x.cps.size = x.cps.size := by
    have : (2 ^ 63 - 1 : Int).toNat = 9223372036854775807 := by decide
    rw [this]; omega
  have e3 : min (Int.toNat 0) x.cps.size = 0 := by simp
  have h' := h
  rw [← e1, ← e2] at h'
  rw [e3]
  exact h'
theorem rules_skip {c : Nat → Bool} {tg : Nat → String} {Q : Unit → Shared → Prop} : ∀ (l : List Nat), Q () s → wpAny (model prog w) A (forIn l PUnit.unit fun i _ => if c i = true then do rule (tg i); pure (ForInStep.yield PUnit.unit) else pure (ForInStep.yield PUnit.unit)) Q E s
  | [], h => wpAny_pure h
  | i :: r, h => by
    rw [List.forIn_cons]
    refine wpAny_bind ?_
    cases c i with
    | true => exact wpAny_bind (wpAny_rule (wpAny_pure (rules_skip r h)))
    | false => exact wpAny_pure (rules_skip r h)
theorem drive_rule {m : Sre.M} {o : Sre.Outcome} {n : Nat} {Q : Sre.M → Shared → Prop} (ho : (m.runFor 4).outcome = some o) (h : Q (m.runFor 4) s) : wpAny (model prog w) A (Builtin.Re.reDrive (n + 1) m) Q E s := by
  show wpAny _ _ (if (m.runFor 4).outcome.isSome = true then pure (m.runFor 4) else do rule "sre.turn"; Builtin.Re.reDrive n (m.runFor 4)) _ _ _
  rw [ho]
  exact wpAny_pure h
theorem turns_succ : ∃ n : Nat, 2 ^ 64 = n + 1 := ⟨2 ^ 64 - 1, by decide⟩
theorem run_rule {m : Sre.M} {b : Bool} {Q : Option Sre.M → Shared → Prop} (ho : (m.runFor 4).outcome = some (if b then .matched else .failed)) (h : Q (if b then some (m.runFor 4) else none) s) : wpAny (model prog w) A (Builtin.Re.reRunToEnd m) Q E s := by
  unfold Builtin.Re.reRunToEnd
  obtain ⟨n, hn⟩ := turns_succ
  rw [hn]
  refine wpAny_bind (drive_rule ho ?_)
  refine wpAny_bind (rules_skip _ ?_)
  rw [ho]
  cases b with
  | true => exact wpAny_pure h
  | false => exact wpAny_pure h
theorem newmatch_rule {pa pb : Value} {lim : Nat} {m : Sre.M} {Q : Value → Shared → Prop}
    (h : ∀ v h', v ≠ .none → (∃ a, v = .ref a) → (∀ b o, s.heap.get? b = some o → h'.get? b = some o) → Q v { s with heap := h' }) : wpAny (model prog w) A (Builtin.Re.reNewMatch pa pb 0 0 lim m) Q E s := by
  unfold Builtin.Re.reNewMatch
  change wpAny _ _ (if false = true then _ else _) _ _ _
  rw [if_neg Bool.false_ne_true]
  refine wpAny_bind (wpAny_newObj_type ?_ (by show _ ≤ _; simp [sizeLine_eq]))
  refine wpAny_newObj_type ?_ (by show _ ≤ _; simp [sizeLine_eq])
  exact h _ _ (fun e => by cases e) ⟨_, rfl⟩ fun b o e => Heap.get?_push_of_some _ (Heap.get?_push_of_some _ e)
theorem search_builtin {pa ta : Addr} {x : Str} {t tp tf : Tok} {sp : Str} {Q : Value → Shared → Prop} (hp : s.heap.get? pa = some { cls := .type "re.Pattern", data := .fields #[.str sp tp, .int 256 tf, .int 0 0, .none, .none, .ref ta, .int 0 0] })
    (ht : s.heap.get? ta = some { cls := .type "tuple", data := .seq pvals }) (hx : x.cps.size < 1000000) (hx0 : x.cps.size ≠ 0) (hok : ∀ i, i < x.cps.size → okC (x.cps.getD i 0) = true)
    (h0 : (∀ i, i < x.cps.size → unsafeC (x.cps.getD i 0) = false) → Q .none s)
    (h1 : (¬ ∀ i, i < x.cps.size → unsafeC (x.cps.getD i 0) = false) → ∀ a h', (∀ b o, s.heap.get? b = some o → h'.get? b = some o) → Q (.ref a) { s with heap := h' }) :
    wpAny (model prog w) A (Builtin.«re.Pattern.search» ⟨[.ref pa, .str x t], []⟩) (fun fin s' => ∃ v, fin = .done (.ret v) ∧ Q v s') E s := by
  unfold Builtin.«re.Pattern.search»
  refine wpAny_bind (target_rule hp ht hx ?_)
  unfold Builtin.Re.reAnswer
  have hrun := search_run x.cps hx0 hok
  by_cases hs : ∀ i, i < x.cps.size → unsafeC (x.cps.getD i 0) = false
  · rw [if_pos hs] at hrun
    refine wpAny_bind (run_rule (b := false) hrun ?_)
    exact wpAny_pure ⟨_, rfl, h0 hs⟩
  · rw [if_neg hs] at hrun
    refine wpAny_bind (run_rule (b := true) hrun ?_)
    refine wpAny_bind (newmatch_rule fun v h' _ hv hk => ?_)
    obtain ⟨a, rfl⟩ := hv
    exact wpAny_pure ⟨_, rfl, h1 hs a h' hk⟩
end

section
variable {prog : Program} {w : World} {A : Around} {E : Value → Shared → Prop} {s : Shared}
theorem keeps_bfm {M : Model} {p : Addr} {id : String} {self : Value} (h : Heap) (X : h.get? p = some (bfmObj id self)) : ∃ k, (k = Keeper.frame ∨ k = Keeper.machine ∨ k = Keeper.boundFrame) ∧ Looks M h (keeperOf (.ref p)) k := by
  refine ⟨.machine, .inr (.inl rfl), (Looks.ld (part := none) X).andThen ?_⟩
  exact .now
theorem callWith_bfm {M : Model} {env : Env} {pos : Pos} {p : Addr} {id : String} {self : Value} {first : List Value} {e : Expr} {rest : List Expr} {Q : Value → Shared → Prop}
    (h : wpAny M A (spliced (backTo pos (starEach (e :: rest) env))) (fun vs s₁ => s₁.heap.get? p = some (bfmObj id self) ∧ wpAny M A (call (.ref p) (first ++ vs)) Q E s₁) E s)
    (he : starEach (e :: rest) env = (false, eval e env) :: starEach rest env := by rfl) (hplain : (backTo pos (starEach rest env)).any (·.1) = false := by rfl) :
    wpAny M A (callWith pos (.ref p) first (backTo pos (starEach (e :: rest) env)) []) Q E s := by
  rw [he] at h ⊢
  exact callWith_of (P := fun h => h.get? p = some (bfmObj id self)) (by show ((false || (backTo pos (starEach rest env)).any (·.1)) || false) = false; rw [hplain]; rfl) keeps_bfm (evalArgs_plain h)
end

section
variable {prog : Program} {w : World} {A : Around} {E : Value → Shared → Prop} {s : Shared}
theorem check_search {pa : Addr} {o : Obj} {x : Value} {Q : Unit → Shared → Prop} (ho : s.heap.get? pa = some o) (hc : o.cls = .type "re.Pattern") (hnc : (match o.data with | .cls _ => true | _ => false) = false) (h : Q () s) :
    wpAny (model prog w) A (checkBoundCall "re.Pattern.search" ⟨[.ref pa, x], []⟩) Q E s :=
  bound_check (T := "re.Pattern") (sig := sigSearch) (id := "re.Pattern.search") (rest := [x]) sig_search' kind_search va_search ho hc hnc sub_pattern (args_search _ _) h
theorem check_append {pa : Addr} {o : Obj} {x : Value} {Q : Unit → Shared → Prop} (ho : s.heap.get? pa = some o) (hc : o.cls = .type "list") (hnc : (match o.data with | .cls _ => true | _ => false) = false) (h : Q () s) :
    wpAny (model prog w) A (checkBoundCall "list.append" ⟨[.ref pa, x], []⟩) Q E s :=
  bound_check (T := "list") (sig := sigAppend) (id := "list.append") (rest := [x]) sig_append' kind_append va_append ho hc hnc sub_list_module (args_append _ _) h
theorem call_search {p pa ta : Addr} {x : Str} {t tp tf : Tok} {sp : Str} {Q : Value → Shared → Prop} (hb : s.heap.get? p = some (bfmObj "re.Pattern.search" (.ref pa)))
    (hp : s.heap.get? pa = some { cls := .type "re.Pattern", data := .fields #[.str sp tp, .int 256 tf, .int 0 0, .none, .none, .ref ta, .int 0 0] })
    (ht : s.heap.get? ta = some { cls := .type "tuple", data := .seq pvals }) (hx : x.cps.size < 1000000) (hx0 : x.cps.size ≠ 0) (hok : ∀ i, i < x.cps.size → okC (x.cps.getD i 0) = true)
    (h0 : (∀ i, i < x.cps.size → unsafeC (x.cps.getD i 0) = false) → Q .none s)
    (h1 : (¬ ∀ i, i < x.cps.size → unsafeC (x.cps.getD i 0) = false) → ∀ a h', (∀ b o, s.heap.get? b = some o → h'.get? b = some o) → Q (.ref a) { s with heap := h' }) :
    wpAny (model prog w) A (call (.ref p) [.str x t]) Q E s :=
  bound_call hb plain_search entry_search (fun _ _ _ h => check_search hp rfl rfl h) (search_builtin hp ht hx hx0 hok h0 h1)
end
example : True := by w_top off; trivial
noncomputable def esc (l : List Nat) : List Nat := l.flatMap fun c => if c = 39 then [39, 34, 39, 34, 39] else [c]
noncomputable def quo (l : List Nat) : List Nat := if bareB l then l else 39 :: (esc l ++ [39])
theorem esc_append (a b : List Nat) : esc (a ++ b) = esc a ++ esc b := by unfold esc; rw [List.flatMap_append]
theorem esc_free : ∀ l : List Nat, 39 ∉ l → esc l = l
  | [], _ => rfl
  | c :: r, h => by
    have h1 : ¬ c = 39 := fun e => h (e ▸ .head _)
    have h2 := esc_free r fun e => h (.tail _ e)
    show (if c = 39 then _ else [c]) ++ esc r = _
    rw [if_neg h1, h2]; rfl
theorem esc_len (l : List Nat) : (esc l).length ≤ 5 * l.length := by
  unfold esc
  induction l with
  | nil => simp
  | cons c r ih =>
    simp only [List.flatMap_cons, List.length_append, List.length_cons]
    have : (if c = 39 then [39, 34, 39, 34, 39] else [c]).length ≤ 5 := by split <;> simp
    omega
theorem esc_join : ∀ parts : List Str, (∀ p ∈ parts, 39 ∉ p.cps.toList) → esc (Str.join ⟨#[39]⟩ parts).cps.toList = (Str.join ⟨#[39, 34, 39, 34, 39]⟩ parts).cps.toList
  | [], _ => rfl
  | [p], h => esc_free _ (h p (List.mem_singleton.mpr rfl))
  | p :: q :: r, h => by
    have ih := esc_join (q :: r) fun a ha => h a (List.mem_cons_of_mem _ ha)
    show esc (p ++ ⟨#[39]⟩ ++ Str.join ⟨#[39]⟩ (q :: r)).cps.toList = (p ++ ⟨#[39, 34, 39, 34, 39]⟩ ++ Str.join ⟨#[39, 34, 39, 34, 39]⟩ (q :: r)).cps.toList
    simp only [Str.cps_append, Array.toList_append]
    rw [esc_append, esc_append, ih, esc_free _ (h p (List.mem_cons_self ..))]
    rfl
theorem quote_replace (l : List Nat) : Txt.replace (tx l) (Str.ofString "'") (Str.ofString "'\"'\"'") = tx (esc l) := by
  have e1 : Str.ofString "'" = ⟨#[39]⟩ := by decide +kernel
  have e2 : Str.ofString "'\"'\"'" = ⟨#[39, 34, 39, 34, 39]⟩ := by decide +kernel
  rw [e1, e2]
  refine Str.ext' (Array.toList_inj.mp ?_)
  rw [StrLaws.replace_one, ← esc_join _ (StrLaws.split_free (tx l) 39), StrLaws.join_split]
theorem quo_text (l : List Nat) (h : bareB l = false) : Str.ofString "'" ++ tx (esc l) ++ Str.ofString "'" = tx (quo l) := by
  have e1 : Str.ofString "'" = tx [39] := s39
  rw [quo, h, e1]
  refine Str.ext' (Array.toList_inj.mp ?_)
  simp only [Str.cps_append, Array.toList_append]
  rfl
theorem bare_safe {l : List Nat} (hne : l ≠ []) : bareB l = true ↔ ∀ i, i < (tx l).cps.size → unsafeC ((tx l).cps.getD i 0) = false := by
  constructor
  · intro h i hi
    have hi' : i < l.length := by simpa using hi
    simp only [bareB, Bool.and_eq_true, List.all_eq_true] at h
    have := h.2 l[i] (List.getElem_mem hi')
    simp [unsafeC, hi', this]
  · intro h
    simp only [bareB, Bool.and_eq_true, List.all_eq_true, bne_iff_ne]
    refine ⟨hne, fun c hc => ?_⟩
    obtain ⟨i, hi, rfl⟩ := List.getElem_of_mem hc
    have := h i (by simpa using hi)
    have h2 : ¬ l[i] = 97 → l[i] = 37 := by simpa [unsafeC, hi] using this
    by_cases h3 : l[i] = 97
    · simp [h3]
    · simp [h2 h3]
theorem quote_spec (w : World) (l : List Nat) (t : Tok) (s : Shared) (I : Inv w s.heap) (hok : ∀ c ∈ l, okC c = true) (hl : (tx l).length ≤ 1048576) (hl' : l.length ≤ 100000) :
    Pure w 110 [.str (tx l) t] s (fun r _ => ∃ t', r = .str (tx (quo l)) t') := by
  (first | unfold Pure | unfold PureN)
  have X9p := Inv.X I
  revert X9p
  k_fill
  intro X9p dp9p un9p fr9p gd9p E9p hdp9p hun9p
  (refine wpAny_call ?_)
  obtain ⟨p9p, loose9p, mean9p, mg9p, mb9p, T9p⟩ := Inv.T I
  k_dflt (refine' pure_def (binds := [(Str.ofString "s", .str (tx l) t)]) X9p T9p ?ho ?hcd ?hroom ?hbind ?hloc ?_ ?c2 ?c3 ?c4 ?c5; (case ho => k_is); (case hcd => k_is); (case hroom => (show dp9p < _; omega)); (case hbind => exact BindsTo.of_eq rfl); (case c5 => decide); (case hloc => exact locs rfl); (case c2 => exact rfl); (case c3 => exact rfl); (case c4 => exact rfl))
  intro h9p F9p N9p
  (try dsimp only)
  (try k_fold)
  (repeat' ((( (fail_if_success (with_reducible show PySem.wpAny _ _ (PySem.exec (PySem.Stmt.For _ _ _ _ _) _) _ _ _)); (fail_if_success (with_reducible show PySem.wpAny _ _ (PySem.exec (PySem.Stmt.While _ _ _ _) _) _ _ _)); first | (k_unfold; (try dsimp only)) | (first | ((with_reducible show PySem.wpAny _ _ (PySem.execs _ _) _ _ _); k_fold) | walk1 | (dsimp only; walk1)) | fail "no step"))))
  · rename Fr _ _ _ _ => F1
    rename ¬ _ = (0 : Int) => hne
    have hne' : l ≠ [] := fun e => hne (by rw [e]; rfl)
    have X1 := (I.keeps F1.keep).X
    refine callWith_bfm (id := "re.Pattern.search") (self := .ref 95) ?_
    (repeat ((fail_if_success (with_reducible show _ ∧ _)); first | walk1 | (dsimp only; walk1)))
    refine ⟨X1 103 _ (by k_is), ?_⟩
    have e95 := X1 95 _ (by k_is)
    have e94 := X1 94 _ (by k_is)
    refine call_search (X1 103 _ (by k_is)) e95 e94 ?_ ?_ ?_ (fun hsafe => ?_) (fun hun a h2 hk2 => ?_)
    · show l.toArray.size < _; simp; omega
    · exact fun e => hne (by exact_mod_cast e)
    · intro i hi
      have hi' : i < l.length := by simpa using hi
      exact hok _ (by simp [hi'])
    · (repeat' ((( (fail_if_success (with_reducible show PySem.wpAny _ _ (PySem.exec (PySem.Stmt.For _ _ _ _ _) _) _ _ _)); (fail_if_success (with_reducible show PySem.wpAny _ _ (PySem.exec (PySem.Stmt.While _ _ _ _) _) _ _ _)); first | (k_unfold; (try dsimp only)) | (first | ((with_reducible show PySem.wpAny _ _ (PySem.execs _ _) _ _ _); k_fold) | walk1 | (dsimp only; walk1)) | fail "no step"))))
      dsimp only
      k_unfold
      dsimp only
      refine Done.intro (by assumption) ⟨t, ?_⟩
      rw [quo, if_pos ((bare_safe hne').mpr hsafe)]
    · have F2 := F1.keeps hk2
      have N2 : News s.heap s.heap.objs.size h2 [] := News.nil
      clear F1
      have hb : bareB l = false := Bool.eq_false_iff.mpr fun h => hun ((bare_safe hne').mp h)
      have hlen : (tx (esc l)).length ≤ 500000 := by
        have := esc_len l
        show (esc l).toArray.size ≤ _
        simp; omega
      (repeat' ((( (fail_if_success (with_reducible show PySem.wpAny _ _ (PySem.exec (PySem.Stmt.For _ _ _ _ _) _) _ _ _)); (fail_if_success (with_reducible show PySem.wpAny _ _ (PySem.exec (PySem.Stmt.While _ _ _ _) _) _ _ _)); first | (k_unfold; (try dsimp only)) | (first | ((with_reducible show PySem.wpAny _ _ (PySem.execs _ _) _ _ _); k_fold) | walk1 | (dsimp only; walk1)) | fail "no step"))))
      rw [quote_replace l]
      (repeat' ((( (fail_if_success (with_reducible show PySem.wpAny _ _ (PySem.exec (PySem.Stmt.For _ _ _ _ _) _) _ _ _)); (fail_if_success (with_reducible show PySem.wpAny _ _ (PySem.exec (PySem.Stmt.While _ _ _ _) _) _ _ _)); first | (k_unfold; (try dsimp only)) | (first | ((with_reducible show PySem.wpAny _ _ (PySem.execs _ _) _ _ _); k_fold) | walk1 | (dsimp only; walk1)) | fail "no step"))))
      rw [quo_text l hb]
      exact Done.intro (by assumption) ⟨_, rfl⟩
  · dsimp only
    k_unfold
    dsimp only
    rename _ = (0 : Int) => hz
    have hz' : l = [] := by
      have : l.length = 0 := by
        have h2 : (tx l).length = 0 := by omega
        simpa [Str.length] using h2
      exact List.length_eq_zero_iff.mp this
    have e : Str.ofString "''" = tx (quo l) := by rw [hz']; decide +kernel
    rw [e]
    exact Done.intro (by assumption) ⟨_, rfl⟩
example : True := by w_top off; trivial
section
variable {prog : Program} {w : World} {A : Around} {E : Value → Shared → Prop} {s : Shared}
noncomputable def intKeys (es : Array DictEntry) : Bool := es.toList.all fun e => match e.key with | .int i _ => e.hash == hashInt i | _ => false
theorem map_ints {h : Heap} {d : Addr} {es : Array DictEntry} {n : Nat} (ho : h.get? d = some { cls := .type "dict", data := .dict es n }) (hk : intKeys es = true) :
    h.MapOf (intKind prog w) d (fun k => findBy (intKind prog w).is es k) := by
  refine ⟨_, es, n, ho, ⟨rfl, rfl, rfl⟩, rfl, fun e he => ?_, fun _ => rfl⟩
  have := List.all_eq_true.mp hk e (by simpa using he)
  cases hq : e.key with
  | int i t => rw [hq] at this; exact ⟨i, by rw [intKind_is], by simpa [intKind] using this⟩
  | _ => rw [hq] at this; cases this
theorem sub_key_lookup : isSubtype (.type "KeyError") (.type "LookupError") = pure true := by rw [isSubtype_type]; kernel_rfl
open Builtin.Str in
theorem lookup_keep {d : Addr} {es : Array DictEntry} {n : Nat} {c : Nat} {Q : Mapped → Shared → Prop} (hh : A.handled = none) (hd : (d == sysModules) = false) (ho : s.heap.get? d = some { cls := .type "dict", data := .dict es n }) (hk : intKeys es = true)
    (hv : findBy Value.isInt es (c : Int) = none) (h : ∀ h' tk, (∀ b o, s.heap.get? b = some o → h'.get? b = some o) → Q .keep { s with heap := h', toks := tk }) :
    wpAny (model prog w) A (tableLookup (.ref d) c) Q E s := by
  unfold tableLookup
  refine wpAny_bind (wpAny_attempt (wpAny_bind (wpAny_mkInt ?_)))
  refine wpAny_getItem_missing_of (knd := intKind prog w) (k := (c : Int)) (intKind_is _ _ _ _) hd hh (map_ints ho hk) hv ?_
  intro h' e hx
  obtain ⟨ob, t, he, hc, _⟩ := hx.there
  refine wpAny_bind (wpAny_isInstance (T := "KeyError") ⟨ob, he, hc⟩ sub_key_lookup ?_)
  exact wpAny_bind (wpAny_rule (wpAny_pure (h h' _ hx.keeps)))
open Builtin.Str in
theorem lookup_text {d : Addr} {es : Array DictEntry} {n : Nat} {c : Nat} {x : Str} {t : Tok} {Q : Mapped → Shared → Prop} (ho : s.heap.get? d = some { cls := .type "dict", data := .dict es n }) (hk : intKeys es = true)
    (hv : findBy Value.isInt es (c : Int) = some (.str x t)) (h : ∀ tk, Q (.text x) { s with toks := tk }) :
    wpAny (model prog w) A (tableLookup (.ref d) c) Q E s := by
  unfold tableLookup
  refine wpAny_bind (wpAny_attempt (wpAny_bind (wpAny_mkInt ?_)))
  refine wpAny_getItem_of (knd := intKind prog w) (k := (c : Int)) (intKind_is _ _ _ _) (map_ints ho hk) hv ?_
  exact wpAny_bind (wpAny_pure (wpAny_bind (wpAny_pure (wpAny_pure (h _)))))
theorem translate_one {d : Addr} {es : Array DictEntry} {n : Nat} {c : Nat} {t : Tok} {Q : Fin → Shared → Prop} (hh : A.handled = none) (hd : (d == sysModules) = false) (ho : s.heap.get? d = some { cls := .type "dict", data := .dict es n }) (hk : intKeys es = true)
    (hv : findBy Value.isInt es (c : Int) = none) (h : ∀ h' tk, (∀ b o, s.heap.get? b = some o → h'.get? b = some o) → Q (.done (.ret (.str ⟨#[c]⟩ tk))) { s with heap := h', toks := tk + 1 }) :
    wpAny (model prog w) A (Builtin.«str.translate» ⟨[.str ⟨#[c]⟩ t, .ref d], []⟩) Q E s := by
  unfold Builtin.«str.translate»
  refine wpAny_bind (wpAny_of_eq (rfl : Builtin.Str.strOneArg "translate" ⟨[.str ⟨#[c]⟩ t, .ref d], []⟩ = pure (.str ⟨#[c]⟩ t, ⟨#[c]⟩, .ref d)) ?_)
  dsimp only
  rw [if_neg (show ¬ ((({ cps := #[c] } : Str).length == 0) = true) from Bool.false_ne_true)]
  have hall : (#[c].all fun x => decide (x < 128)) = decide (c < 128) := by simp
  rw [hall, List.forIn_toArray, List.forIn_cons]
  cases hc : decide (c < 128) with
  | true =>
    refine wpAny_bind (wpAny_bind ?_)
    dsimp only
    rw [if_neg (by decide), if_pos rfl]
    refine wpAny_bind (lookup_keep hh hd ho hk hv fun h' tk hk' => ?_)
    dsimp only
    refine wpAny_bind (wpAny_pure (wpAny_pure ?_))
    dsimp only
    rw [List.forIn_nil]
    refine wpAny_pure ?_
    dsimp only
    rw [if_neg (by decide)]
    exact wpAny_bind (wpAny_mkStr (wpAny_pure (h h' _ hk')) (by show 1 ≤ _; simp [sizeLine_eq]))
  | false =>
    refine wpAny_bind (wpAny_bind ?_)
    dsimp only
    rw [if_neg (by decide), if_neg (by decide), if_neg (by decide)]
    refine wpAny_bind (lookup_keep hh hd ho hk hv fun h' tk hk' => ?_)
    dsimp only
    refine wpAny_pure ?_
    dsimp only
    rw [List.forIn_nil]
    refine wpAny_pure ?_
    dsimp only
    rw [if_neg (by decide)]
    exact wpAny_bind (wpAny_mkStr (wpAny_pure (h h' _ hk')) (by show 1 ≤ _; simp [sizeLine_eq]))
theorem translate_text {d : Addr} {es : Array DictEntry} {n : Nat} {c a b : Nat} {t tv : Tok} {Q : Fin → Shared → Prop} (ho : s.heap.get? d = some { cls := .type "dict", data := .dict es n }) (hk : intKeys es = true) (hc : decide (c < 128) = true)
    (hv : findBy Value.isInt es (c : Int) = some (.str ⟨#[a, b]⟩ tv)) (h : ∀ tk, Q (.done (.ret (.str ⟨#[a, b]⟩ tk))) { s with toks := tk + 1 }) :
    wpAny (model prog w) A (Builtin.«str.translate» ⟨[.str ⟨#[c]⟩ t, .ref d], []⟩) Q E s := by
  unfold Builtin.«str.translate»
  refine wpAny_bind (wpAny_of_eq (rfl : Builtin.Str.strOneArg "translate" ⟨[.str ⟨#[c]⟩ t, .ref d], []⟩ = pure (.str ⟨#[c]⟩ t, ⟨#[c]⟩, .ref d)) ?_)
  dsimp only
  rw [if_neg (show ¬ ((({ cps := #[c] } : Str).length == 0) = true) from Bool.false_ne_true)]
  have hall : (#[c].all fun x => decide (x < 128)) = decide (c < 128) := by simp
  rw [hall, hc, List.forIn_toArray, List.forIn_cons]
  refine wpAny_bind (wpAny_bind ?_)
  dsimp only
  rw [if_neg (by decide), if_pos rfl]
  refine wpAny_bind (lookup_text ho hk hv fun tk => ?_)
  change wpAny _ _ (rule "str.translate.fast-road-left" >>= fun _ => _) _ _ _
  refine wpAny_bind (wpAny_rule ?_)
  (try dsimp only)
  rw [if_neg (by decide)]
  refine wpAny_bind (lookup_text ho hk hv fun tk => ?_)
  dsimp only
  refine wpAny_pure ?_
  dsimp only
  rw [List.forIn_nil]
  refine wpAny_pure ?_
  dsimp only
  rw [if_neg (show ¬ (Builtin.Str.tooLong (0 + ({ cps := #[a, b] } : Str).length) = true) from by show ¬ (decide (2 > sizeLine) = true); decide)]
  exact wpAny_bind (wpAny_mkStr (wpAny_pure (h _)) (by show 2 ≤ _; simp [sizeLine_eq]))
theorem call_translate_one {d : Addr} {es : Array DictEntry} {n : Nat} {c : Nat} {t : Tok} {Q : Value → Shared → Prop} (hh : A.handled = none) (hd : (d == sysModules) = false) (ho : s.heap.get? d = some { cls := .type "dict", data := .dict es n }) (hk : intKeys es = true)
    (hv : findBy Value.isInt es (c : Int) = none) (h : ∀ h' tk, (∀ b o, s.heap.get? b = some o → h'.get? b = some o) → Q (.str ⟨#[c]⟩ tk) { s with heap := h', toks := tk + 1 }) :
    wpAny (model prog w) A (call (.builtin "str.translate") [.str ⟨#[c]⟩ t, .ref d]) Q E s :=
  wpAny_call_entry F.slot_str_translate (typeIs_str s _ _) F.entry_str_translate (translate_one hh hd ho hk hv fun h' tk hk' => ⟨_, rfl, h h' tk hk'⟩) (F.args_str_translate_2 _ _)
theorem call_translate_text {d : Addr} {es : Array DictEntry} {n : Nat} {c a b : Nat} {t tv : Tok} {Q : Value → Shared → Prop} (ho : s.heap.get? d = some { cls := .type "dict", data := .dict es n }) (hk : intKeys es = true) (hc : decide (c < 128) = true)
    (hv : findBy Value.isInt es (c : Int) = some (.str ⟨#[a, b]⟩ tv)) (h : ∀ tk, Q (.str ⟨#[a, b]⟩ tk) { s with toks := tk + 1 }) :
    wpAny (model prog w) A (call (.builtin "str.translate") [.str ⟨#[c]⟩ t, .ref d]) Q E s :=
  wpAny_call_entry F.slot_str_translate (typeIs_str s _ _) F.entry_str_translate (translate_text ho hk hc hv fun tk => ⟨_, rfl, h tk⟩) (F.args_str_translate_2 _ _)
end
example : True := by w_top off; trivial
noncomputable def es1 (c : Nat) : Str := if c = 32 then tx [92, 32] else tx [c]
theorem escape_spec (w : World) (c : Nat) (t : Tok) (s : Shared) (I : Inv w s.heap) (hok : okC c = true) (h1 : c ≠ 42) (h2 : c ≠ 63) :
    Pure w 83 [.str ⟨#[c]⟩ t] s (fun r _ => ∃ t', r = .str (es1 c) t') := by
  (first | unfold Pure | unfold PureN)
  have X9p := Inv.X I
  revert X9p
  k_fill
  intro X9p dp9p un9p fr9p gd9p E9p hdp9p hun9p
  (refine wpAny_call ?_)
  obtain ⟨p9p, loose9p, mean9p, mg9p, mb9p, T9p⟩ := Inv.T I
  k_dflt (refine' pure_def (binds := [(Str.ofString "pattern", .str ⟨#[c]⟩ t)]) X9p T9p ?ho ?hcd ?hroom ?hbind ?hloc ?_ ?c2 ?c3 ?c4 ?c5; (case ho => k_is); (case hcd => k_is); (case hroom => (show dp9p < _; omega)); (case hbind => exact BindsTo.of_eq rfl); (case c5 => decide); (case hloc => exact locs rfl); (case c2 => exact rfl); (case c3 => exact rfl); (case c4 => exact rfl))
  intro h9p F9p N9p
  (try dsimp only)
  (try k_fold)
  (repeat' ((( (fail_if_success (with_reducible show PySem.wpAny _ _ (PySem.exec (PySem.Stmt.For _ _ _ _ _) _) _ _ _)); (fail_if_success (with_reducible show PySem.wpAny _ _ (PySem.exec (PySem.Stmt.While _ _ _ _) _) _ _ _)); first | (k_unfold; (try dsimp only)) | (first | ((with_reducible show PySem.wpAny _ _ (PySem.execs _ _) _ _ _); k_fold) | walk1 | (dsimp only; walk1)) | fail "no step"))))
  refine' GM.of _ ?a9 ?b9 ?c9 ?d9 ?_; (case a9 => exact typeIs_str _ _ _); (case b9 => exact F.slot_str_translate); (case c9 => exact F.type_str_translate); (case d9 => exact GM.noRef)
  (repeat' ((( (fail_if_success (with_reducible show PySem.wpAny _ _ (PySem.exec (PySem.Stmt.For _ _ _ _ _) _) _ _ _)); (fail_if_success (with_reducible show PySem.wpAny _ _ (PySem.exec (PySem.Stmt.While _ _ _ _) _) _ _ _)); first | (k_unfold; (try dsimp only)) | (first | ((with_reducible show PySem.wpAny _ _ (PySem.execs _ _) _ _ _); k_fold) | walk1 | (dsimp only; walk1)) | fail "no step"))))
  rename Fr _ _ _ _ => F1
  have e73 := (I.keeps F1.keep).X 73 _ (by k_is)
  have fin : ∀ (h' : Heap) (tk tk' : Tok), (∀ b o, _ → h'.get? b = some o) → Done s (fun r _ => ∃ t', r = .str (es1 c) t') (.str (es1 c) tk) { s with heap := h', toks := tk' } :=
    fun h' tk tk' hk => Done.intro (F1.keeps hk) ⟨_, rfl⟩
  rcases okC_cases hok with rfl | rfl | rfl | rfl | rfl | rfl | rfl | rfl
  rotate_left 3
  · refine call_translate_text e73 (by decide +kernel) (by decide) (by rfl) fun tk => ?_
    exact fin _ _ _ fun _ _ e => e
  · exact absurd rfl h1
  · exact absurd rfl h2
  all_goals (
    refine call_translate_one rfl (by decide) e73 (by decide +kernel) (by rfl) fun h' tk hk => ?_
    exact fin _ _ _ hk)
example : True := by w_top off; trivial
section
variable {prog : Program} {w : World} {A : Around} {E : Value → Shared → Prop} {s : Shared} {env : Env} {h₀ : Heap} {x : Str} {body : List Stmt} {Q : Flow → Shared → Prop}
noncomputable def Same0 (stored : List Str) (m₀ : Str → Option Value) (c : LSt) (m : Str → Option Value) : Prop :=
  (∀ p ∈ c.nms, m p.1 = some p.2) ∧ ∀ z, (∀ p ∈ c.nms, z ≠ p.1) → stored.contains z = false → m z = m₀ z
noncomputable def WPost (h₀ : Heap) (L : Addr) (stored : List Str) (m₀ : Str → Option Value) (P : Nat → LSt → Prop) (s : Shared) (Q : Flow → Shared → Prop) (n : Nat) (f : Flow) (s₂ : Shared) : Prop :=
  match f with
  | .ret v => Q (.ret v) s₂
  | .brk => Q .next s₂
  | _ => ∃ h' tk c m n', s₂ = { s with heap := h', toks := tk } ∧ Fr h₀ L h' m ∧ News h₀ L h' c.led ∧ Same0 stored m₀ c m ∧ n' < n ∧ P n' c
theorem WPost.next {L : Addr} {stored : List Str} {m₀ m : Str → Option Value} {P : Nat → LSt → Prop} {h' : Heap} {tk n : Nat} {f : Flow} (hf : f = .next ∨ f = .cont) (c : LSt) (n' : Nat) (F : Fr h₀ L h' m) (N : News h₀ L h' c.led)
    (hs : Same0 stored m₀ c m) (hn : n' < n) (hp : P n' c) : WPost h₀ L stored m₀ P s Q n f { s with heap := h', toks := tk } := by
  rcases hf with rfl | rfl <;> exact ⟨h', tk, c, m, n', rfl, F, N, hs, hn, hp⟩
theorem same0_fr {L : Addr} {h : Heap} {stored : List Str} {m₀ m : Str → Option Value} {c : LSt} (hs : Same0 stored m₀ c m) (F : Fr h₀ L h m) : Fr h₀ L h (kstB (fun z => if stored.contains z then m z else m₀ z) c.nms) := by
  have em : kstB (fun z => if stored.contains z then m z else m₀ z) c.nms = m := by
    funext y
    refine kstB_eq hs.1 fun hn => ?_
    show (if stored.contains y = true then m y else m₀ y) = m y
    cases h3 : stored.contains y with
    | true => simp
    | false => simp only [Bool.false_eq_true, if_false]; exact (hs.2 y hn h3).symm
  rw [em]; exact F
theorem while_st {test : Expr} {pos : Pos} {m₀ : Str → Option Value} (stored : List Str) (P : Nat → LSt → Prop) (c₀ : LSt) (n₀ : Nat)
    (F : Fr h₀ env.locals s.heap m₀) (N : News h₀ env.locals s.heap c₀.led) (hs₀ : ∀ p ∈ c₀.nms, m₀ p.1 = some p.2) (hp₀ : P n₀ c₀)
    (turn : ∀ n c (u : Str → Option Value) h tk, P n c → Fr h₀ env.locals h (kstB (fun z => if stored.contains z then u z else m₀ z) c.nms) → News h₀ env.locals h c.led →
      wpAny (model prog w) A (isTrue test env (eval test env)) (fun b s₂ =>
        if b = true then wpAny (model prog w) A (execs body env) (WPost h₀ env.locals stored m₀ P s Q n) E s₂ else Q .next s₂) E { s with heap := h, toks := tk })
    (hE : PassesOwn (model prog w) A env E := by passes_own) :
    wpAny (model prog w) A (exec (.While test body [] pos) env) Q E s := by
  refine While_inv2 (fun n m nx => ∃ c, nx = LSt.led c ∧ Same0 stored m₀ c m ∧ P n c) (n₀ := n₀) F N ⟨c₀, rfl, ⟨hs₀, fun _ _ _ => rfl⟩, hp₀⟩ ?_ hE
  rintro n m₁ news₁ h₁ tk₁ F₁ N₁ ⟨c, rfl, hs, hP⟩
  refine wpAny_mono (turn n c m₁ h₁ tk₁ hP (same0_fr hs F₁) N₁) (fun b s₂ hb => ?_) fun _ _ e => e
  cases b with
  | false => exact hb
  | true =>
    simp only [if_true] at hb ⊢
    refine wpAny_mono hb (fun f s₃ hf => ?_) fun _ _ e => e
    have fin : (∃ h' tk c m n', s₃ = { s with heap := h', toks := tk } ∧ Fr h₀ env.locals h' m ∧ News h₀ env.locals h' (LSt.led c) ∧ Same0 stored m₀ c m ∧ n' < n ∧ P n' c) →
        ∃ h' tk m₂ news₂ n', s₃ = { { s with heap := h₁, toks := tk₁ } with heap := h', toks := tk } ∧ Fr h₀ env.locals h' m₂ ∧ News h₀ env.locals h' news₂ ∧ n' < n ∧ ∃ c, news₂ = LSt.led c ∧ Same0 stored m₀ c m₂ ∧ P n' c := by
      rintro ⟨h', tk, c', m, n', rfl, F', N', hs', hn, hp⟩
      exact ⟨h', tk, m, c'.led, n', rfl, F', N', hn, c', rfl, hs', hp⟩
    cases f with
    | ret v => exact hf
    | brk => exact hf
    | next => exact fin hf
    | cont => exact fin hf
end
example : True := by w_top off; trivial
theorem Pure.use {w : World} {f : Addr} {vs : List Value} {s : Shared} {Post : Value → Heap → Prop} {A : Around} {E : Value → Shared → Prop} {Q : Value → Shared → Prop} (P : Pure w f vs s Post) (hh : A.handled = none) (hd : A.depth + 20 < recursionLimit) (hu : A.units + 100 < cLine)
    (h : ∀ v h' tk, (∀ b o, s.heap.get? b = some o → h'.get? b = some o) → Post v h' → Q v { s with heap := h', toks := tk }) :
    wpAny (model PySem.Challenge.rw_ik0159_01.row.prog w) A (call (.ref f) vs) Q E s := by
  obtain ⟨hd', dp, fr, gd, un⟩ := A
  dsimp only at hh hd hu
  subst hh
  refine wpAny_mono (P dp un fr gd E hd hu) (fun v s' z => ?_) fun _ _ z => z
  obtain ⟨h', tk, rfl, hk, hp⟩ := z
  exact h v h' tk hk hp
theorem PureN.use {k : Nat} {w : World} {f : Addr} {vs : List Value} {s : Shared} {Post : Value → Heap → Prop} {A : Around} {E : Value → Shared → Prop} {Q : Value → Shared → Prop} (P : PureN k w f vs s Post) (hh : A.handled = none) (hd : A.depth + k < recursionLimit) (hu : A.units + 100 + 10 * k < cLine)
    (h : ∀ v h' tk, (∀ b o, s.heap.get? b = some o → h'.get? b = some o) → Post v h' → Q v { s with heap := h', toks := tk }) :
    wpAny (model PySem.Challenge.rw_ik0159_01.row.prog w) A (call (.ref f) vs) Q E s := by
  obtain ⟨hd', dp, fr, gd, un⟩ := A
  dsimp only at hh hd hu
  subst hh
  refine wpAny_mono (P dp un fr gd E hd hu) (fun v s' z => ?_) fun _ _ z => z
  obtain ⟨h', tk, rfl, hk, hp⟩ := z
  exact h v h' tk hk hp
example : True := by w_top off; trivial
theorem plain_append : plainId "list.append" = true := by decide +kernel
theorem lk_list_append : typeLookup (.type "list") "append" = pure (some (.builtin "list.append")) := by rw [typeLookup_type, builtinLookup_eq_fast]; kernel_rfl
theorem type_list_append : typeOf (.builtin "list.append") = pure (.type "method_descriptor") := by show builtinType _ = _; rw [builtinType_eq_fast]; kernel_rfl
theorem slot_md_get : Slot "method_descriptor" "__get__" "method_descriptor.__get__" :=
  .of (owner := "method_descriptor") (n := "__get__") (by rw [typeLookup_type, builtinLookup_eq_fast]; kernel_rfl) (by decide +kernel) (by decide +kernel) (by decide +kernel)
    (by first | exact .inl (by decide +kernel) | exact .inr (by decide +kernel)) (by rw [isSubtype_type]; kernel_rfl)
theorem entry_md_get : entryFor table "method_descriptor.__get__" = some Builtin.«method_descriptor.__get__» := entryFor_of_tree (by kernel_rfl)
theorem args_md_get (a b c : Value) : argsOk "method_descriptor.__get__" ⟨[a, b, c], []⟩ := by unfold argsOk; kernel_rfl
theorem lk_md_set : typeLookup (.type "method_descriptor") "__set__" = pure none := by rw [typeLookup_type, builtinLookup_eq_fast]; kernel_rfl
theorem lk_md_del : typeLookup (.type "method_descriptor") "__delete__" = pure none := by rw [typeLookup_type, builtinLookup_eq_fast]; kernel_rfl
theorem sub_list_owner : isSubtype (.type "list") (.type (".".intercalate ("list.append".cutAt '.').dropLast)) = pure true := by
  rw [show ".".intercalate ("list.append".cutAt '.').dropLast = "list" by decide +kernel, isSubtype_type]; kernel_rfl
section
variable {prog : Program} {w : World} {A : Around} {E : Value → Shared → Prop} {h : Heap} {g : Array GenState} {d : Drawn} {t : Nat} {os : OsState} {a : Addr} {its : Array Value} {k : Nat}
theorem append_get {P : Fin → Shared → Prop} (hx : h.get? a = some (W.listOf its k)) (hq : P (.done (.ret (.ref h.objs.size))) ⟨h.push (bfmObj "list.append" (.ref a)), g, d, t, os⟩) :
    wpAny (model prog w) A (Builtin.«method_descriptor.__get__» ⟨[.builtin "list.append", .ref a, .type "list"], []⟩) P E ⟨h, g, d, t, os⟩ := by
  have hT : (⟨h, g, d, t, os⟩ : Shared).TypeIs (.ref a) "list" := ⟨_, hx, rfl⟩
  unfold Builtin.«method_descriptor.__get__»
  repeat (any_goals (first | assumption | wp_step))
  refine wpAny_of_eq sub_list_owner ?_
  repeat (any_goals (first | assumption | wp_step))
theorem append_entry {tk : Tok} {Q : Fin → Shared → Prop} (hx : h.get? a = some (W.listOf its k)) (hq : Q (.done (.ret (.ref h.objs.size))) ⟨h.push (bfmObj "list.append" (.ref a)), g, d, t, os⟩) :
    wpAny (model prog w) A (Builtin.«object.__getattribute__» ⟨[.ref a, .str "append" tk], []⟩) Q E ⟨h, g, d, t, os⟩ := by
  have hT : (⟨h, g, d, t, os⟩ : Shared).TypeIs (.ref a) "list" := ⟨_, hx, rfl⟩
  have f4 := lk_list_append
  have f5 := type_list_append
  have f6 := slot_md_get.lookup
  have f7 := lk_md_set
  have f8 := lk_md_del
  repeat (any_goals (first | assumption | wp_step))
  refine codeAny_call_builtin slot_md_get.plain entry_md_get (slot_md_get.check _ _ _ _ _ _ _ _ type_list_append (args_md_get _ _ _) ?_)
  refine append_get hx ?_
  repeat (any_goals (first | assumption | wp_step))
theorem append_call {tk : Tok} {R : Result → Shared → Prop} (hx : h.get? a = some (W.listOf its k)) (hq : R (.ok (.ret (.ref h.objs.size))) ⟨h.push (bfmObj "list.append" (.ref a)), g, d, t, os⟩) :
    codeAny (model prog w) A (.call (.builtin "list.__getattribute__") ⟨[.ref a, .str "append" tk], []⟩) R ⟨h, g, d, t, os⟩ :=
  codeAny_call_builtin F.slot_list_getattribute.plain F.entry_list_ga (F.slot_list_getattribute.check _ _ _ _ _ _ _ _ (show (⟨h, g, d, t, os⟩ : Shared).TypeIs (.ref a) "list" from ⟨_, hx, rfl⟩) (F.args_list_getattribute_2 _ _) (append_entry hx hq))
theorem append_by {tk : Tok} {ex : Bool} {Q : Value → Shared → Prop} (hx : h.get? a = some (W.listOf its k)) (hq : Q (.ref h.objs.size) ⟨h.push (bfmObj "list.append" (.ref a)), g, d, t, os⟩) : wpAny (model prog w) A (getAttrBy (.ref a) (.str "append" tk) true ex) Q E ⟨h, g, d, t, os⟩ := by
  have hT : (⟨h, g, d, t, os⟩ : Shared).TypeIs (.ref a) "list" := ⟨_, hx, rfl⟩
  have f2 := F.slot_list_getattribute.lookup
  have f3 := F.slot_list_getattribute.bind (.ref a)
  cases ex
  all_goals (
    repeat (any_goals (first | assumption | wp_step))
    refine append_call hx ?_
    repeat (any_goals (first | assumption | wp_step)))
end
section
variable {prog : Program} {w : World} {A : Around} {E : Value → Shared → Prop} {s : Shared} {h₀ h : Heap} {L D b : Addr} {m : Str → Option Value} {news news' : List (Addr × Obj)} {us ws : List Value} {its : Array Value} {n n2 : Nat}
theorem my_getappend {Q : Value → Shared → Prop} {ex : Bool} (F : Fr h₀ L s.heap m) (N : News h₀ L s.heap news) (hb : (D, W.listOf its n) ∈ news)
    (h : ∀ q h', Fr h₀ L h' m → News h₀ L h' ((q, bfmObj "list.append" (.ref D)) :: news) → (∀ p ∈ news, p.1 < q) → Q (.ref q) { s with heap := h', toks := s.toks + 1 }) :
    wpAny (model prog w) A (getAttr (.ref D) (Str.ofString "append") ex) Q E s := by
  unfold getAttr
  refine wpAny_bind (wpAny_mkText ?_)
  exact append_by (N.get hb) (h s.heap.objs.size _ (F.push _) (N.push F _) fun p hp => Heap.lt_size (N p hp).1)
theorem my_badd {p : Addr} {x : Value} {Q : Value → Shared → Prop} (F : Fr h₀ L s.heap m) (N : News h₀ L s.heap news) (hp : (p, bfmObj "list.append" (.ref D)) ∈ news)
    (U : Upd D (W.listOf us.toArray n) (W.listOf (us ++ [x]).toArray (n + 1)) news news') (hz : us.length ≤ 10000000)
    (h : ∀ h', Fr h₀ L h' m → News h₀ L h' news' → Q .none { s with heap := h' }) : wpAny (model prog w) A (call (.ref p) [x]) Q E s := by
  obtain ⟨pre, post, rfl, rfl, a, b⟩ := U.split
  have z := N (D, W.listOf us.toArray n) (List.mem_append.mpr (.inr (.head _)))
  have hs : us.toArray.size ≤ sizeLine := by simp only [List.size_toArray, sizeLine_eq]; omega
  refine bound_call (N.get hp) plain_append PySem.F.entry_list_append (fun _ _ _ h => check_append z.1 rfl rfl h) ?_
  show wpAny _ _ (updateSeq D (·.push x) >>= fun _ => ret .none) _ _ s
  refine wpAny_bind ?_
  refine wpAny_updateSeq z.1 rfl (wpAny_pure ⟨.none, rfl, h _ (F.change (Heap.SameBut.update ..) z.2.1 z.2.2) (news_set N a b (Heap.SameBut.update ..) ?_)⟩)
  rw [Heap.get?_update_self _ z.1 (by rw [mapSeq_push]; rfl), mapSeq_push]
  simp [W.listOf]
end
theorem callWith_badd {prog : Program} {w : World} {A : Around} {E : Value → Shared → Prop} {s : Shared} {h₀ : Heap} {L : Addr} {news : List (Addr × Obj)} {p : Addr} {self : Value} {env : Env} {pos : Pos} {first : List Value} {e : Expr} {rest : List Expr} {Q : Value → Shared → Prop} (_N : News h₀ L s.heap news) (_hp : (p, bfmObj "list.append" self) ∈ news)
    (h : wpAny (model prog w) A (spliced (backTo pos (starEach (e :: rest) env))) (fun vs s₁ => s₁.heap.get? p = some (bfmObj "list.append" self) ∧ wpAny (model prog w) A (call (.ref p) (first ++ vs)) Q E s₁) E s)
    (he : starEach (e :: rest) env = (false, eval e env) :: starEach rest env := by rfl) (hplain : (backTo pos (starEach rest env)).any (·.1) = false := by rfl) :
    wpAny (model prog w) A (callWith pos (.ref p) first (backTo pos (starEach (e :: rest) env)) []) Q E s := callWith_bfm h he hplain
local macro_rules | `(tactic| walk_at "getAttr ref") => `(tactic| (k_here; (with_reducible show wpAny _ _ (getAttr (Value.ref _) (Str.ofString "append") _) _ _ _); k_dflt (refine' my_getappend ?F ?N ?b ?_; fail "m m_fn"; (case b => k_mem)); intro q' h' F' N' l1; (try k_lt l1); (try k_sweep)))
local macro_rules | `(tactic| walk_at "callWith ref") => `(tactic| (k_here; k_dflt (refine' callWith_badd ?N ?b ?_; (case N => k_asm); (case b => k_mem); k_whole)))
local macro_rules | `(tactic| walk_at "And") => `(tactic| ((with_reducible show Heap.get? _ _ = some (bfmObj _ _) ∧ _); k_dflt (refine ⟨News.get (by k_asm) (by k_mem), ?_⟩); (try dsimp only [List.nil_append, List.cons_append])))
local macro_rules | `(tactic| walk_at "call ref") => `(tactic| (k_here; (with_reducible show wpAny _ _ (call (Value.ref _) [_]) _ _ _); k_dflt (refine' my_badd ?F ?N ?p ?U ?z ?_; fail "m m_fn"; (case p => k_mem); (case U => k_upd); (case z => first | omega | fail "m m_sz")); intro h' F' N'; (try dsimp only at N'); (try k_sweep)))
section
variable {prog : Program} {w : World} {A : Around} {E : Value → Shared → Prop} {s : Shared} {h₀ h : Heap} {L D b : Addr} {news news' : List (Addr × Obj)} {us ws : List Value} {n n2 : Nat}
theorem my_truthy {Q : Bool → Shared → Prop} (N : News h₀ L s.heap news) (hb : (D, W.listOf us.toArray n) ∈ news) (hz : us.length ≤ 10000000) (h : Q (!us.isEmpty) { s with toks := s.toks + 1 + 1 }) :
    wpAny (model prog w) A (truthy (.ref D)) Q E s := by
  refine wpAny_truthy_list (items := us.toArray) ⟨_, N.get hb, rfl, _, rfl⟩ ?_ ?_
  · simp only [List.size_toArray]; omega
  · have e : (!us.toArray.isEmpty) = !us.isEmpty := by simp
    rw [e]; exact h
end
example : True := by w_top off; trivial
section
variable {prog : Program} {w : World} {A : Around} {E : Value → Shared → Prop} {s : Shared}
theorem my_item {value slice : PySem.Expr} {l : List Nat} {t u : Tok} {i c : Nat} {Q : Value → Shared → Prop} (hc : l[i]? = some c) (hl : l.length ≤ 100000) (h : Q (.str ⟨#[c]⟩ s.toks) { s with toks := s.toks + 1 })
    (hs : subscripted slice false (.str (tx l) t) (.int i u) = operate [.str (tx l) t, .int i u] (getItem (.str (tx l) t) (.int i u)) := by with_unfolding_all rfl)
    (ht : ∀ r, letTemporaryGo value (.str (tx l) t) r = pure () := by intro _; with_unfolding_all rfl) :
    wpAny (model prog w) A (subscriptTail value slice (.str (tx l) t) (.int i u)) Q E s := by
  have hi : i < l.length := (List.getElem?_eq_some_iff.mp hc).1
  have e : Txt.item (tx l) i = ⟨#[c]⟩ := item_meets (by omega) (by simpa [tx] using hc)
  have e2 : (tx l).length = l.length := by simp [tx, Str.length]
  exact item_str (fitsSsize_of (N := 9223372036854775808) (by omega) (by omega) (Int.le_refl _)) (by omega) (by omega) (fun _ => by rw [e]; exact h) hs ht
end
local macro_rules | `(tactic| walk_at "subscriptTail Name Name str int") => `(tactic| (refine my_item (by assumption) (by assumption) ?_))
theorem use_escape {w : World} {A : Around} {E : Value → Shared → Prop} {Q : Value → Shared → Prop} {s : Shared} {h₀ : Heap} {L : Addr} {m : Str → Option Value} {news : List (Addr × Obj)} {x : Str} {c : Nat} {t : Tok} (I : Inv w h₀) (F : Fr h₀ L s.heap m) (N : News h₀ L s.heap news) (hok : okC c = true) (hx : x = ⟨#[c]⟩) (h1 : c ≠ 42) (h2 : c ≠ 63)
    (hh : A.handled = none) (hd : A.depth + 20 < recursionLimit) (hu : A.units + 100 < cLine) (h : ∀ h' tk t', Fr h₀ L h' m → News h₀ L h' news → Q (.str (es1 c) t') { s with heap := h', toks := tk }) :
    wpAny (model PySem.Challenge.rw_ik0159_01.row.prog w) A (call (.ref 83) [.str x t]) Q E s := by
  subst hx
  exact (escape_spec w c t s (I.keeps F.keep) hok h1 h2).use hh hd hu fun _ h' tk hk hv => let ⟨_, e⟩ := hv; e ▸ h h' tk _ (F.keeps hk) (N.keeps hk)
local macro_rules | `(tactic| walk_at "call ref") => `(tactic| (k_here; k_dflt (refine' use_escape ?I ?F ?N ?ok ?hx ?h1 ?h2 rfl ?hd ?hu ?_; fail "m m_fn"; (case I => assumption); (case ok => assumption); (case hx => first | exact rfl | decide +kernel); (case h1 => decide); (case h2 => decide); fail "m m_hu"); intros))
theorem translate_spec (w : World) (st : Addr) (l : List Nat) (t tm : Tok) (s : Shared) (I : Inv w s.heap) (S : IsStar s.heap st) (hok : ∀ c ∈ l, okC c = true) (hl : l.length ≤ 100000) :
    PureN 30 w 90 [.str (tx l) t, .ref st, .str (Str.ofString "mark") tm] s (fun r h => ∃ b us k, r = .ref b ∧ s.heap.get? b = none ∧ h.get? b = some (W.listOf us.toArray k) ∧ SgsAre st us (partsOf l)) := by
  (first | unfold Pure | unfold PureN)
  have X9p := Inv.X I
  revert X9p
  k_fill
  intro X9p dp9p un9p fr9p gd9p E9p hdp9p hun9p
  (refine wpAny_call ?_)
  obtain ⟨p9p, loose9p, mean9p, mg9p, mb9p, T9p⟩ := Inv.T I
  k_dflt (refine' pure_def (binds := [(Str.ofString "pat", .str (tx l) t), (Str.ofString "STAR", .ref st), (Str.ofString "QUESTION_MARK", .str (Str.ofString "mark") tm)]) X9p T9p ?ho ?hcd ?hroom ?hbind ?hloc ?_ ?c2 ?c3 ?c4 ?c5; (case ho => k_is); (case hcd => k_is); (case hroom => (show dp9p < _; omega)); (case hbind => exact BindsTo.of_eq rfl); (case c5 => decide); (case hloc => exact locs rfl); (case c2 => exact rfl); (case c3 => exact rfl); (case c4 => exact rfl))
  intro h9p F9p N9p
  (try dsimp only)
  (try k_fold)
  have hL : (tx l).length ≤ 100000 := by simpa [tx, Str.length] using hl
  have eL : (tx l).length = l.length := by simp [tx, Str.length]
  (repeat' ((( (fail_if_success (with_reducible show PySem.wpAny _ _ (PySem.exec (PySem.Stmt.For _ _ _ _ _) _) _ _ _)); (fail_if_success (with_reducible show PySem.wpAny _ _ (PySem.exec (PySem.Stmt.While _ _ _ _) _) _ _ _)); first | (k_unfold; (try dsimp only)) | (first | ((with_reducible show PySem.wpAny _ _ (PySem.execs _ _) _ _ _); k_fold) | walk1 | (dsimp only; walk1)) | fail "no step"))))
  rename News _ _ _ _ => N1
  rename_i r' _ _ _ tk1 q' _ _ _ D' _ _ _ _ _ _
  refine while_st [Str.ofString "c"] (fun n c => ∃ us k i t1, n = l.length - i ∧ i ≤ l.length ∧ c.led = [(q', bfmObj "list.append" (.ref r')), (r', W.listOf us.toArray k)] ∧ c.nms = [(Str.ofString "i", .int i t1)] ∧ SgsAre st us (partsOf (l.take i))) ⟨[(q', bfmObj "list.append" (.ref r')), (r', W.listOf [].toArray 0)], [(Str.ofString "i", .int 0 (tk1 + 1 + 1))]⟩ l.length (by assumption) (by ((refine cb_drop (by assumption) ?_; repeat (first | exact List.forall_mem_nil _ | refine fm_cons (by k_mem) ?_)))) (by simp [kstB]) ⟨[], 0, 0, _, rfl, Nat.zero_le _, rfl, rfl, .nil⟩ ?_
  · intro n z19 u h tk z29 F2 N2
    show wpAny _ _ _ _ _ _
    k_fold
    obtain ⟨led, nms⟩ := z19
    obtain ⟨us, k, i, t1, rfl, hi, hled, hnms, hus⟩ := z29
    dsimp only at hled hnms F2 N2
    subst hled hnms
    by_cases hil : i < l.length
    · obtain ⟨c, hc⟩ : ∃ c, l[i]? = some c := ⟨_, List.getElem?_eq_getElem hil⟩
      have hcok := hok c (List.mem_of_getElem? hc)
      have hlen : us.length ≤ 100000 := by
        rw [paired_len hus]
        exact Nat.le_trans (parts_len _) (Nat.le_trans (List.length_take_le' _ _) hl)
      have fin : ∀ (v : Value) (p : Sg), SgIs st v p → stepP (partsOf (l.take i)) c = partsOf (l.take i) ++ [p] → SgsAre st (us ++ [v]) (partsOf (l.take (i + 1))) := by
        intro v p hv hp
        rw [take_snoc hc, partsOf, List.foldl_append]
        show SgsAre st (us ++ [v]) (stepP (partsOf (l.take i)) c)
        rw [hp]
        exact paired_app hus (.cons hv .nil)
      rcases okC_cases hcok with rfl | rfl | rfl | rfl | rfl | rfl | rfl | rfl
      rotate_left 4
      · (repeat' ( (fail_if_success (with_reducible show PySem.wpAny _ _ (PySem.truthy (PySem.Value.ref _)) _ _ _)); (fail_if_success (with_reducible show PySem.wpAny _ _ (PyProof.Rows.subscriptTail _ _ (PySem.Value.ref _) _) _ _ _)); (fail_if_success (with_reducible show PySem.wpAny _ _ (PySem.setItem (PySem.Value.ref _) _ _) _ _ _)); (fail_if_success (with_reducible show PySem.wpAny _ _ (PySem.compareOp _ (PySem.Value.ref _) (PySem.Value.ref _)) _ _ _)); (fail_if_success (with_reducible show PySem.wpAny _ _ (PySem.call (PySem.Value.builtin "len") _) _ _ _)); (fail_if_success (with_reducible show PySem.wpAny _ _ (PySem.call (PySem.Value.builtin "list.reverse") _) _ _ _)); (( (fail_if_success (with_reducible show PySem.wpAny _ _ (PySem.exec (PySem.Stmt.For _ _ _ _ _) _) _ _ _)); (fail_if_success (with_reducible show PySem.wpAny _ _ (PySem.exec (PySem.Stmt.While _ _ _ _) _) _ _ _)); first | (k_unfold; (try dsimp only)) | (first | ((with_reducible show PySem.wpAny _ _ (PySem.execs _ _) _ _ _); k_fold) | walk1 | (dsimp only; walk1)) | fail "no step"))))
        rename News _ _ _ _ => N3
        refine my_truthy N3 mem1 (by omega) ?_
        by_cases hnil : partsOf (l.take i) = []
        · have hu : us = [] := by rw [hnil] at hus; cases hus; rfl
          subst hu
          (repeat' ((( (fail_if_success (with_reducible show PySem.wpAny _ _ (PySem.exec (PySem.Stmt.For _ _ _ _ _) _) _ _ _)); (fail_if_success (with_reducible show PySem.wpAny _ _ (PySem.exec (PySem.Stmt.While _ _ _ _) _) _ _ _)); first | (k_unfold; (try dsimp only)) | (first | ((with_reducible show PySem.wpAny _ _ (PySem.execs _ _) _ _ _); k_fold) | walk1 | (dsimp only; walk1)) | fail "no step"))))
          rename News _ _ _ _ => nE
          (try simp only [List.push_toArray] at nE)
          refine WPost.next (.inl rfl) ⟨[(q', bfmObj "list.append" (.ref r')), (r', W.listOf ([] ++ _).toArray (k + 1))], [(Str.ofString "i", .int (i + 1 : Nat) _)]⟩ (l.length - (i + 1)) (by assumption) (by ((refine cb_drop (by assumption) ?_; repeat (first | exact List.forall_mem_nil _ | refine fm_cons (by k_mem) ?_)))) (by ((refine ⟨?n9, ?m9⟩; (case n9 => (repeat (first | exact List.forall_mem_nil _ | refine fm_cons (by with_unfolding_all rfl) ?_))); (case m9 => intro z h2 h3; (((try dsimp only [kstB]); (repeat (first | refine st_if (st_ne (by assumption) (by rfl)) ?_ | refine st_if (by assumption) ?_ | refine st_if (by rename (∀ p, p ∈ _ → _ ≠ _) => h9; exact h9 _ (.head _)) ?_ | refine st_if (by rename (∀ p, p ∈ _ → _ ≠ _) => h9; exact h9 _ mem1) ?_ | refine st_if (by rename (∀ p, p ∈ _ → _ ≠ _) => h9; exact h9 _ mem2) ?_ | refine st_if (by rename (∀ p, p ∈ _ → _ ≠ _) => h9; exact h9 _ mem3) ?_)); first | exact st_bot (by assumption) | ((repeat (first | refine st_ifr (st_ne (by assumption) (by rfl)) ?_ | refine st_ifr (by assumption) ?_ | refine st_ifr (by rename (∀ p, p ∈ _ → _ ≠ _) => h9; exact h9 _ (.head _)) ?_ | refine st_ifr (by rename (∀ p, p ∈ _ → _ ≠ _) => h9; exact h9 _ mem1) ?_ | refine st_ifr (by rename (∀ p, p ∈ _ → _ ≠ _) => h9; exact h9 _ mem2) ?_ | refine st_ifr (by rename (∀ p, p ∈ _ → _ ≠ _) => h9; exact h9 _ mem3) ?_)); exact rfl))))))) (by omega) ⟨_, _, i + 1, _, rfl, by omega, rfl, rfl, ?_⟩
          refine fin _ _ .star ?_
          rw [hnil]; rfl
        · obtain ⟨u', v, p, hu, hg, hvp⟩ := paired_last hus hnil
          have hpok : sgOk p = true := parts_ok (fun c hc => hok c (List.mem_of_mem_take hc)) p (List.mem_of_getLast? hg)
          subst hu
          have hne : (!(u' ++ [v]).isEmpty) = true := by simp
          rw [hne]
          (repeat' ( (fail_if_success (with_reducible show PySem.wpAny _ _ (PySem.truthy (PySem.Value.ref _)) _ _ _)); (fail_if_success (with_reducible show PySem.wpAny _ _ (PyProof.Rows.subscriptTail _ _ (PySem.Value.ref _) _) _ _ _)); (fail_if_success (with_reducible show PySem.wpAny _ _ (PySem.setItem (PySem.Value.ref _) _ _) _ _ _)); (fail_if_success (with_reducible show PySem.wpAny _ _ (PySem.compareOp _ (PySem.Value.ref _) (PySem.Value.ref _)) _ _ _)); (fail_if_success (with_reducible show PySem.wpAny _ _ (PySem.call (PySem.Value.builtin "len") _) _ _ _)); (fail_if_success (with_reducible show PySem.wpAny _ _ (PySem.call (PySem.Value.builtin "list.reverse") _) _ _ _)); (( (fail_if_success (with_reducible show PySem.wpAny _ _ (PySem.exec (PySem.Stmt.For _ _ _ _ _) _) _ _ _)); (fail_if_success (with_reducible show PySem.wpAny _ _ (PySem.exec (PySem.Stmt.While _ _ _ _) _) _ _ _)); first | (k_unfold; (try dsimp only)) | (first | ((with_reducible show PySem.wpAny _ _ (PySem.execs _ _) _ _ _); k_fold) | walk1 | (dsimp only; walk1)) | fail "no step"))))
          rename News _ _ _ _ => N4
          refine my_last (vs := u') (v := v) ⟨W.listOf (u' ++ [v]).toArray k, N4.get (by k_mem), rfl, _, rfl⟩ ?_
          (repeat' ((( (fail_if_success (with_reducible show PySem.wpAny _ _ (PySem.exec (PySem.Stmt.For _ _ _ _ _) _) _ _ _)); (fail_if_success (with_reducible show PySem.wpAny _ _ (PySem.exec (PySem.Stmt.While _ _ _ _) _) _ _ _)); first | (k_unfold; (try dsimp only)) | (first | ((with_reducible show PySem.wpAny _ _ (PySem.execs _ _) _ _ _); k_fold) | walk1 | (dsimp only; walk1)) | fail "no step"))))
          cases hvp
          · (repeat' ((( (fail_if_success (with_reducible show PySem.wpAny _ _ (PySem.exec (PySem.Stmt.For _ _ _ _ _) _) _ _ _)); (fail_if_success (with_reducible show PySem.wpAny _ _ (PySem.exec (PySem.Stmt.While _ _ _ _) _) _ _ _)); first | (k_unfold; (try dsimp only)) | (first | ((with_reducible show PySem.wpAny _ _ (PySem.execs _ _) _ _ _); k_fold) | walk1 | (dsimp only; walk1)) | fail "no step"))))
            refine WPost.next (.inl rfl) ⟨[(q', bfmObj "list.append" (.ref r')), (r', W.listOf (u' ++ [Value.ref st]).toArray k)], [(Str.ofString "i", .int (i + 1 : Nat) _)]⟩ (l.length - (i + 1)) (by assumption) (by ((refine cb_drop (by assumption) ?_; repeat (first | exact List.forall_mem_nil _ | refine fm_cons (by k_mem) ?_)))) (by ((refine ⟨?n9, ?m9⟩; (case n9 => (repeat (first | exact List.forall_mem_nil _ | refine fm_cons (by with_unfolding_all rfl) ?_))); (case m9 => intro z h2 h3; (((try dsimp only [kstB]); (repeat (first | refine st_if (st_ne (by assumption) (by rfl)) ?_ | refine st_if (by assumption) ?_ | refine st_if (by rename (∀ p, p ∈ _ → _ ≠ _) => h9; exact h9 _ (.head _)) ?_ | refine st_if (by rename (∀ p, p ∈ _ → _ ≠ _) => h9; exact h9 _ mem1) ?_ | refine st_if (by rename (∀ p, p ∈ _ → _ ≠ _) => h9; exact h9 _ mem2) ?_ | refine st_if (by rename (∀ p, p ∈ _ → _ ≠ _) => h9; exact h9 _ mem3) ?_)); first | exact st_bot (by assumption) | ((repeat (first | refine st_ifr (st_ne (by assumption) (by rfl)) ?_ | refine st_ifr (by assumption) ?_ | refine st_ifr (by rename (∀ p, p ∈ _ → _ ≠ _) => h9; exact h9 _ (.head _)) ?_ | refine st_ifr (by rename (∀ p, p ∈ _ → _ ≠ _) => h9; exact h9 _ mem1) ?_ | refine st_ifr (by rename (∀ p, p ∈ _ → _ ≠ _) => h9; exact h9 _ mem2) ?_ | refine st_ifr (by rename (∀ p, p ∈ _ → _ ≠ _) => h9; exact h9 _ mem3) ?_)); exact rfl))))))) (by omega) ⟨_, _, i + 1, _, rfl, by omega, rfl, rfl, ?_⟩
            rw [take_snoc hc, partsOf, List.foldl_append]
            show SgsAre st (u' ++ [.ref st]) (stepP (partsOf (l.take i)) 42)
            rw [stepP, if_pos rfl, hg, if_pos rfl]
            exact hus
          · refine wpAny_isNot_other (by rfl) (fun e => by cases e) ?_
            (repeat' ((( (fail_if_success (with_reducible show PySem.wpAny _ _ (PySem.exec (PySem.Stmt.For _ _ _ _ _) _) _ _ _)); (fail_if_success (with_reducible show PySem.wpAny _ _ (PySem.exec (PySem.Stmt.While _ _ _ _) _) _ _ _)); first | (k_unfold; (try dsimp only)) | (first | ((with_reducible show PySem.wpAny _ _ (PySem.execs _ _) _ _ _); k_fold) | walk1 | (dsimp only; walk1)) | fail "no step"))))
            rename News _ _ _ _ => nE
            (try simp only [List.push_toArray] at nE)
            refine WPost.next (.inl rfl) ⟨[(q', bfmObj "list.append" (.ref r')), (r', W.listOf ((u' ++ [_]) ++ _).toArray (k + 1))], [(Str.ofString "i", .int (i + 1 : Nat) _)]⟩ (l.length - (i + 1)) (by assumption) (by ((refine cb_drop (by assumption) ?_; repeat (first | exact List.forall_mem_nil _ | refine fm_cons (by k_mem) ?_)))) (by ((refine ⟨?n9, ?m9⟩; (case n9 => (repeat (first | exact List.forall_mem_nil _ | refine fm_cons (by with_unfolding_all rfl) ?_))); (case m9 => intro z h2 h3; (((try dsimp only [kstB]); (repeat (first | refine st_if (st_ne (by assumption) (by rfl)) ?_ | refine st_if (by assumption) ?_ | refine st_if (by rename (∀ p, p ∈ _ → _ ≠ _) => h9; exact h9 _ (.head _)) ?_ | refine st_if (by rename (∀ p, p ∈ _ → _ ≠ _) => h9; exact h9 _ mem1) ?_ | refine st_if (by rename (∀ p, p ∈ _ → _ ≠ _) => h9; exact h9 _ mem2) ?_ | refine st_if (by rename (∀ p, p ∈ _ → _ ≠ _) => h9; exact h9 _ mem3) ?_)); first | exact st_bot (by assumption) | ((repeat (first | refine st_ifr (st_ne (by assumption) (by rfl)) ?_ | refine st_ifr (by assumption) ?_ | refine st_ifr (by rename (∀ p, p ∈ _ → _ ≠ _) => h9; exact h9 _ (.head _)) ?_ | refine st_ifr (by rename (∀ p, p ∈ _ → _ ≠ _) => h9; exact h9 _ mem1) ?_ | refine st_ifr (by rename (∀ p, p ∈ _ → _ ≠ _) => h9; exact h9 _ mem2) ?_ | refine st_ifr (by rename (∀ p, p ∈ _ → _ ≠ _) => h9; exact h9 _ mem3) ?_)); exact rfl))))))) (by omega) ⟨_, _, i + 1, _, rfl, by omega, rfl, rfl, ?_⟩
            refine fin _ _ .star ?_
            rw [stepP, if_pos rfl, hg, if_neg (by simp)]
      · (repeat' ((( (fail_if_success (with_reducible show PySem.wpAny _ _ (PySem.exec (PySem.Stmt.For _ _ _ _ _) _) _ _ _)); (fail_if_success (with_reducible show PySem.wpAny _ _ (PySem.exec (PySem.Stmt.While _ _ _ _) _) _ _ _)); first | (k_unfold; (try dsimp only)) | (first | ((with_reducible show PySem.wpAny _ _ (PySem.execs _ _) _ _ _); k_fold) | walk1 | (dsimp only; walk1)) | fail "no step"))))
        rename News _ _ _ _ => nE
        (try simp only [List.push_toArray] at nE)
        refine WPost.next (.inl rfl) ⟨[(q', bfmObj "list.append" (.ref r')), (r', W.listOf (us ++ _).toArray (k + 1))], [(Str.ofString "i", .int (i + 1 : Nat) _)]⟩ (l.length - (i + 1)) (by assumption) (by ((refine cb_drop (by assumption) ?_; repeat (first | exact List.forall_mem_nil _ | refine fm_cons (by k_mem) ?_)))) (by ((refine ⟨?n9, ?m9⟩; (case n9 => (repeat (first | exact List.forall_mem_nil _ | refine fm_cons (by with_unfolding_all rfl) ?_))); (case m9 => intro z h2 h3; (((try dsimp only [kstB]); (repeat (first | refine st_if (st_ne (by assumption) (by rfl)) ?_ | refine st_if (by assumption) ?_ | refine st_if (by rename (∀ p, p ∈ _ → _ ≠ _) => h9; exact h9 _ (.head _)) ?_ | refine st_if (by rename (∀ p, p ∈ _ → _ ≠ _) => h9; exact h9 _ mem1) ?_ | refine st_if (by rename (∀ p, p ∈ _ → _ ≠ _) => h9; exact h9 _ mem2) ?_ | refine st_if (by rename (∀ p, p ∈ _ → _ ≠ _) => h9; exact h9 _ mem3) ?_)); first | exact st_bot (by assumption) | ((repeat (first | refine st_ifr (st_ne (by assumption) (by rfl)) ?_ | refine st_ifr (by assumption) ?_ | refine st_ifr (by rename (∀ p, p ∈ _ → _ ≠ _) => h9; exact h9 _ (.head _)) ?_ | refine st_ifr (by rename (∀ p, p ∈ _ → _ ≠ _) => h9; exact h9 _ mem1) ?_ | refine st_ifr (by rename (∀ p, p ∈ _ → _ ≠ _) => h9; exact h9 _ mem2) ?_ | refine st_ifr (by rename (∀ p, p ∈ _ → _ ≠ _) => h9; exact h9 _ mem3) ?_)); exact rfl))))))) (by omega) ⟨_, _, i + 1, _, rfl, by omega, rfl, rfl, ?_⟩
        refine fin _ _ (.txt _ _) ?_
        first | exact rfl | decide +kernel | (simp [stepP, sg1]; decide +kernel)
      all_goals (
        (repeat' ((( (fail_if_success (with_reducible show PySem.wpAny _ _ (PySem.exec (PySem.Stmt.For _ _ _ _ _) _) _ _ _)); (fail_if_success (with_reducible show PySem.wpAny _ _ (PySem.exec (PySem.Stmt.While _ _ _ _) _) _ _ _)); first | (k_unfold; (try dsimp only)) | (first | ((with_reducible show PySem.wpAny _ _ (PySem.execs _ _) _ _ _); k_fold) | walk1 | (dsimp only; walk1)) | fail "no step"))))
        rename News _ _ _ _ => nE
        (try simp only [List.push_toArray] at nE)
        refine WPost.next (.inl rfl) ⟨[(q', bfmObj "list.append" (.ref r')), (r', W.listOf (us ++ _).toArray (k + 1))], [(Str.ofString "i", .int (i + 1 : Nat) _)]⟩ (l.length - (i + 1)) (by assumption) (by ((refine cb_drop (by assumption) ?_; repeat (first | exact List.forall_mem_nil _ | refine fm_cons (by k_mem) ?_)))) (by ((refine ⟨?n9, ?m9⟩; (case n9 => (repeat (first | exact List.forall_mem_nil _ | refine fm_cons (by with_unfolding_all rfl) ?_))); (case m9 => intro z h2 h3; (((try dsimp only [kstB]); (repeat (first | refine st_if (st_ne (by assumption) (by rfl)) ?_ | refine st_if (by assumption) ?_ | refine st_if (by rename (∀ p, p ∈ _ → _ ≠ _) => h9; exact h9 _ (.head _)) ?_ | refine st_if (by rename (∀ p, p ∈ _ → _ ≠ _) => h9; exact h9 _ mem1) ?_ | refine st_if (by rename (∀ p, p ∈ _ → _ ≠ _) => h9; exact h9 _ mem2) ?_ | refine st_if (by rename (∀ p, p ∈ _ → _ ≠ _) => h9; exact h9 _ mem3) ?_)); first | exact st_bot (by assumption) | ((repeat (first | refine st_ifr (st_ne (by assumption) (by rfl)) ?_ | refine st_ifr (by assumption) ?_ | refine st_ifr (by rename (∀ p, p ∈ _ → _ ≠ _) => h9; exact h9 _ (.head _)) ?_ | refine st_ifr (by rename (∀ p, p ∈ _ → _ ≠ _) => h9; exact h9 _ mem1) ?_ | refine st_ifr (by rename (∀ p, p ∈ _ → _ ≠ _) => h9; exact h9 _ mem2) ?_ | refine st_ifr (by rename (∀ p, p ∈ _ → _ ≠ _) => h9; exact h9 _ mem3) ?_)); exact rfl))))))) (by omega) ⟨_, _, i + 1, _, rfl, by omega, rfl, rfl, ?_⟩
        refine fin _ _ (.txt _ _) ?_
        first | exact rfl | decide +kernel | (simp [stepP, sg1]; decide +kernel))
    · have hi' : i = l.length := by omega
      subst hi'
      (repeat' ((( (fail_if_success (with_reducible show PySem.wpAny _ _ (PySem.exec (PySem.Stmt.For _ _ _ _ _) _) _ _ _)); (fail_if_success (with_reducible show PySem.wpAny _ _ (PySem.exec (PySem.Stmt.While _ _ _ _) _) _ _ _)); first | (k_unfold; (try dsimp only)) | (first | ((with_reducible show PySem.wpAny _ _ (PySem.execs _ _) _ _ _); k_fold) | walk1 | (dsimp only; walk1)) | fail "no step"))))
      dsimp only
      k_unfold
      dsimp only
      refine Done.intro F2 ⟨_, _, _, rfl, News.fresh N2 mem1, News.get N2 mem1, ?_⟩
      rw [List.take_of_length_le (Nat.le_refl _)] at hus
      exact hus
example : True := by w_top off; trivial
noncomputable def gluel (sep : List Nat) : List (List Nat) → List Nat
  | [] => []
  | [a] => a
  | a :: b :: r => a ++ sep ++ gluel sep (b :: r)
theorem gluel_nil : ∀ ls : List (List Nat), gluel [] ls = ls.flatten
  | [] => rfl
  | [a] => by simp [gluel]
  | a :: b :: r => by rw [gluel, gluel_nil (b :: r)]; simp
theorem tx_append (a b : List Nat) : tx a ++ tx b = tx (a ++ b) := by
  refine Str.ext' (Array.toList_inj.mp ?_)
  simp only [Str.cps_append, Array.toList_append]
theorem join_txs (sep : List Nat) : ∀ ls : List (List Nat), Str.join (tx sep) (ls.map tx) = tx (gluel sep ls)
  | [] => rfl
  | [a] => rfl
  | a :: b :: r => by
    have ih := join_txs sep (b :: r)
    show tx a ++ tx sep ++ Str.join (tx sep) ((b :: r).map tx) = _
    rw [ih, tx_append, tx_append]; rfl
theorem txt_join (sep : List Nat) (ls : List (List Nat)) : Txt.join (tx sep) (ls.map tx) = tx (gluel sep ls) := by
  show Builtin.Str.glued _ _ = _
  rw [StrLaws.glued_eq_join, join_txs]
noncomputable abbrev TxAre (vs : List Value) (ls : List (List Nat)) : Prop := Paired (fun v l => ∃ t, v = Value.str (tx l) t) vs ls
theorem TxAre.strs : ∀ {vs : List Value} {ls : List (List Nat)}, TxAre vs ls → StrsAre vs (ls.map tx)
  | _, _, .nil => .nil
  | _, _, .cons ⟨_, e⟩ r => by subst e; exact .cons _ _ (TxAre.strs r)
theorem tx_length (l : List Nat) : (tx l).length = l.length := by simp [Str.length]
theorem sum_tx (ls : List (List Nat)) : ((ls.map tx).map (·.length)).sum = (ls.map (·.length)).sum := by
  rw [List.map_map]; congr 1
noncomputable def lineOf (ws : List (List Nat)) : List Nat := gluel [32] (ws.map quo)
theorem comp_signs (l : List Nat) : List.map (fun a => if (a == Str.ofString "'") = true then PyData.str (Str.ofString "'\"'\"'") else PyData.str a) (List.filter (fun _ => true) (signs (tx l))) =
    ((l.map fun c => if c = 39 then [39, 34, 39, 34, 39] else [c]).map tx).map PyData.str := by
  have e1 : Str.ofString "'" = ⟨#[39]⟩ := by decide +kernel
  have e2 : Str.ofString "'\"'\"'" = tx [39, 34, 39, 34, 39] := by decide +kernel
  rw [filter_everyA, signs, List.map_map, List.map_map, List.map_map, e1, e2]
  refine List.map_congr_left fun c _ => ?_
  show (if ((⟨#[c]⟩ : Str) == ⟨#[39]⟩) = true then _ else _) = PyData.str (tx (if c = 39 then _ else _))
  by_cases h : c = 39
  · subst h; rfl
  · rw [if_neg h, if_neg (by
      intro e
      have := eq_of_beq e
      simp at this; exact h this)]
section
variable {prog : Program} {w : World} {A : Around} {E : Value → Shared → Prop} {s : Shared} {Q : Value → Shared → Prop} {t : Tok} {D : Addr}
theorem my_joincomp {ys : List Value} {l : List Nat} (hl : s.heap.IsList D ys.toArray)
    (hc : CarriedAll ys (List.map (fun a => if (a == Str.ofString "'") = true then PyData.str (Str.ofString "'\"'\"'") else PyData.str a) (List.filter (fun _ => true) (signs (tx l)))))
    (hz : l.length ≤ 100000) (h : ∀ t' k, Q (.str (tx (esc l)) t') { s with toks := k }) : wpAny (model prog w) A (call (.builtin "str.join") [.str (Str.ofString "") t, .ref D]) Q E s := by
  rw [comp_signs] at hc
  have e : Txt.join (Str.ofString "") ((l.map fun c => if c = 39 then [39, 34, 39, 34, 39] else [c]).map tx) = tx (esc l) := by
    have e0 : Str.ofString "" = tx [] := by decide +kernel
    rw [e0, txt_join, gluel_nil, esc, List.flatMap_def]
  refine join_list hl (ys := (l.map fun c => if c = 39 then [39, 34, 39, 34, 39] else [c]).map tx) (StrsAre.of_carried hc) ?_ (by rw [e]; exact h)
  rw [sum_tx]
  have h5 : ∀ l : List Nat, ((l.map fun c => if c = 39 then [39, 34, 39, 34, 39] else [c]).map (·.length)).sum ≤ 5 * l.length := by
    intro l
    induction l with
    | nil => simp
    | cons c r ih =>
      simp only [List.map_cons, List.sum_cons, List.length_cons]
      have : (if c = 39 then [39, 34, 39, 34, 39] else [c] : List Nat).length ≤ 5 := by split <;> simp
      omega
  have e0 : (Str.ofString "").length = 0 := by decide +kernel
  have := h5 l
  rw [e0]; simp only [Nat.mul_zero, Nat.add_zero]; omega
theorem my_joinline {ys : List Value} {n : Nat} {ls : List (List Nat)} {h₀ : Heap} {L : Addr} {news : List (Addr × Obj)} (N : News h₀ L s.heap news) (hm : (D, W.listOf ys.toArray n) ∈ news) (hc : TxAre ys ls)
    (hz : ∀ l ∈ ls, l.length ≤ 10000) (hn : ls.length ≤ 1000) (h : ∀ t' k, Q (.str (tx (gluel [32] ls)) t') { s with toks := k }) : wpAny (model prog w) A (call (.builtin "str.join") [.str (Str.ofString " ") t, .ref D]) Q E s := by
  have e0 : Str.ofString " " = tx [32] := by decide +kernel
  rw [e0]
  refine join_list (items := ys.toArray) ⟨_, N.get hm, rfl, _, rfl⟩ (ys := ls.map tx) hc.strs ?_ (by rw [txt_join]; exact h)
  rw [sum_tx]
  have h5 : ∀ ls : List (List Nat), (∀ l ∈ ls, l.length ≤ 10000) → (ls.map (·.length)).sum ≤ 10000 * ls.length := by
    intro ls
    induction ls with
    | nil => intro _; simp
    | cons c r ih =>
      intro hh
      have := ih fun l hl => hh l (.tail _ hl)
      have := hh c (.head _)
      simp only [List.map_cons, List.sum_cons, List.length_cons]; omega
  have := h5 ls hz
  rw [tx_length, List.length_map]
  simp only [List.length_cons, List.length_nil]; omega
end
example : True := by w_top off; trivial
theorem use_bare {w : World} {A : Around} {E : Value → Shared → Prop} {Q : Value → Shared → Prop} {s : Shared} {h₀ : Heap} {L : Addr} {m : Str → Option Value} {news : List (Addr × Obj)} {l : List Nat} {t : Tok} (I : Inv w h₀) (F : Fr h₀ L s.heap m) (N : News h₀ L s.heap news) (hok : ∀ c ∈ l, okC c = true) (hl : l.length ≤ 100000)
    (hh : A.handled = none) (hd : A.depth + 20 < recursionLimit) (hu : A.units + 100 < cLine) (h : ∀ h' tk, Fr h₀ L h' m → News h₀ L h' news → Q (.bool (bareB l)) { s with heap := h', toks := tk }) :
    wpAny (model PySem.Challenge.rw_ik0159_01.row.prog w) A (call (.ref 127) [.str (tx l) t]) Q E s := by
  exact (bare_spec w l t s (I.keeps F.keep) hok (by simp [Str.length]; omega)).use hh hd hu fun _ h' tk hk hv => hv ▸ h h' tk (F.keeps hk) (N.keeps hk)
local macro_rules | `(tactic| walk_at "call builtin:str.join") => `(tactic| ((with_reducible show wpAny _ _ (call (Value.builtin "str.join") [Value.str (Str.ofString "") _, Value.ref _]) _ _ _); (rename CarriedAll _ _ => hc9); refine my_joincomp (by assumption) hc9 (by omega) ?_; intro t' k'))
local macro_rules | `(tactic| walk_at "call ref") => `(tactic| (k_here; k_dflt (refine' use_bare ?I ?F ?N ?ok ?l rfl ?hd ?hu ?_; fail "m m_fn"; (case I => assumption); (case ok => assumption); (case l => omega); fail "m m_hu"); intros))
theorem line_spec (w : World) (ws : List (List Nat)) (a : Addr) (vs : List Value) (s : Shared) (I : Inv w s.heap) (ha : s.heap.IsList a vs.toArray) (hvs : Paired (fun v l => ∃ t, v = .str (tx l) t) vs ws) (hok : ∀ l ∈ ws, ∀ c ∈ l, okC c = true) (hl : ∀ l ∈ ws, l.length ≤ 1000) (hn : ws.length ≤ 1000) (hq : ∀ l ∈ ws, (quo l).length ≤ 6000) :
    PureN 30 w 132 [.ref a] s (fun r _ => ∃ t', r = .str (tx (lineOf ws)) t') := by
  (first | unfold Pure | unfold PureN)
  have X9p := Inv.X I
  revert X9p
  k_fill
  intro X9p dp9p un9p fr9p gd9p E9p hdp9p hun9p
  (refine wpAny_call ?_)
  obtain ⟨p9p, loose9p, mean9p, mg9p, mb9p, T9p⟩ := Inv.T I
  k_dflt (refine' pure_def (binds := [(Str.ofString "words", .ref a)]) X9p T9p ?ho ?hcd ?hroom ?hbind ?hloc ?_ ?c2 ?c3 ?c4 ?c5; (case ho => k_is); (case hcd => k_is); (case hroom => (show dp9p < _; omega)); (case hbind => exact BindsTo.of_eq rfl); (case c5 => decide); (case hloc => exact locs rfl); (case c2 => exact rfl); (case c3 => exact rfl); (case c4 => exact rfl))
  intro h9p F9p N9p
  (try dsimp only)
  (try k_fold)
  (repeat' ((( (fail_if_success (with_reducible show PySem.wpAny _ _ (PySem.exec (PySem.Stmt.For _ _ _ _ _) _) _ _ _)); (fail_if_success (with_reducible show PySem.wpAny _ _ (PySem.exec (PySem.Stmt.While _ _ _ _) _) _ _ _)); first | (k_unfold; (try dsimp only)) | (first | ((with_reducible show PySem.wpAny _ _ (PySem.execs _ _) _ _ _); k_fold) | walk1 | (dsimp only; walk1)) | fail "no step"))))
  rename News _ _ _ _ => N1
  rename_i l' _ _ _ _
  obtain ⟨oa, hoa, hc, hd⟩ := ha
  refine For_invV s.heap (by rfl) (by rfl) ?_ (by intro _; rfl) PassesOwn.never
  walk1
  refine for_list [Str.ofString "inner"] (fun i c => c.nms = [] ∧ ∃ us k, c.led = [(l', W.listOf us.toArray k)] ∧ Paired (fun v l => ∃ t, v = .str (tx l) t) us ((ws.take i).map quo)) ⟨[(l', W.listOf [].toArray 0)], []⟩ rfl hc hd (.inl hoa) (by assumption) (by assumption) (fun _ h => nomatch h) ⟨rfl, [], 0, rfl, .nil⟩ ?_ ?_
  · intro i v z19 u h tk I' oI hi z29 hI F1 N1
    show wpAny _ _ _ _ _ _
    k_fold
    obtain ⟨led, nms⟩ := z19
    obtain ⟨hn, us, k, hled, hus⟩ := z29
    dsimp only at hn hled F1 N1
    subst hn hled
    obtain ⟨l, hlw, t, rfl⟩ := paired_at hvs i _ hi
    have hne : @Ne Nat l' I' := hI _ (.head _)
    have hokl := hok l (List.mem_of_getElem? hlw)
    have hll := hl l (List.mem_of_getElem? hlw)
    have hil : i < ws.length := (List.getElem?_eq_some_iff.mp hlw).1
    have hL : (tx l).length ≤ 1048576 := by simp [Str.length]; omega
    have hlen : us.length ≤ 1000 := by rw [paired_len hus]; simp; omega
    have hE : (tx (esc l)).length ≤ 5000 := by have := esc_len l; simp [Str.length]; omega
    have hql := hq l (List.mem_of_getElem? hlw)
    have etk : (ws.take (i + 1)).map quo = (ws.take i).map quo ++ [quo l] := by rw [take_snoc hlw, List.map_append]; rfl
    (repeat' ((( (fail_if_success (with_reducible show PySem.wpAny _ _ (PySem.exec (PySem.Stmt.For _ _ _ _ _) _) _ _ _)); (fail_if_success (with_reducible show PySem.wpAny _ _ (PySem.exec (PySem.Stmt.While _ _ _ _) _) _ _ _)); first | (k_unfold; (try dsimp only)) | (first | ((with_reducible show PySem.wpAny _ _ (PySem.execs _ _) _ _ _); k_fold) | walk1 | (dsimp only; walk1)) | fail "no step"))))
    · rename bareB _ = true => hb
      rename News _ _ _ _ => nE
      (try simp only [List.push_toArray] at nE)
      refine TurnPost.next (.inl rfl) ⟨[(l', W.listOf (us ++ _).toArray (k + 1))], []⟩ (by assumption) (by ((refine cb_drop (by assumption) ?_; repeat (first | exact List.forall_mem_nil _ | refine fm_cons (by k_mem) ?_)))) (by ((repeat (first | exact List.forall_mem_nil _ | refine fm_cons (by first | assumption | k_ne) ?_)))) (by ((refine ⟨?n9, ?m9⟩; (case n9 => (repeat (first | exact List.forall_mem_nil _ | refine fm_cons (by with_unfolding_all rfl) ?_))); (case m9 => intro z h1 h2 h3; (((try dsimp only [kstB]); (repeat (first | refine st_if (st_ne (by assumption) (by rfl)) ?_ | refine st_if (by assumption) ?_ | refine st_if (by rename (∀ p, p ∈ _ → _ ≠ _) => h9; exact h9 _ (.head _)) ?_ | refine st_if (by rename (∀ p, p ∈ _ → _ ≠ _) => h9; exact h9 _ mem1) ?_ | refine st_if (by rename (∀ p, p ∈ _ → _ ≠ _) => h9; exact h9 _ mem2) ?_ | refine st_if (by rename (∀ p, p ∈ _ → _ ≠ _) => h9; exact h9 _ mem3) ?_)); first | exact st_bot (by assumption) | ((repeat (first | refine st_ifr (st_ne (by assumption) (by rfl)) ?_ | refine st_ifr (by assumption) ?_ | refine st_ifr (by rename (∀ p, p ∈ _ → _ ≠ _) => h9; exact h9 _ (.head _)) ?_ | refine st_ifr (by rename (∀ p, p ∈ _ → _ ≠ _) => h9; exact h9 _ mem1) ?_ | refine st_ifr (by rename (∀ p, p ∈ _ → _ ≠ _) => h9; exact h9 _ mem2) ?_ | refine st_ifr (by rename (∀ p, p ∈ _ → _ ≠ _) => h9; exact h9 _ mem3) ?_)); exact rfl))))))) ⟨rfl, _, _, rfl, ?_⟩
      rw [etk]
      refine paired_app hus (.cons ?_ .nil)
      exact ⟨t, by rw [quo, hb]; rfl⟩
    · rename bareB _ = false => hb
      rename News _ _ _ _ => nE
      (try simp only [List.push_toArray] at nE)
      refine TurnPost.next (.inl rfl) ⟨[(l', W.listOf (us ++ _).toArray (k + 1))], []⟩ (by assumption) (by ((refine cb_drop (by assumption) ?_; repeat (first | exact List.forall_mem_nil _ | refine fm_cons (by k_mem) ?_)))) (by ((repeat (first | exact List.forall_mem_nil _ | refine fm_cons (by first | assumption | k_ne) ?_)))) (by ((refine ⟨?n9, ?m9⟩; (case n9 => (repeat (first | exact List.forall_mem_nil _ | refine fm_cons (by with_unfolding_all rfl) ?_))); (case m9 => intro z h1 h2 h3; (((try dsimp only [kstB]); (repeat (first | refine st_if (st_ne (by assumption) (by rfl)) ?_ | refine st_if (by assumption) ?_ | refine st_if (by rename (∀ p, p ∈ _ → _ ≠ _) => h9; exact h9 _ (.head _)) ?_ | refine st_if (by rename (∀ p, p ∈ _ → _ ≠ _) => h9; exact h9 _ mem1) ?_ | refine st_if (by rename (∀ p, p ∈ _ → _ ≠ _) => h9; exact h9 _ mem2) ?_ | refine st_if (by rename (∀ p, p ∈ _ → _ ≠ _) => h9; exact h9 _ mem3) ?_)); first | exact st_bot (by assumption) | ((repeat (first | refine st_ifr (st_ne (by assumption) (by rfl)) ?_ | refine st_ifr (by assumption) ?_ | refine st_ifr (by rename (∀ p, p ∈ _ → _ ≠ _) => h9; exact h9 _ (.head _)) ?_ | refine st_ifr (by rename (∀ p, p ∈ _ → _ ≠ _) => h9; exact h9 _ mem1) ?_ | refine st_ifr (by rename (∀ p, p ∈ _ → _ ≠ _) => h9; exact h9 _ mem2) ?_ | refine st_ifr (by rename (∀ p, p ∈ _ → _ ≠ _) => h9; exact h9 _ mem3) ?_)); exact rfl))))))) ⟨rfl, _, _, rfl, ?_⟩
      rw [etk]
      refine paired_app hus (.cons ?_ .nil)
      rw [← quo_text _ hb]
      exact ⟨_, rfl⟩
  · rintro ⟨led, nms⟩ u h tk ⟨hn', us, k, hled, hus⟩ F1 N1
    dsimp only at hn' hled F1 N1
    subst hn' hled
    rw [List.take_of_length_le (by rw [paired_len hvs]; exact Nat.le_refl _)] at hus
    (repeat' ((( (fail_if_success (with_reducible show PySem.wpAny _ _ (PySem.exec (PySem.Stmt.For _ _ _ _ _) _) _ _ _)); (fail_if_success (with_reducible show PySem.wpAny _ _ (PySem.exec (PySem.Stmt.While _ _ _ _) _) _ _ _)); first | (k_unfold; (try dsimp only)) | (first | ((with_reducible show PySem.wpAny _ _ (PySem.execs _ _) _ _ _); k_fold) | walk1 | (dsimp only; walk1)) | fail "no step"))))
    refine my_joinline N1 (.head _) hus (fun q hq' => ?_) (by simp; omega) fun t' k' => ?_
    · obtain ⟨l, hl', rfl⟩ := List.mem_map.mp hq'
      have := hq l hl'
      omega
    · (repeat' ((( (fail_if_success (with_reducible show PySem.wpAny _ _ (PySem.exec (PySem.Stmt.For _ _ _ _ _) _) _ _ _)); (fail_if_success (with_reducible show PySem.wpAny _ _ (PySem.exec (PySem.Stmt.While _ _ _ _) _) _ _ _)); first | (k_unfold; (try dsimp only)) | (first | ((with_reducible show PySem.wpAny _ _ (PySem.execs _ _) _ _ _); k_fold) | walk1 | (dsimp only; walk1)) | fail "no step"))))
      exact Done.intro F1 ⟨_, rfl⟩
example : True := by w_top off; trivial
noncomputable def kindTx : ItemKind (List Nat) := ⟨fun l v => ∃ t, v = .str (tx l) t, fun v => match v with | .str x _ => some x.cps.toList | _ => none, fun _ _ h => by obtain ⟨t, rfl⟩ := h; rfl⟩
theorem TxAre.areOf : ∀ {vs : List Value} {ls : List (List Nat)}, TxAre vs ls → AreOf kindTx vs ls
  | _, _, .nil => .nil
  | _, _, .cons h r => .cons h (TxAre.areOf r)
theorem join_spec (w : World) (ws : List (List Nat)) (a : Addr) (vs : List Value) (s : Shared) (I : Inv w s.heap) (G : AllBare s.gens) (ht : s.heap.get? 97 = some (tabObj #[])) (ha : s.heap.IsList a vs.toArray) (hvs : TxAre vs ws) (hok : ∀ l ∈ ws, ∀ c ∈ l, okC c = true) (hl : ∀ l ∈ ws, l.length ≤ 1000) (hn : ws.length ≤ 1000) (hq : ∀ l ∈ ws, (quo l).length ≤ 6000)
    (dp un : Nat) (fr : Option (List Env)) (gd : Option (List Code)) (E : Value → Shared → Prop) (hdp : dp + 60 < recursionLimit) (hun : un + 800 < cLine) :
    wpAny (model PySem.Challenge.rw_ik0159_01.row.prog w) (Ar dp un fr gd) (call (.ref 102) [.ref a])
      (fun r s' => (∃ t', r = .str (tx (lineOf ws)) t') ∧ AllBare s'.gens ∧ s'.os = s.os ∧ (∀ b o, b ≠ 97 → s.heap.get? b = some o → s'.heap.get? b = some o) ∧ ∃ ps, s'.heap.get? 97 = some (tabObj ps)) E s := by
  have X := Inv.X I
  have hcd : CodeHd s.heap 101 97 := codeHd_of_K X (by kernel_rfl)
  have hB : Based s.heap s.heap 101 97 #[] := .start (hcd.code ht True.intro) (hcd.tab ht) (by decide)
  revert X
  k_fill
  intro X
  (refine wpAny_call ?_)
  obtain ⟨p, loose, mean, mg, mb, T⟩ := Inv.T I
  obtain ⟨bm, ob, M⟩ := bmod_of_top T
  k_dflt (refine' pure_def (binds := [(Str.ofString "split_command", .ref a)]) X T ?ho ?hcd ?hroom ?hbind ?hloc ?_ ?c2 ?c3 ?c4 ?c5; (case ho => k_is); (case hcd => k_is); (case hroom => (show dp < _; omega)); (case hbind => exact BindsTo.of_eq rfl); (case c5 => decide); (case hloc => exact locs rfl); (case c2 => exact rfl); (case c3 => exact rfl); (case c4 => exact rfl))
  intro h₁ F N
  (try dsimp only)
  show wpAny _ _ _ _ _ _
  k_fold
  (repeat' ((( (fail_if_success (with_reducible show PySem.wpAny _ _ (PySem.exec (PySem.Stmt.For _ _ _ _ _) _) _ _ _)); (fail_if_success (with_reducible show PySem.wpAny _ _ (PySem.exec (PySem.Stmt.While _ _ _ _) _) _ _ _)); first | (k_unfold; (try dsimp only)) | (first | ((with_reducible show PySem.wpAny _ _ (PySem.execs _ _) _ _ _); k_fold) | walk1 | (dsimp only; walk1)) | fail "no step"))))
  have hT : TabsAt [(101, 97)] s.heap := by
    intro q hq
    rw [List.mem_singleton.mp hq]
    exact ⟨hcd, ht⟩
  have X2 : (hd.heap_1 w.params).In (ghostOf s.heap [(101, 97)]) := ghost_K hT X (by kernel_rfl)
  have T2 := ghost_top hT T
  refine GeneratorExp_DF (K := kindTx) (L := s.heap.objs.size) (m := fun y => List.lookup y [(Str.ofString "split_command", Value.ref a)].reverse) (pz := fun _ => true) (d := fun l => .str (tx (quo l))) hB M rfl rfl rfl rfl rfl (by decide) rfl rfl rfl ?_ ?_ ?_
  · show (Ar _ _ _ _).depth + 1 < _
    dsimp only [Ar]; omega
  · walk1
    refine ⟨a, vs, ws, s.heap.objs.size, rfl, ?_, hvs.areOf, F, G, ?_, Nat.le_refl _, F.ns.lt, ?_, ?_, ?_⟩
    · obtain ⟨o, e, r⟩ := ha
      exact ⟨o, F.keep _ _ e, r⟩
    · exact T.nolimit.keeps F.keep
    · intro c' C A' E' l v u m₂ hA hD hU hmem hv hF hm hLC hk
      exact wpAny_pure ⟨rfl, u.heap, u.toks, rfl, fun _ _ e => e⟩
    · rintro c' C A' E' l v u m₂ hA hD hU hmem ⟨t, rfl⟩ _ hF hm hLC hk
      have F2 : Fr (ghostOf s.heap [(101, 97)]) C u.heap m₂ := by
        refine ⟨hF.ns, fun b o e => hF.keep b o ?_, ?_⟩
        · have hb : b ≠ 97 := fun q => by
            rw [q, show (ghostOf s.heap [(101, 97)]).get? 97 = none from hideAll_none [97] (.head _)] at e; cases e
          rw [show (regrown s.heap 97 _).get? b = s.heap.get? b from Heap.get?_update_other _ _ (Ne.symm hb)]
          exact of_hideAll [97] e
        · have := hF.above
          rw [show (regrown s.heap 97 _).objs.size = s.heap.objs.size from (Heap.SameBut.update s.heap 97 _).1] at this
          exact Nat.le_trans (Nat.le_of_eq (hideAll_size [97] _)) this
      have N2 : News (ghostOf s.heap [(101, 97)]) C u.heap [] := News.nil
      have I2 : Inv w (ghostOf s.heap [(101, 97)]) := ⟨X2, ⟨_, _, _, _, _, T2⟩⟩
      clear hF F N hk X T M
      walk1
      refine Name_function_global rfl rfl (loadGlobal_global (env := genEnv _ _ _ _ _ _) (T2.g.keeps F2.keep) (mg_of X2 T2.g (by k_is)) ?_) rfl
      walk1
      walk1
      refine ldVarG F2 hm ?_
      walk1
      refine ⟨X2.keeps F2.keep, ?_⟩
      have hd1 : A'.depth + 20 < recursionLimit := by
        have : A'.depth ≤ (Ar dp un fr gd).depth + 1 + 1 := hD
        dsimp only [Ar] at this; omega
      have hu1 : A'.units + 100 < cLine := by
        have : A'.units ≤ (Ar dp un fr gd).units + 3 + 8 := hU
        dsimp only [Ar] at this; omega
      refine (quote_spec w l t u (I2.keeps F2.keep) (hok l hmem) (by have := hl l hmem; rw [tx_length]; omega) (by have := hl l hmem; omega)).use hA hd1 hu1 fun v h' tk hk hv => ?_
      obtain ⟨t', rfl⟩ := hv
      exact ⟨.str _ _, h', tk, rfl, hk⟩
    · intro c' a' s₅ B5 F5 G5 os5 k5 X5
      have hfil : ws.filter (fun _ => true) = ws := by simp
      have hjt : (ws.filter (fun _ => true)).map (fun l => tx (quo l)) = (ws.map quo).map tx := by rw [hfil, List.map_map]; rfl
      walk1
      have e0 : Str.ofString " " = tx [32] := by decide +kernel
      rw [e0]
      refine join_genD F5 G5 X5 (Nat.le_refl _) ?_ (fun s' t' F6 G6 os6 k6 => ?_) (by simp only [sizeLine_eq]; omega)
      · rw [hjt]
        refine joinOk_of ?_
        rw [sum_tx]
        have h5 : ∀ ls : List (List Nat), (∀ l ∈ ls, (quo l).length ≤ 6000) → ((ls.map quo).map (·.length)).sum ≤ 6000 * ls.length := by
          intro ls
          induction ls with
          | nil => intro _; simp
          | cons c r ih =>
            intro hh
            have := ih fun l hl => hh l (.tail _ hl)
            have := hh c (.head _)
            simp only [List.map_cons, List.sum_cons, List.length_cons]; omega
        have := h5 ws hq
        rw [tx_length, List.length_map, List.length_map]
        simp only [List.length_cons, List.length_nil]; omega
      · rw [hjt, txt_join]
        have e97 : (regrown s.heap 97 (#[] ++ #[rawInt 141, rawInt 20, Value.ref c'])).get? 97 = some (tabObj (#[] ++ #[rawInt 141, rawInt 20, Value.ref c'])) := Heap.get?_update_self _ ht rfl
        refine ⟨⟨t', rfl⟩, G6, os6.trans os5, fun b o hb e => F6.keep b o ?_, _, F6.keep _ _ e97⟩
        exact (Heap.get?_update_other _ _ (Ne.symm hb)).trans e
  · intro _; with_unfolding_all rfl
example : True := by w_top off; trivial
noncomputable def Bd (k : Nat) (x : Int) : Prop := x.natAbs < 2 ^ k
theorem Bd.mono {k l : Nat} {x : Int} (h : Bd k x) (hkl : k ≤ l) : Bd l x := Nat.lt_of_lt_of_le h (Nat.pow_le_pow_right (by decide) hkl)
theorem Bd.mul {k l : Nat} {x y : Int} (h : Bd k x) (g : Bd l y) : Bd (k + l) (x * y) := by
  unfold Bd at *
  rw [Int.natAbs_mul, Nat.pow_add]
  exact Nat.mul_lt_mul'' h g
theorem Bd.pow (m : Nat) : Bd (m + 1) ((2 : Int) ^ m) := by
  unfold Bd
  rw [Int.natAbs_pow]
  exact Nat.pow_lt_pow_right (by decide) (Nat.lt_succ_self m)
theorem Bd.add {k l : Nat} {x y : Int} (h : Bd k x) (g : Bd l y) : Bd (k + l + 1) (x + y) := by
  unfold Bd at *
  have h1 : x.natAbs < 2 ^ (k + l) := Nat.lt_of_lt_of_le h (Nat.pow_le_pow_right (by decide) (by omega))
  have h2 : y.natAbs < 2 ^ (k + l) := Nat.lt_of_lt_of_le g (Nat.pow_le_pow_right (by decide) (by omega))
  rw [Nat.pow_succ]
  omega
theorem Bd.neg {k : Nat} {x : Int} (h : Bd k x) : Bd k (-x) := by unfold Bd at *; rw [Int.natAbs_neg]; exact h
theorem Bd.sub {k l : Nat} {x y : Int} (h : Bd k x) (g : Bd l y) : Bd (k + l + 1) (x - y) := by rw [Int.sub_eq_add_neg]; exact h.add g.neg
theorem Bd.le {k : Nat} {x y : Int} (g : Bd k y) (h0 : 0 ≤ x) (h : x ≤ y) : Bd k x := by unfold Bd at *; omega
theorem Bd.div {k : Nat} {x y : Int} (g : Bd k x) (h0 : 0 ≤ x) (hy : 0 ≤ y) : Bd k (x / y) := g.le (Int.ediv_nonneg h0 hy) (Int.ediv_le_self _ h0)
theorem Bd.mod {k : Nat} {x y : Int} (g : Bd k x) (h0 : 0 ≤ x) (hy : 0 < y) : Bd k (x % y) := by
  refine g.le (Int.emod_nonneg _ (by omega)) ?_
  have h1 := Int.emod_add_mul_ediv x y
  have h2 : 0 ≤ y * (x / y) := Int.mul_nonneg (by omega) (Int.ediv_nonneg h0 (by omega))
  omega
theorem Bd.small {x : Int} {k : Nat} (h : x.natAbs < 2 ^ 20) (hk : 20 ≤ k) : Bd k x := Bd.mono (k := 20) h hk
theorem Bd.log {k : Nat} {x : Int} (h : Bd k x) : x.natAbs.log2 ≤ k := by
  unfold Bd at h
  by_cases h0 : x.natAbs = 0
  · rw [h0]; exact Nat.zero_le _
  · exact Nat.le_of_lt ((Nat.log2_lt h0).mpr h)
theorem Bd.bits {k : Nat} {x : Int} (h : Bd k x) : Builtin.Int.intBits x ≤ k := by
  unfold Builtin.Int.intBits
  split
  · exact Nat.zero_le _
  · rename_i h0
    have h0' : x.natAbs ≠ 0 := fun e => h0 (by simp [Int.natAbs_eq_zero.mp e])
    unfold Bd at h
    have := (Nat.log2_lt h0').mpr h
    omega
theorem bits_ge {k : Nat} {x : Int} (h : 2 ^ k ≤ x.natAbs) : k + 1 ≤ Builtin.Int.intBits x := by
  have hp : 0 < 2 ^ k := Nat.two_pow_pos k
  unfold Builtin.Int.intBits
  split
  · rename_i h0
    have : x = 0 := by simpa using h0
    subst this
    simp at h
  · have := (Nat.le_log2 (by omega)).mpr h
    omega
theorem bits_eq {k : Nat} {x : Int} (h0 : (2 : Int) ^ k ≤ x) (h1 : x < 2 ^ (k + 1)) : Builtin.Int.intBits x = k + 1 := by
  have hp : (0 : Int) < 2 ^ k := Int.pow_pos (by decide)
  have c1 : ((2 ^ k : Nat) : Int) = 2 ^ k := by push_cast; rfl
  have c2 : ((2 ^ (k + 1) : Nat) : Int) = 2 ^ (k + 1) := by push_cast; rfl
  refine Nat.le_antisymm (Bd.bits ?_) (bits_ge ?_)
  · unfold Bd; omega
  · omega
theorem Bd.of_lt {k : Nat} {x : Int} (h0 : 0 ≤ x) (h : x < 2 ^ k) : Bd k x := by
  have c1 : ((2 ^ k : Nat) : Int) = 2 ^ k := by push_cast; rfl
  unfold Bd; omega
theorem Bd.mulOk {k l : Nat} {x y : Int} (h : Bd k x) (g : Bd l y) (hkl : k + l ≤ 1000000) : IntMulOk x y := by
  have h1 := h.bits
  have h2 := g.bits
  unfold IntMulOk
  have h3 : Builtin.Int.intTooBig ((Builtin.Int.intBits x : Int) + Builtin.Int.intBits y) = false := by
    unfold Builtin.Int.intTooBig
    have : (bitsLine : Int) = 134217728 := by first | rfl | decide
    simp only [decide_eq_false_iff_not, this]
    omega
  rw [h3]; simp

theorem and_mask {a : Int} {m : Nat} (ha : 0 ≤ a) : Builtin.bitAnd a (2 ^ m - 1) = a % 2 ^ m := by
  have hp : (0 : Int) < 2 ^ m := Int.pow_pos (by decide)
  have c1 : ((2 ^ m : Nat) : Int) = 2 ^ m := by push_cast; rfl
  rw [bitAnd_pp ha (by omega)]
  have e : ((2 : Int) ^ m - 1).toNat = 2 ^ m - 1 := by omega
  rw [e, Nat.and_two_pow_sub_one_eq_mod]
  push_cast
  rw [Int.toNat_of_nonneg ha]
theorem nat_and_shift {x y m : Nat} (hy : y < 2 ^ m) : (x * 2 ^ m) &&& y = 0 := by
  have e1 : y &&& (2 ^ m - 1) = y := by rw [Nat.and_two_pow_sub_one_eq_mod, Nat.mod_eq_of_lt hy]
  rw [← e1, Nat.and_comm y, ← Nat.and_assoc, Nat.and_two_pow_sub_one_eq_mod, Nat.mul_mod_left, Nat.zero_and]
theorem bitAnd_shift {a b : Int} {m : Nat} (ha : 0 ≤ a) (hb : 0 ≤ b) (hm : b < 2 ^ m) : Builtin.bitAnd (a * 2 ^ m) b = 0 := by
  have hp : (0 : Int) < 2 ^ m := Int.pow_pos (by decide)
  have c1 : ((2 ^ m : Nat) : Int) = 2 ^ m := by push_cast; rfl
  have h0 : 0 ≤ a * 2 ^ m := Int.mul_nonneg ha (by omega)
  rw [bitAnd_pp h0 hb]
  obtain ⟨x, rfl⟩ := Int.eq_ofNat_of_zero_le ha
  obtain ⟨y, rfl⟩ := Int.eq_ofNat_of_zero_le hb
  have hy : y < 2 ^ m := by omega
  have e1 : ((x : Int) * 2 ^ m).toNat = x * 2 ^ m := by rw [← c1, ← Int.natCast_mul, Int.toNat_natCast]
  rw [e1, Int.toNat_natCast, nat_and_shift hy]; rfl
theorem or_shift {a b : Int} {m : Nat} (ha : 0 ≤ a) (hb : 0 ≤ b) (hm : b < 2 ^ m) : Builtin.bitOr (a * 2 ^ m) b = a * 2 ^ m + b := by
  rw [bitOr_and, bitAnd_shift ha hb hm]; omega
theorem xor_shift {a b : Int} {m : Nat} (ha : 0 ≤ a) (hb : 0 ≤ b) (hm : b < 2 ^ m) : Builtin.bitXor (a * 2 ^ m + b) (a * 2 ^ m) = b := by
  have hp : (0 : Int) < 2 ^ m := Int.pow_pos (by decide)
  have h0 : 0 ≤ a * 2 ^ m := Int.mul_nonneg ha (by omega)
  have hand : Builtin.bitAnd (a * 2 ^ m + b) (a * 2 ^ m) = a * 2 ^ m := by
    have c1 : ((2 ^ m : Nat) : Int) = 2 ^ m := by push_cast; rfl
    rw [bitAnd_pp (by omega) h0]
    obtain ⟨x, rfl⟩ := Int.eq_ofNat_of_zero_le ha
    obtain ⟨y, rfl⟩ := Int.eq_ofNat_of_zero_le hb
    have hy : y < 2 ^ m := by omega
    have e1 : ((x : Int) * 2 ^ m).toNat = x * 2 ^ m := by rw [← c1, ← Int.natCast_mul, Int.toNat_natCast]
    have e3 : ((x : Int) * 2 ^ m + y).toNat = x * 2 ^ m + y := by rw [← c1, ← Int.natCast_mul, ← Int.natCast_add, Int.toNat_natCast]
    have e2 := Nat.two_pow_add_eq_or_of_lt hy x
    rw [Nat.mul_comm] at e2
    rw [e1, e3, e2, Nat.and_or_distrib_right, Nat.and_self, Nat.and_comm y, nat_and_shift hy, Nat.or_zero, ← c1, ← Int.natCast_mul]
  unfold Builtin.bitXor
  rw [bitOr_and, hand]; omega
section
variable {prog : Program} {w : World} {A : Around} {E : Value → Shared → Prop} {s : Shared} {Q : Value → Shared → Prop} {a b : Int} {t u : Tok}
theorem my_shl {k m : Nat} (hk : Bd k a) (hm : k + m ≤ 1000000) (h : Q (.int (a * 2 ^ m) s.toks) { s with toks := s.toks + 1 }) : wpAny (model prog w) A (binaryOp .LShift (.int a t) (.int (m : Int) u)) Q E s :=
  lshift_int (by omega) (by have := hk.bits; omega) (by rw [Int.toNat_natCast]; exact h)
theorem my_ishl {k m : Nat} (hk : Bd k a) (hm : k + m ≤ 1000000) (h : Q (.int (a * 2 ^ m) s.toks) { s with toks := s.toks + 1 }) : wpAny (model prog w) A (inplaceOp .LShift (.int a t) (.int (m : Int) u)) Q E s :=
  ilshift_int (by omega) (by have := hk.bits; omega) (by rw [Int.toNat_natCast]; exact h)
theorem my_shr {m : Nat} (h : Q (.int (a / 2 ^ m) s.toks) { s with toks := s.toks + 1 }) : wpAny (model prog w) A (binaryOp .RShift (.int a t) (.int (m : Int) u)) Q E s :=
  rshift_int (by omega) (by rw [Int.toNat_natCast, Int.fdiv_eq_ediv_of_nonneg _ (Int.le_of_lt (Int.pow_pos (by decide)))]; exact h)
theorem my_ishr {m : Nat} (h : Q (.int (a / 2 ^ m) s.toks) { s with toks := s.toks + 1 }) : wpAny (model prog w) A (inplaceOp .RShift (.int a t) (.int (m : Int) u)) Q E s :=
  irshift_int (by omega) (by rw [Int.toNat_natCast, Int.fdiv_eq_ediv_of_nonneg _ (Int.le_of_lt (Int.pow_pos (by decide)))]; exact h)
theorem my_half {n : Nat} (h : Q (.int ((n / 2 : Nat) : Int) s.toks) { s with toks := s.toks + 1 }) : wpAny (model prog w) A (binaryOp .RShift (.int (n : Int) t) (.int 1 u)) Q E s :=
  my_shr (m := 1) (by rw [show ((n : Int) / 2 ^ 1) = ((n / 2 : Nat) : Int) by omega]; exact h)
theorem my_odd {n : Nat} (h : Q (.int ((n % 2 : Nat) : Int) s.toks) { s with toks := s.toks + 1 }) : wpAny (model prog w) A (binaryOp .BitAnd (.int (n : Int) t) (.int 1 u)) Q E s :=
  and_int (by rw [show (1 : Int) = 2 ^ 1 - 1 by rfl, and_mask (by omega), show ((n : Int) % 2 ^ 1) = ((n % 2 : Nat) : Int) by omega]; exact h)
theorem my_mask {m : Nat} (ha : 0 ≤ a) (hb : b = 2 ^ m - 1) (h : Q (.int (a % 2 ^ m) s.toks) { s with toks := s.toks + 1 }) : wpAny (model prog w) A (binaryOp .BitAnd (.int a t) (.int b u)) Q E s :=
  and_int (by rw [hb, and_mask ha]; exact h)
theorem my_or {m : Nat} (ha : 0 ≤ a) (hb : 0 ≤ b) (hm : b < 2 ^ m) (h : Q (.int (a * 2 ^ m + b) s.toks) { s with toks := s.toks + 1 }) : wpAny (model prog w) A (binaryOp .BitOr (.int (a * 2 ^ m) t) (.int b u)) Q E s :=
  or_int (by rw [or_shift ha hb hm]; exact h)
theorem my_mul {k l : Nat} (hk : Bd k a) (hl : Bd l b) (hkl : k + l ≤ 1000000) (h : Q (.int (a * b) s.toks) { s with toks := s.toks + 1 }) : wpAny (model prog w) A (binaryOp .Mult (.int a t) (.int b u)) Q E s :=
  mul_int h (hk.mulOk hl hkl)
theorem my_divmod {h₀ : Heap} {L : Addr} {m : Str → Option Value} {news : List (Addr × Obj)} {k : Nat} (F : Fr h₀ L s.heap m) (N : News h₀ L s.heap news) (hb : 0 < b) (hk : Bd k b) (hk9 : k < 9000)
    (h : ∀ h', Fr h₀ L h' m → News h₀ L h' ((s.heap.objs.size, { cls := .type "tuple", data := .seq #[.int (a / b) s.toks, .int (a % b) (s.toks + 1)] }) :: news) →
      Q (.ref s.heap.objs.size) { s with toks := s.toks + 1 + 1, heap := h' }) :
    wpAny (model prog w) A (call (.builtin "divmod") [.int a t, .int b u]) Q E s :=
  divmod_N F N (by omega) (fun h' F' N' => h h' F' (by
    rw [Int.fdiv_eq_ediv_of_nonneg _ (by omega), Int.fmod_eq_emod_of_nonneg _ (by omega)] at N'; exact N')) (.inl (PyProof.noPylong_of_log2 (Nat.lt_of_le_of_lt hk.log hk9)))
end
example : True := by w_top off; trivial
local macro_rules | `(tactic| walk_at "binaryOp LShift int int") => `(tactic| (refine my_shl (by assumption) (by omega) ?_))
local macro_rules | `(tactic| walk_at "binaryOp RShift int int") => `(tactic| (first | refine my_half ?_ | refine my_shr ?_))
local macro_rules | `(tactic| walk_at "binaryOp BitAnd int int") => `(tactic| (first | refine my_odd ?_ | refine my_mask (by assumption) (by first | rfl | (simp only [Int.one_mul]; done)) ?_))
local macro_rules | `(tactic| walk_at "binaryOp BitOr int int") => `(tactic| (refine my_or (by first | assumption | omega) (by first | assumption | omega) (by first | assumption | omega) ?_))
local macro_rules | `(tactic| walk_at "binaryOp Mult int int") => `(tactic| (refine my_mul (by assumption) (by assumption) (by omega) ?_))
local macro_rules | `(tactic| walk_at "call builtin:divmod") => `(tactic| ((with_reducible show wpAny _ _ (call (Value.builtin _) [Value.int _ _, Value.int _ _]) _ _ _); refine my_divmod (by assumption) (by assumption) (by assumption) (by assumption) (by omega) ?_; intro _ _ _))
noncomputable abbrev pairObj (q r : Int) (t u : Tok) : Obj := { cls := .type "tuple", data := .seq #[.int q t, .int r u] }
noncomputable abbrev DivPost (h₀ : Heap) (a b : Int) (r : Value) (h : Heap) : Prop := ∃ d t u, r = .ref d ∧ h₀.get? d = none ∧ h.get? d = some (pairObj (a / b) (a % b) t u)
theorem div2_small (w : World) (a b : Int) (n : Nat) (ta tb tn : Tok) (s : Shared) (I : Inv w s.heap) (hb : 0 < b) (ha : 0 ≤ a) (hn : n ≤ 4000) (k : Nat) (hk : k ≤ 4000 + n) (hab : Bd k a) (hbn : Bd n b) :
    PureN 25 w 38 [.int a ta, .int b tb, .int n tn] s (DivPost s.heap a b) := by
  (first | unfold Pure | unfold PureN)
  have X9p := Inv.X I
  revert X9p
  k_fill
  intro X9p dp9p un9p fr9p gd9p E9p hdp9p hun9p
  (refine wpAny_call ?_)
  obtain ⟨p9p, loose9p, mean9p, mg9p, mb9p, T9p⟩ := Inv.T I
  k_dflt (refine' pure_def (binds := [(Str.ofString "a", .int a ta), (Str.ofString "b", .int b tb), (Str.ofString "n", .int n tn)]) X9p T9p ?ho ?hcd ?hroom ?hbind ?hloc ?_ ?c2 ?c3 ?c4 ?c5; (case ho => k_is); (case hcd => k_is); (case hroom => (show dp9p < _; omega)); (case hbind => exact BindsTo.of_eq rfl); (case c5 => decide); (case hloc => exact locs rfl); (case c2 => exact rfl); (case c3 => exact rfl); (case c4 => exact rfl))
  intro h9p F9p N9p
  (try dsimp only)
  (try k_fold)
  have hbits := hab.bits
  (repeat' ((( (fail_if_success (with_reducible show PySem.wpAny _ _ (PySem.exec (PySem.Stmt.For _ _ _ _ _) _) _ _ _)); (fail_if_success (with_reducible show PySem.wpAny _ _ (PySem.exec (PySem.Stmt.While _ _ _ _) _) _ _ _)); first | (k_unfold; (try dsimp only)) | (first | ((with_reducible show PySem.wpAny _ _ (PySem.execs _ _) _ _ _); k_fold) | walk1 | (dsimp only; walk1)) | fail "no step"))))
  rename News _ _ _ _ => N9
  rename Fr _ _ _ _ => F9
  exact Done.intro F9 ⟨_, _, _, rfl, N9.fresh (.head _), N9.get (.head _)⟩
theorem news_cons {h₀ h h' : Heap} {L d : Addr} {o : Obj} {m : Str → Option Value} {news : List (Addr × Obj)} (F : Fr h₀ L h m) (N : News h₀ L h news) (hk : ∀ b o, h.get? b = some o → h'.get? b = some o) (hd : h.get? d = none) (ho : h'.get? d = some o) : News h₀ L h' ((d, o) :: news) := by
  intro p hp
  rcases List.mem_cons.mp hp with rfl | hp
  · refine ⟨ho, fun e => ?_, ?_⟩
    · obtain ⟨o', e', r⟩ := F.ns
      have : h.get? L = some o' := r.choose_spec.1
      rw [← e] at this
      exact absurd (hd.symm.trans this) (by simp)
    · cases q : h₀.get? d with
      | none => rfl
      | some o' => have := F.keep _ _ q; rw [hd] at this; cases this
  · exact N.keeps hk p hp
theorem use_div2 {w : World} {A : Around} {E : Value → Shared → Prop} {Q : Value → Shared → Prop} {s : Shared} {h₀ : Heap} {L : Addr} {m : Str → Option Value} {news : List (Addr × Obj)} {a b : Int} {n k : Nat} {ta tb tn : Tok} (I : Inv w h₀) (F : Fr h₀ L s.heap m) (N : News h₀ L s.heap news)
    (hb : 0 < b) (ha : 0 ≤ a) (hn : n ≤ 4000) (hk : k ≤ 4000 + n) (hab : Bd k a) (hbn : Bd n b)
    (hh : A.handled = none) (hd : A.depth + 25 < recursionLimit) (hu : A.units + 100 + 10 * 25 < cLine) (h : ∀ d t u h' tk, Fr h₀ L h' m → News h₀ L h' ((d, { cls := .type "tuple", data := .seq #[.int (a / b) t, .int (a % b) u] }) :: news) → Q (.ref d) { s with heap := h', toks := tk }) :
    wpAny (model PySem.Challenge.rw_ik0159_01.row.prog w) A (call (.ref 38) [.int a ta, .int b tb, .int (n : Int) tn]) Q E s := by
  refine (div2_small w a b n ta tb tn s (I.keeps F.keep) hb ha hn k hk hab hbn).use hh hd hu fun v h' tk hk hv => ?_
  obtain ⟨d, t, u, rfl, hd, ho⟩ := hv
  exact h d t u h' tk (F.keeps hk) (news_cons F N hk hd ho)
theorem div_unique {a b q r : Int} (h : q * b + r = a) (h0 : 0 ≤ r) (h1 : r < b) : a / b = q ∧ a % b = r := by
  have := (Int.ediv_emod_unique (a := a) (b := b) (r := r) (q := q) (by omega)).mpr ⟨by rw [Int.mul_comm b q]; omega, h0, h1⟩
  exact this
theorem div3_spec (w : World) (a12 a3 b b1 b2 : Int) (n : Nat) (ta tb tn tc td te : Tok) (s : Shared) (I : Inv w s.heap) (hn : n ≤ 4000) (hb : b = b1 * 2 ^ n + b2) (hb1 : 0 < b1) (hb1n : Bd n b1) (hb2 : 0 ≤ b2) (hb2n : b2 < 2 ^ n) (ha : 0 ≤ a12) (ha3 : 0 ≤ a3) (ha3n : a3 < 2 ^ n) (hab : a12 * 2 ^ n + a3 < b * 2 ^ n) :
    PureN 27 w 45 [.int a12 ta, .int a3 tb, .int b tn, .int b1 tc, .int b2 td, .int n te] s (DivPost s.heap (a12 * 2 ^ n + a3) b) := by
  (first | unfold Pure | unfold PureN)
  have X9p := Inv.X I
  revert X9p
  k_fill
  intro X9p dp9p un9p fr9p gd9p E9p hdp9p hun9p
  (refine wpAny_call ?_)
  obtain ⟨p9p, loose9p, mean9p, mg9p, mb9p, T9p⟩ := Inv.T I
  k_dflt (refine' pure_def (binds := [(Str.ofString "a12", .int a12 ta), (Str.ofString "a3", .int a3 tb), (Str.ofString "b", .int b tn), (Str.ofString "b1", .int b1 tc), (Str.ofString "b2", .int b2 td), (Str.ofString "n", .int n te)]) X9p T9p ?ho ?hcd ?hroom ?hbind ?hloc ?_ ?c2 ?c3 ?c4 ?c5; (case ho => k_is); (case hcd => k_is); (case hroom => (show dp9p < _; omega)); (case hbind => exact BindsTo.of_eq rfl); (case c5 => decide); (case hloc => exact locs rfl); (case c2 => exact rfl); (case c3 => exact rfl); (case c4 => exact rfl))
  intro h9p F9p N9p
  (try dsimp only)
  (try k_fold)
  have h1 : Bd 1 1 := by unfold Bd; decide
  have hp : (0 : Int) < 2 ^ n := Int.pow_pos (by decide)
  have hB2 : Bd n b2 := Bd.of_lt hb2 hb2n
  have hlt : a12 < b := Int.lt_of_mul_lt_mul_right (a := 2 ^ n) (by omega) (by omega)
  have hdm := Int.emod_add_mul_ediv a12 (2 ^ n)
  have hm0 := Int.emod_nonneg a12 (b := 2 ^ n) (by omega)
  have hm1 := Int.emod_lt_of_pos a12 hp
  have hB12 : Bd (3 * n + 4) a12 := by
    refine Bd.le (y := b1 * 2 ^ n + 2 ^ n) ?_ ha (by omega)
    have h2 : Bd (n + 1) (2 ^ n) := Bd.pow n
    refine (((hb1n.mul h2).add h2)).mono ?_
    omega
  by_cases hcase : a12 / 2 ^ n = b1
  · rw [hcase] at hdm
    have e1 : 2 ^ n * b1 = b1 * 2 ^ n := Int.mul_comm _ _
    have hr0 : 0 ≤ a12 - b1 * 2 ^ n + b1 := by omega
    have hr1 : Bd (n + n + 4) (a12 - b1 * 2 ^ n + b1) := by
      have h2 : Bd (n + 1) (2 ^ n) := Bd.pow n
      refine Bd.le (y := 2 ^ n + b1) ((h2.add hb1n).mono (by omega)) hr0 (by omega)
    have hq1 : Bd (n + 1) (1 * 2 ^ n - 1) := by
      refine Bd.le (y := 2 ^ n) (Bd.pow n) (by omega) (by omega)
    (repeat' ((( (fail_if_success (with_reducible show PySem.wpAny _ _ (PySem.exec (PySem.Stmt.For _ _ _ _ _) _) _ _ _)); (fail_if_success (with_reducible show PySem.wpAny _ _ (PySem.exec (PySem.Stmt.While _ _ _ _) _) _ _ _)); first | (k_unfold; (try dsimp only)) | (first | ((with_reducible show PySem.wpAny _ _ (PySem.execs _ _) _ _ _); k_fold) | walk1 | (dsimp only; walk1)) | fail "no step"))))
    · rename Fr _ _ _ _ => F9
      have hinv : (1 * 2 ^ n - 1) * b + ((a12 - b1 * 2 ^ n + b1) * 2 ^ n + a3 - (1 * 2 ^ n - 1) * b2) = a12 * 2 ^ n + a3 := by
        rw [hb]; generalize (2 : Int) ^ n = P; grind
      have hl : (a12 - b1 * 2 ^ n + b1) * 2 ^ n + a3 - (1 * 2 ^ n - 1) * b2 < b := by
        have : (1 * 2 ^ n - 1) * b = b * 2 ^ n - b := by generalize (2 : Int) ^ n = P; grind
        omega
      generalize hQ : (1 * 2 ^ n - 1 : Int) = Q0 at *
      generalize hR : ((a12 - b1 * 2 ^ n + b1) * 2 ^ n + a3 - Q0 * b2 : Int) = R0 at *
      clear hcase
      rename Fr _ _ _ _ => F9
      refine while_st [] (fun (m : Nat) c => ∃ (q r : Int) (t1 t2 : Tok), m = (-r).toNat ∧ c.led = [] ∧ c.nms = [(Str.ofString "q", .int q t1), (Str.ofString "r", .int r t2)] ∧ q * b + r = a12 * 2 ^ n + a3 ∧ r < b) ⟨[], [(Str.ofString "q", .int Q0 _), (Str.ofString "r", .int R0 _)]⟩ (-R0).toNat F9 (fun _ h => nomatch h) (by ((repeat (first | exact List.forall_mem_nil _ | refine fm_cons (by with_unfolding_all rfl) ?_)))) ⟨Q0, R0, _, _, rfl, rfl, rfl, hinv, hl⟩ ?_
      intro m z19 u h tk z29 F2 N2
      show wpAny _ _ _ _ _ _
      k_fold
      obtain ⟨led, nms⟩ := z19
      obtain ⟨q, r, t1, t2, rfl, hled, hnms, hinv', hl'⟩ := z29
      dsimp only at hled hnms F2 N2
      subst hled hnms
      (repeat' ((( (fail_if_success (with_reducible show PySem.wpAny _ _ (PySem.exec (PySem.Stmt.For _ _ _ _ _) _) _ _ _)); (fail_if_success (with_reducible show PySem.wpAny _ _ (PySem.exec (PySem.Stmt.While _ _ _ _) _) _ _ _)); first | (k_unfold; (try dsimp only)) | (first | ((with_reducible show PySem.wpAny _ _ (PySem.execs _ _) _ _ _); k_fold) | walk1 | (dsimp only; walk1)) | fail "no step"))))
      · refine WPost.next (.inl rfl) ⟨[], [(Str.ofString "q", .int (q - 1) _), (Str.ofString "r", .int (r + b) _)]⟩ (-(r + b)).toNat (by assumption) (fun _ h => nomatch h) (by ((refine ⟨?n9, ?m9⟩; (case n9 => (repeat (first | exact List.forall_mem_nil _ | refine fm_cons (by with_unfolding_all rfl) ?_))); (case m9 => intro z h2 h3; (((try dsimp only [kstB]); (repeat (first | refine st_if (st_ne (by assumption) (by rfl)) ?_ | refine st_if (by assumption) ?_ | refine st_if (by rename (∀ p, p ∈ _ → _ ≠ _) => h9; exact h9 _ (.head _)) ?_ | refine st_if (by rename (∀ p, p ∈ _ → _ ≠ _) => h9; exact h9 _ mem1) ?_ | refine st_if (by rename (∀ p, p ∈ _ → _ ≠ _) => h9; exact h9 _ mem2) ?_ | refine st_if (by rename (∀ p, p ∈ _ → _ ≠ _) => h9; exact h9 _ mem3) ?_)); first | exact st_bot (by assumption) | ((repeat (first | refine st_ifr (st_ne (by assumption) (by rfl)) ?_ | refine st_ifr (by assumption) ?_ | refine st_ifr (by rename (∀ p, p ∈ _ → _ ≠ _) => h9; exact h9 _ (.head _)) ?_ | refine st_ifr (by rename (∀ p, p ∈ _ → _ ≠ _) => h9; exact h9 _ mem1) ?_ | refine st_ifr (by rename (∀ p, p ∈ _ → _ ≠ _) => h9; exact h9 _ mem2) ?_ | refine st_ifr (by rename (∀ p, p ∈ _ → _ ≠ _) => h9; exact h9 _ mem3) ?_)); exact rfl))))))) (by omega) ⟨_, _, _, _, rfl, rfl, rfl, ?_, by omega⟩
        rw [Int.sub_mul]; omega
      · obtain ⟨e1, e2⟩ := div_unique hinv' (by omega) hl'
        rename News _ _ _ _ => N3
        rename Fr _ _ _ _ => F3
        exact Done.intro F3 ⟨_, _, _, rfl, N3.fresh (.head _), by rw [e1, e2]; exact N3.get (.head _)⟩
    · rename _ ≠ _ => hx
      exact absurd hcase hx
  · have hle : a12 < b1 * 2 ^ n := by
      have h3 : a12 / 2 ^ n < b1 + 1 := Int.ediv_lt_of_lt_mul hp (by rw [Int.add_mul, Int.one_mul]; omega)
      have h4 : a12 / 2 ^ n < b1 := by omega
      exact Int.lt_mul_of_ediv_lt hp h4
    have hb1l : b1 < 2 ^ n := by
      have c1 : ((2 ^ n : Nat) : Int) = 2 ^ n := by push_cast; rfl
      unfold Bd at hb1n; omega
    have hB : Bd (n + n) a12 := by
      refine Bd.of_lt ha (Int.lt_of_lt_of_le hle ?_)
      rw [Int.pow_add]
      exact Int.mul_le_mul_of_nonneg_right (Int.le_of_lt hb1l) (Int.le_of_lt hp)
    have hq0 : 0 ≤ a12 / b1 := Int.ediv_nonneg ha (Int.le_of_lt hb1)
    have hr0 : 0 ≤ a12 % b1 := Int.emod_nonneg _ (by omega)
    have hr1 : a12 % b1 < b1 := Int.emod_lt_of_pos _ hb1
    have hBq : Bd (n + n) (a12 / b1) := hB.div ha (Int.le_of_lt hb1)
    have hBr : Bd (n + n) (a12 % b1) := hB.mod ha hb1
    (repeat' ((( (fail_if_success (with_reducible show PySem.wpAny _ _ (PySem.exec (PySem.Stmt.For _ _ _ _ _) _) _ _ _)); (fail_if_success (with_reducible show PySem.wpAny _ _ (PySem.exec (PySem.Stmt.While _ _ _ _) _) _ _ _)); first | (k_unfold; (try dsimp only)) | (first | ((with_reducible show PySem.wpAny _ _ (PySem.execs _ _) _ _ _); k_fold) | walk1 | (dsimp only; walk1)) | fail "no step"))))
    · rename a12 / 2 ^ n = b1 => hx
      exact absurd hx hcase
    · refine use_div2 I (by assumption) (by assumption) hb1 ha hn (k := n + n) (by omega) hB hb1n rfl (by show (Ar _ _ _ _).depth + 1 + 25 < _; dsimp only [Ar]; omega) (by fail "m units64") fun d t u h' tk' F' N' => ?_
      (repeat' ((( (fail_if_success (with_reducible show PySem.wpAny _ _ (PySem.exec (PySem.Stmt.For _ _ _ _ _) _) _ _ _)); (fail_if_success (with_reducible show PySem.wpAny _ _ (PySem.exec (PySem.Stmt.While _ _ _ _) _) _ _ _)); first | (k_unfold; (try dsimp only)) | (first | ((with_reducible show PySem.wpAny _ _ (PySem.execs _ _) _ _ _); k_fold) | walk1 | (dsimp only; walk1)) | fail "no step"))))
      have hdm2 := Int.emod_add_mul_ediv a12 b1
      have hinv : (a12 / b1) * b + ((a12 % b1) * 2 ^ n + a3 - (a12 / b1) * b2) = a12 * 2 ^ n + a3 := by
        rw [hb]; generalize (2 : Int) ^ n = P at *; generalize a12 / b1 = X at *; generalize a12 % b1 = Y at *; grind
      have hl : (a12 % b1) * 2 ^ n + a3 - (a12 / b1) * b2 < b := by
        have h5 : 0 ≤ (a12 / b1) * b2 := Int.mul_nonneg hq0 hb2
        have h6 : (a12 % b1 + 1) * 2 ^ n ≤ b1 * 2 ^ n := Int.mul_le_mul_of_nonneg_right (by omega) (Int.le_of_lt hp)
        rw [Int.add_mul, Int.one_mul] at h6
        omega
      generalize hQ : a12 / b1 = Q0 at *
      generalize hR : ((a12 % b1) * 2 ^ n + a3 - Q0 * b2 : Int) = R0 at *
      clear hcase
      rename Fr _ _ _ _ => F9
      refine while_st [] (fun (m : Nat) c => ∃ (q r : Int) (t1 t2 : Tok), m = (-r).toNat ∧ c.led = [] ∧ c.nms = [(Str.ofString "q", .int q t1), (Str.ofString "r", .int r t2)] ∧ q * b + r = a12 * 2 ^ n + a3 ∧ r < b) ⟨[], [(Str.ofString "q", .int Q0 _), (Str.ofString "r", .int R0 _)]⟩ (-R0).toNat F9 (fun _ h => nomatch h) (by ((repeat (first | exact List.forall_mem_nil _ | refine fm_cons (by with_unfolding_all rfl) ?_)))) ⟨Q0, R0, _, _, rfl, rfl, rfl, hinv, hl⟩ ?_
      intro m z19 u h tk z29 F2 N2
      show wpAny _ _ _ _ _ _
      k_fold
      obtain ⟨led, nms⟩ := z19
      obtain ⟨q, r, t1, t2, rfl, hled, hnms, hinv', hl'⟩ := z29
      dsimp only at hled hnms F2 N2
      subst hled hnms
      (repeat' ((( (fail_if_success (with_reducible show PySem.wpAny _ _ (PySem.exec (PySem.Stmt.For _ _ _ _ _) _) _ _ _)); (fail_if_success (with_reducible show PySem.wpAny _ _ (PySem.exec (PySem.Stmt.While _ _ _ _) _) _ _ _)); first | (k_unfold; (try dsimp only)) | (first | ((with_reducible show PySem.wpAny _ _ (PySem.execs _ _) _ _ _); k_fold) | walk1 | (dsimp only; walk1)) | fail "no step"))))
      · refine WPost.next (.inl rfl) ⟨[], [(Str.ofString "q", .int (q - 1) _), (Str.ofString "r", .int (r + b) _)]⟩ (-(r + b)).toNat (by assumption) (fun _ h => nomatch h) (by ((refine ⟨?n9, ?m9⟩; (case n9 => (repeat (first | exact List.forall_mem_nil _ | refine fm_cons (by with_unfolding_all rfl) ?_))); (case m9 => intro z h2 h3; (((try dsimp only [kstB]); (repeat (first | refine st_if (st_ne (by assumption) (by rfl)) ?_ | refine st_if (by assumption) ?_ | refine st_if (by rename (∀ p, p ∈ _ → _ ≠ _) => h9; exact h9 _ (.head _)) ?_ | refine st_if (by rename (∀ p, p ∈ _ → _ ≠ _) => h9; exact h9 _ mem1) ?_ | refine st_if (by rename (∀ p, p ∈ _ → _ ≠ _) => h9; exact h9 _ mem2) ?_ | refine st_if (by rename (∀ p, p ∈ _ → _ ≠ _) => h9; exact h9 _ mem3) ?_)); first | exact st_bot (by assumption) | ((repeat (first | refine st_ifr (st_ne (by assumption) (by rfl)) ?_ | refine st_ifr (by assumption) ?_ | refine st_ifr (by rename (∀ p, p ∈ _ → _ ≠ _) => h9; exact h9 _ (.head _)) ?_ | refine st_ifr (by rename (∀ p, p ∈ _ → _ ≠ _) => h9; exact h9 _ mem1) ?_ | refine st_ifr (by rename (∀ p, p ∈ _ → _ ≠ _) => h9; exact h9 _ mem2) ?_ | refine st_ifr (by rename (∀ p, p ∈ _ → _ ≠ _) => h9; exact h9 _ mem3) ?_)); exact rfl))))))) (by omega) ⟨_, _, _, _, rfl, rfl, rfl, ?_, by omega⟩
        rw [Int.sub_mul]; omega
      · obtain ⟨e1, e2⟩ := div_unique hinv' (by omega) hl'
        rename News _ _ _ _ => N3
        rename Fr _ _ _ _ => F3
        exact Done.intro F3 ⟨_, _, _, rfl, N3.fresh (.head _), by rw [e1, e2]; exact N3.get (.head _)⟩
example : True := by w_top off; trivial
structure Core (A B : Int) (m : Nat) : Prop where
  c1 : B = (B / 2 ^ m) * 2 ^ m + B % 2 ^ m
  c2 : 0 < B / 2 ^ m
  c3 : Bd m (B / 2 ^ m)
  c4 : 0 ≤ B % 2 ^ m
  c4' : B % 2 ^ m < 2 ^ m
  c5 : 0 ≤ A / 2 ^ (2 * m)
  c6 : 0 ≤ A / 2 ^ m % 2 ^ m
  c6' : A / 2 ^ m % 2 ^ m < 2 ^ m
  c7 : A / 2 ^ (2 * m) * 2 ^ m + A / 2 ^ m % 2 ^ m = A / 2 ^ m
  c8 : A / 2 ^ m < B * 2 ^ m
  c9 : 0 ≤ A % 2 ^ m
  c9' : A % 2 ^ m < 2 ^ m
  c10 : A / 2 ^ m % B * 2 ^ m + A % 2 ^ m < B * 2 ^ m
  c10' : 0 ≤ A / 2 ^ m % B
  c11 : 0 ≤ A / 2 ^ m / B
  c12 : 0 ≤ (A / 2 ^ m % B * 2 ^ m + A % 2 ^ m) / B
  c13 : (A / 2 ^ m % B * 2 ^ m + A % 2 ^ m) / B < 2 ^ m
  c14 : A / 2 ^ m / B * 2 ^ m + (A / 2 ^ m % B * 2 ^ m + A % 2 ^ m) / B = A / B
  c15 : (A / 2 ^ m % B * 2 ^ m + A % 2 ^ m) % B = A % B
  c16 : 0 ≤ A / 2 ^ m
theorem core {A B : Int} {m : Nat} (hm : 1 ≤ m) (h0 : 0 ≤ A) (h1 : A < B * 2 ^ (2 * m)) (hB0 : 2 ^ (2 * m - 1) ≤ B) (hB1 : B < 2 ^ (2 * m)) : Core A B m := by
  have hp : (0 : Int) < 2 ^ m := Int.pow_pos (by decide)
  have hpp : (2 : Int) ^ (2 * m) = 2 ^ m * 2 ^ m := by rw [show 2 * m = m + m by omega, Int.pow_add]
  have hBpos : 0 < B := Int.lt_of_lt_of_le (Int.pow_pos (by decide)) hB0
  have hle : (2 : Int) ^ m ≤ B := Int.le_trans (by
    have : (2 : Nat) ^ m ≤ 2 ^ (2 * m - 1) := Nat.pow_le_pow_right (by decide) (by omega)
    have c1 : ((2 ^ m : Nat) : Int) = 2 ^ m := by push_cast; rfl
    have c2 : ((2 ^ (2 * m - 1) : Nat) : Int) = 2 ^ (2 * m - 1) := by push_cast; rfl
    omega) hB0
  have a1 := Int.emod_add_mul_ediv B (2 ^ m)
  have a2 := Int.emod_nonneg B (b := 2 ^ m) (by omega)
  have a3 := Int.emod_lt_of_pos B hp
  have a4 := Int.emod_add_mul_ediv A (2 ^ m)
  have a5 := Int.emod_nonneg A (b := 2 ^ m) (by omega)
  have a6 := Int.emod_lt_of_pos A hp
  have a7 : A / 2 ^ (2 * m) = A / 2 ^ m / 2 ^ m := by rw [hpp]; first | exact (Int.ediv_ediv_of_nonneg (Int.le_of_lt hp)).symm | exact (Int.ediv_ediv (Int.le_of_lt hp)).symm | exact?
  have a8 := Int.emod_add_mul_ediv (A / 2 ^ m) (2 ^ m)
  have a9 := Int.emod_nonneg (A / 2 ^ m) (b := 2 ^ m) (by omega)
  have a10 := Int.emod_lt_of_pos (A / 2 ^ m) hp
  have a11 : 0 ≤ A / 2 ^ m := Int.ediv_nonneg h0 (by omega)
  have a12 : A / 2 ^ m < B * 2 ^ m := Int.ediv_lt_of_lt_mul hp (by rw [Int.mul_assoc, ← hpp]; exact h1)
  have b1 := Int.emod_add_mul_ediv (A / 2 ^ m) B
  have b2 := Int.emod_nonneg (A / 2 ^ m) (b := B) (by omega)
  have b3 := Int.emod_lt_of_pos (A / 2 ^ m) hBpos
  have b4 : (A / 2 ^ m % B) * 2 ^ m + A % 2 ^ m < B * 2 ^ m := by
    have : (A / 2 ^ m % B + 1) * 2 ^ m ≤ B * 2 ^ m := Int.mul_le_mul_of_nonneg_right (by omega) (Int.le_of_lt hp)
    rw [Int.add_mul, Int.one_mul] at this
    omega
  have b5 : 0 ≤ (A / 2 ^ m % B) * 2 ^ m + A % 2 ^ m := by have := Int.mul_nonneg b2 (Int.le_of_lt hp); omega
  have b6 := Int.emod_add_mul_ediv ((A / 2 ^ m % B) * 2 ^ m + A % 2 ^ m) B
  have b7 := Int.emod_nonneg ((A / 2 ^ m % B) * 2 ^ m + A % 2 ^ m) (b := B) (by omega)
  have b8 := Int.emod_lt_of_pos ((A / 2 ^ m % B) * 2 ^ m + A % 2 ^ m) hBpos
  have hu : (A / 2 ^ m / B * 2 ^ m + (A / 2 ^ m % B * 2 ^ m + A % 2 ^ m) / B) * B + (A / 2 ^ m % B * 2 ^ m + A % 2 ^ m) % B = A := by
    generalize (A / 2 ^ m % B * 2 ^ m + A % 2 ^ m) / B = Q2 at *
    generalize (A / 2 ^ m % B * 2 ^ m + A % 2 ^ m) % B = R2 at *
    generalize A / 2 ^ m / B = Q1 at *
    generalize A / 2 ^ m % B = R1 at *
    generalize A / 2 ^ m = X at *
    generalize A % 2 ^ m = Y at *
    generalize (2 : Int) ^ m = P at *
    grind
  obtain ⟨u1, u2⟩ := div_unique hu b7 b8
  exact {
    c1 := by rw [Int.mul_comm]; omega
    c2 := (Int.le_ediv_iff_mul_le hp).mpr (by omega)
    c3 := Bd.of_lt (Int.ediv_nonneg (by omega) (by omega)) (Int.ediv_lt_of_lt_mul hp (by rw [← hpp]; exact hB1))
    c4 := a2
    c4' := a3
    c5 := Int.ediv_nonneg h0 (by rw [hpp]; exact Int.mul_nonneg (by omega) (by omega))
    c6 := a9
    c6' := a10
    c7 := by rw [a7, Int.mul_comm]; omega
    c8 := a12
    c9 := a5
    c9' := a6
    c10 := b4
    c10' := b2
    c11 := Int.ediv_nonneg a11 (by omega)
    c12 := Int.ediv_nonneg b5 (by omega)
    c13 := Int.ediv_lt_of_lt_mul hBpos (by rw [Int.mul_comm (2 ^ m) B]; exact b4)
    c14 := u1.symm
    c15 := u2.symm
    c16 := a11 }
example : True := by w_top off; trivial
section
variable {prog : Program} {w : World} {A : Around} {E : Value → Shared → Prop} {s : Shared} {Q : Value → Shared → Prop} {a b : Int} {t u : Tok}
theorem my_even2 {m : Nat} (h : Q (.int 0 s.toks) { s with toks := s.toks + 1 }) : wpAny (model prog w) A (binaryOp .BitAnd (.int ((2 * m : Nat) : Int) t) (.int 1 u)) Q E s :=
  my_odd (by rw [show 2 * m % 2 = 0 by omega]; exact h)
theorem my_odd2 {m : Nat} (h : Q (.int 1 s.toks) { s with toks := s.toks + 1 }) : wpAny (model prog w) A (binaryOp .BitAnd (.int ((2 * m + 1 : Nat) : Int) t) (.int 1 u)) Q E s :=
  my_odd (by rw [show (2 * m + 1) % 2 = 1 by omega]; exact h)
theorem my_half2 {m : Nat} (h : Q (.int (m : Int) s.toks) { s with toks := s.toks + 1 }) : wpAny (model prog w) A (binaryOp .RShift (.int ((2 * m : Nat) : Int) t) (.int 1 u)) Q E s :=
  my_half (by rw [show 2 * m / 2 = m by omega]; exact h)
theorem my_inc2 {m : Nat} (h : Q (.int ((2 * (m + 1) : Nat) : Int) s.toks) { s with toks := s.toks + 1 }) : wpAny (model prog w) A (inplaceOp .Add (.int ((2 * m + 1 : Nat) : Int) t) (.int 1 u)) Q E s :=
  iadd_int (by rw [show (((2 * m + 1 : Nat) : Int) + 1) = ((2 * (m + 1) : Nat) : Int) by omega]; exact h)
theorem my_mask1 {m : Nat} (ha : 0 ≤ a) (h : Q (.int (a % 2 ^ m) s.toks) { s with toks := s.toks + 1 }) : wpAny (model prog w) A (binaryOp .BitAnd (.int a t) (.int (1 * 2 ^ m - 1) u)) Q E s :=
  my_mask ha (by rw [Int.one_mul]) h
theorem my_dbl {k : Nat} (hk : Bd k a) (hm : k ≤ 100000) (h : Q (.int (a * 2) s.toks) { s with toks := s.toks + 1 }) : wpAny (model prog w) A (inplaceOp .LShift (.int a t) (.int 1 u)) Q E s :=
  my_ishl (m := 1) hk (by omega) h
theorem my_ihalf (h : Q (.int (a / 2) s.toks) { s with toks := s.toks + 1 }) : wpAny (model prog w) A (inplaceOp .RShift (.int a t) (.int 1 u)) Q E s :=
  my_ishr (m := 1) h
end
local macro_rules | `(tactic| walk_at "binaryOp BitAnd int int") => `(tactic| (first | refine my_even2 ?_ | refine my_odd2 ?_ | refine my_mask1 (by assumption) ?_))
local macro_rules | `(tactic| walk_at "binaryOp RShift int int") => `(tactic| (first | refine my_half2 ?_ | refine my_shr ?_))
local macro_rules | `(tactic| walk_at "inplaceOp Add int int") => `(tactic| (refine my_inc2 ?_))
local macro_rules | `(tactic| walk_at "inplaceOp LShift int int") => `(tactic| (refine my_dbl (by assumption) (by omega) ?_))
local macro_rules | `(tactic| walk_at "inplaceOp RShift int int") => `(tactic| (refine my_ihalf ?_))
theorem use_div3 {w : World} {A : Around} {E : Value → Shared → Prop} {Q : Value → Shared → Prop} {s : Shared} {h₀ : Heap} {L : Addr} {m : Str → Option Value} {news : List (Addr × Obj)} {a12 a3 b b1 b2 x : Int} {n : Nat} {ta tb tn tc td te : Tok} (I : Inv w h₀) (F : Fr h₀ L s.heap m) (N : News h₀ L s.heap news)
    (hx : a12 * 2 ^ n + a3 = x) (hn : n ≤ 4000) (hb : b = b1 * 2 ^ n + b2) (hb1 : 0 < b1) (hb1n : Bd n b1) (hb2 : 0 ≤ b2) (hb2n : b2 < 2 ^ n) (ha : 0 ≤ a12) (ha3 : 0 ≤ a3) (ha3n : a3 < 2 ^ n) (hab : x < b * 2 ^ n)
    (hh : A.handled = none) (hd : A.depth + 27 < recursionLimit) (hu : A.units + 100 + 10 * 27 < cLine) (h : ∀ d t u h' tk, Fr h₀ L h' m → News h₀ L h' ((d, { cls := .type "tuple", data := .seq #[.int (x / b) t, .int (x % b) u] }) :: news) → Q (.ref d) { s with heap := h', toks := tk }) :
    wpAny (model PySem.Challenge.rw_ik0159_01.row.prog w) A (call (.ref 45) [.int a12 ta, .int a3 tb, .int b tn, .int b1 tc, .int b2 td, .int (n : Int) te]) Q E s := by
  subst hx
  refine (div3_spec w a12 a3 b b1 b2 n ta tb tn tc td te s (I.keeps F.keep) hn hb hb1 hb1n hb2 hb2n ha ha3 ha3n hab).use hh hd hu fun v h' tk hk hv => ?_
  obtain ⟨d, t, u, rfl, hd, ho⟩ := hv
  exact h d t u h' tk (F.keeps hk) (news_cons F N hk hd ho)
theorem div2_even (w : World) (a b : Int) (m : Nat) (ta tb tn : Tok) (s : Shared) (I : Inv w s.heap) (hm : 1 ≤ m) (hn : m ≤ 4000) (ha : 0 ≤ a) (hab : a < b * 2 ^ (2 * m)) (hb0 : 2 ^ (2 * m - 1) ≤ b) (hb1 : b < 2 ^ (2 * m)) :
    PureN 30 w 38 [.int a ta, .int b tb, .int ((2 * m : Nat) : Int) tn] s (DivPost s.heap a b) := by
  (first | unfold Pure | unfold PureN)
  have X9p := Inv.X I
  revert X9p
  k_fill
  intro X9p dp9p un9p fr9p gd9p E9p hdp9p hun9p
  (refine wpAny_call ?_)
  obtain ⟨p9p, loose9p, mean9p, mg9p, mb9p, T9p⟩ := Inv.T I
  k_dflt (refine' pure_def (binds := [(Str.ofString "a", .int a ta), (Str.ofString "b", .int b tb), (Str.ofString "n", .int ((2 * m : Nat) : Int) tn)]) X9p T9p ?ho ?hcd ?hroom ?hbind ?hloc ?_ ?c2 ?c3 ?c4 ?c5; (case ho => k_is); (case hcd => k_is); (case hroom => (show dp9p < _; omega)); (case hbind => exact BindsTo.of_eq rfl); (case c5 => decide); (case hloc => exact locs rfl); (case c2 => exact rfl); (case c3 => exact rfl); (case c4 => exact rfl))
  intro h9p F9p N9p
  (try dsimp only)
  (try k_fold)
  have C := core hm ha hab hb0 hb1
  have hbp : 0 < b := Int.lt_of_lt_of_le (Int.pow_pos (by decide)) hb0
  have hBb : Bd (2 * m) b := Bd.of_lt (by omega) hb1
  have h1 : Bd 1 1 := by unfold Bd; decide
  have hBa : Bd (2 * m + (2 * m + 1)) a := (hBb.mul (Bd.pow (2 * m))).le ha (by omega)
  have hp : (0 : Int) < 2 ^ m := Int.pow_pos (by decide)
  have C16 := C.c16
  have hBq : Bd (2 * m + (2 * m + 1)) (a / 2 ^ m / b) := (hBa.div ha (Int.le_of_lt hp)).div C16 (by omega)
  have hb0' : 0 ≤ b := by omega
  (repeat' ((( (fail_if_success (with_reducible show PySem.wpAny _ _ (PySem.exec (PySem.Stmt.For _ _ _ _ _) _) _ _ _)); (fail_if_success (with_reducible show PySem.wpAny _ _ (PySem.exec (PySem.Stmt.While _ _ _ _) _) _ _ _)); first | (k_unfold; (try dsimp only)) | (first | ((with_reducible show PySem.wpAny _ _ (PySem.execs _ _) _ _ _); k_fold) | walk1 | (dsimp only; walk1)) | fail "no step"))))
  · rename News _ _ _ _ => N9
    rename Fr _ _ _ _ => F9
    exact Done.intro F9 ⟨_, _, _, rfl, N9.fresh (.head _), N9.get (.head _)⟩
  · refine use_div3 I (by assumption) (by assumption) C.c7 hn C.c1 C.c2 C.c3 C.c4 C.c4' C.c5 C.c6 C.c6' C.c8 rfl (by show (Ar _ _ _ _).depth + 1 + 27 < _; dsimp only [Ar]; omega) (by fail "m units64") fun d t u h' tk' F' N' => ?_
    (repeat' ((( (fail_if_success (with_reducible show PySem.wpAny _ _ (PySem.exec (PySem.Stmt.For _ _ _ _ _) _) _ _ _)); (fail_if_success (with_reducible show PySem.wpAny _ _ (PySem.exec (PySem.Stmt.While _ _ _ _) _) _ _ _)); first | (k_unfold; (try dsimp only)) | (first | ((with_reducible show PySem.wpAny _ _ (PySem.execs _ _) _ _ _); k_fold) | walk1 | (dsimp only; walk1)) | fail "no step"))))
    refine use_div3 I (by assumption) (by assumption) rfl hn C.c1 C.c2 C.c3 C.c4 C.c4' C.c10' C.c9 C.c9' C.c10 rfl (by show (Ar _ _ _ _).depth + 1 + 27 < _; dsimp only [Ar]; omega) (by fail "m units64") fun d2 t2 u2 h2 tk2 F2 N2 => ?_
    have c11 := C.c11
    have c12 := C.c12
    have c13 := C.c13
    have c14 := C.c14
    have c15 := C.c15
    (repeat' ((( (fail_if_success (with_reducible show PySem.wpAny _ _ (PySem.exec (PySem.Stmt.For _ _ _ _ _) _) _ _ _)); (fail_if_success (with_reducible show PySem.wpAny _ _ (PySem.exec (PySem.Stmt.While _ _ _ _) _) _ _ _)); first | (k_unfold; (try dsimp only)) | (first | ((with_reducible show PySem.wpAny _ _ (PySem.execs _ _) _ _ _); k_fold) | walk1 | (dsimp only; walk1)) | fail "no step"))))
    rename News _ _ _ _ => N9
    rename Fr _ _ _ _ => F9
    exact Done.intro F9 ⟨_, _, _, rfl, N9.fresh (.head _), by rw [← c14, ← c15]; exact N9.get (.head _)⟩
theorem div2_odd (w : World) (a0 b0 a b : Int) (m : Nat) (ta tb tn : Tok) (s : Shared) (I : Inv w s.heap) (hn : m + 1 ≤ 4000) (ha0 : 0 ≤ a0) (hb00 : 0 < b0) (hbn : Bd (2 * m + 1) b0) (hban : Bd (6 * m + 6) a0) (ea : a0 * 2 = a) (eb : b0 * 2 = b) (hab : a < b * 2 ^ (2 * (m + 1))) (hb0 : 2 ^ (2 * (m + 1) - 1) ≤ b) (hb1 : b < 2 ^ (2 * (m + 1))) :
    PureN 30 w 38 [.int a0 ta, .int b0 tb, .int ((2 * m + 1 : Nat) : Int) tn] s (DivPost s.heap a0 b0) := by
  (first | unfold Pure | unfold PureN)
  have X9p := Inv.X I
  revert X9p
  k_fill
  intro X9p dp9p un9p fr9p gd9p E9p hdp9p hun9p
  (refine wpAny_call ?_)
  obtain ⟨p9p, loose9p, mean9p, mg9p, mb9p, T9p⟩ := Inv.T I
  k_dflt (refine' pure_def (binds := [(Str.ofString "a", .int a0 ta), (Str.ofString "b", .int b0 tb), (Str.ofString "n", .int ((2 * m + 1 : Nat) : Int) tn)]) X9p T9p ?ho ?hcd ?hroom ?hbind ?hloc ?_ ?c2 ?c3 ?c4 ?c5; (case ho => k_is); (case hcd => k_is); (case hroom => (show dp9p < _; omega)); (case hbind => exact BindsTo.of_eq rfl); (case c5 => decide); (case hloc => exact locs rfl); (case c2 => exact rfl); (case c3 => exact rfl); (case c4 => exact rfl))
  intro h9p F9p N9p
  (try dsimp only)
  (try k_fold)
  have ha : 0 ≤ a := by omega
  have C := core (by omega) ha hab hb0 hb1
  have hbp : 0 < b := by omega
  have hBb : Bd (2 * (m + 1)) b := Bd.of_lt (by omega) hb1
  have h1 : Bd 1 1 := by unfold Bd; decide
  have hBa : Bd (2 * (m + 1) + (2 * (m + 1) + 1)) a := (hBb.mul (Bd.pow (2 * (m + 1)))).le ha (by omega)
  have hp : (0 : Int) < 2 ^ (m + 1) := Int.pow_pos (by decide)
  have C16 := C.c16
  have hBq : Bd (2 * (m + 1) + (2 * (m + 1) + 1)) (a / 2 ^ (m + 1) / b) := (hBa.div ha (Int.le_of_lt hp)).div C16 (by omega)
  have hb0' : 0 ≤ b := by omega
  subst ea eb
  (repeat' ((( (fail_if_success (with_reducible show PySem.wpAny _ _ (PySem.exec (PySem.Stmt.For _ _ _ _ _) _) _ _ _)); (fail_if_success (with_reducible show PySem.wpAny _ _ (PySem.exec (PySem.Stmt.While _ _ _ _) _) _ _ _)); first | (k_unfold; (try dsimp only)) | (first | ((with_reducible show PySem.wpAny _ _ (PySem.execs _ _) _ _ _); k_fold) | walk1 | (dsimp only; walk1)) | fail "no step"))))
  · rename News _ _ _ _ => N9
    rename Fr _ _ _ _ => F9
    exact Done.intro F9 ⟨_, _, _, rfl, N9.fresh (.head _), N9.get (.head _)⟩
  · refine use_div3 I (by assumption) (by assumption) C.c7 hn C.c1 C.c2 C.c3 C.c4 C.c4' C.c5 C.c6 C.c6' C.c8 rfl (by show (Ar _ _ _ _).depth + 1 + 27 < _; dsimp only [Ar]; omega) (by fail "m units64") fun d t u h' tk' F' N' => ?_
    (repeat' ((( (fail_if_success (with_reducible show PySem.wpAny _ _ (PySem.exec (PySem.Stmt.For _ _ _ _ _) _) _ _ _)); (fail_if_success (with_reducible show PySem.wpAny _ _ (PySem.exec (PySem.Stmt.While _ _ _ _) _) _ _ _)); first | (k_unfold; (try dsimp only)) | (first | ((with_reducible show PySem.wpAny _ _ (PySem.execs _ _) _ _ _); k_fold) | walk1 | (dsimp only; walk1)) | fail "no step"))))
    refine use_div3 I (by assumption) (by assumption) rfl hn C.c1 C.c2 C.c3 C.c4 C.c4' C.c10' C.c9 C.c9' C.c10 rfl (by show (Ar _ _ _ _).depth + 1 + 27 < _; dsimp only [Ar]; omega) (by fail "m units64") fun d2 t2 u2 h2 tk2 F2 N2 => ?_
    have c11 := C.c11
    have c12 := C.c12
    have c13 := C.c13
    have c14 := C.c14
    have c15 := C.c15
    (repeat' ((( (fail_if_success (with_reducible show PySem.wpAny _ _ (PySem.exec (PySem.Stmt.For _ _ _ _ _) _) _ _ _)); (fail_if_success (with_reducible show PySem.wpAny _ _ (PySem.exec (PySem.Stmt.While _ _ _ _) _) _ _ _)); first | (k_unfold; (try dsimp only)) | (first | ((with_reducible show PySem.wpAny _ _ (PySem.execs _ _) _ _ _); k_fold) | walk1 | (dsimp only; walk1)) | fail "no step"))))
    rename News _ _ _ _ => N9
    rename Fr _ _ _ _ => F9
    have e1 : a0 / b0 = (a0 * 2) / (b0 * 2) := (Int.mul_ediv_mul_of_pos_left _ _ (by decide)).symm
    have e2 : a0 % b0 = (a0 * 2) % (b0 * 2) / 2 := by
      rw [Int.mul_comm a0, Int.mul_comm b0, Int.mul_emod_mul_of_pos _ _ (by decide)]; omega
    exact Done.intro F9 ⟨_, _, _, rfl, N9.fresh (.head _), by rw [e1, e2, ← c14, ← c15]; exact N9.get (.head _)⟩
example : True := by w_top off; trivial
theorem hide_get {h : Heap} {ps : List Addr} {b : Addr} {o : Obj} (e : h.get? b = some o) (hb : b ∉ ps) : (hideAll h ps).get? b = some o := hideAll_get _ e hb
theorem Inv.hide {w : World} {h : Heap} (I : Inv w h) (ps : List Addr) (hK : ∀ P ∈ ps, (hd.heap_1 w.params).lookup P = none) (hP : ∀ P ∈ ps, ∃ o, h.get? P = some o ∧ ∃ vs, o.data = .fields vs ∧ (o.cls = .none ∨ o.cls = .type "code")) : Inv w (hideAll h ps) := by
  have keep : ∀ b o, h.get? b = some o → (∀ vs, o.data ≠ .fields vs) → (hideAll h ps).get? b = some o := fun b o e hn => hide_get e fun hm => by
    obtain ⟨o', e', vs, hv, _⟩ := hP b hm
    rw [e] at e'; cases e'
    exact hn vs hv
  have ns : ∀ {a : Addr} {mm : Str → Option Value}, h.Ns a mm → (hideAll h ps).Ns a mm := fun ⟨o, es, ep, e, hd, r⟩ => ⟨o, es, ep, keep _ _ e (fun vs q => by rw [hd] at q; cases q), hd, r⟩
  refine ⟨fun a o e => hide_get (I.X a o e) (fun hm => by rw [hK a hm] at e; cases e), ?_⟩
  obtain ⟨p, loose, mean, mg, mb, T⟩ := I.T
  refine ⟨topProg, (loose ++ (recsOf p).map (·.name) ++ (litsOf p).map (·.1) ++ (clssOf p loose).map (·.name)), mean, mg, mb, ?_⟩
  exact {
    g := ns T.g
    b := ns T.b
    nolimit := let ⟨mc, a, r⟩ := T.nolimit; ⟨mc, ns a, r⟩
    nodigits := let ⟨mc, a, r⟩ := T.nodigits; ⟨mc, ns a, r⟩
    fn := fun d hd => absurd (show d ∈ ([] : List DefRec) from hd) List.not_mem_nil
    own := fun o ho => absurd (show o ∈ ([] : List OwnSpec) from ho) List.not_mem_nil
    const := fun x d e => by cases (show (none : Option PyData) = some d from e)
    free := fun x h1 h2 _ _ _ => T.free x h1 (fun q => h2 (List.mem_append_left _ (List.mem_append_left _ (List.mem_append_left _ q))))
      (fun q => h2 (List.mem_append_left _ (List.mem_append_left _ (List.mem_append_right _ q)))) (fun q => h2 (List.mem_append_left _ (List.mem_append_right _ q))) fun q => h2 (List.mem_append_right _ q)
    builtins := T.builtins
    tab := fun d hd => absurd (show d ∈ ([] : List DefRec) from hd) List.not_mem_nil
    bmain := let ⟨bm, ob, a1, a2, a3, a4, r⟩ := T.bmain; ⟨bm, ob, a1, a2, hide_get a3 (fun hm => by
      obtain ⟨o', e', vs, hv, hc⟩ := hP bm hm
      rw [a3] at e'; cases e'
      rcases hc with hc | hc <;> (rw [hc] at a4; simp at a4)), a4, r⟩
    seer := fun e => absurd (show false = true from e) Bool.false_ne_true }
theorem hide_fr {h h₁ : Heap} {L : Addr} {m : Str → Option Value} (ps : List Addr) (F : Fr h L h₁ m) : Fr (hideAll h ps) L h₁ m := ⟨F.ns, fun b o e => F.keep b o (of_hideAll ps e), Nat.le_trans (Nat.le_of_eq (hideAll_size ps _)) F.above⟩
theorem hide_news {h h₁ : Heap} {L : Addr} {ps : List Addr} {news : List (Addr × Obj)} (N : News h L h₁ news) : News (hideAll h ps) L h₁ news := fun p hp => ⟨(N p hp).1, (N p hp).2.1, by
  cases q : (hideAll h ps).get? p.1 with
  | none => rfl
  | some o => exact absurd (N p hp).2.2 (by rw [of_hideAll ps q]; simp)⟩
theorem hide_news1 {h h₁ : Heap} {L P : Addr} {m : Str → Option Value} {o : Obj} {ps : List Addr} {news : List (Addr × Obj)} (F : Fr h L h₁ m) (hP : h.get? P = some o) (hm : P ∈ ps) (N : News (hideAll h ps) L h₁ news) : News (hideAll h ps) L h₁ ((P, o) :: news) := by
  intro p hp
  apply mem_split p hp
  · exact ⟨F.keep _ _ hP, Nat.ne_of_lt (Nat.lt_of_lt_of_le (Heap.lt_size hP) F.above), hideAll_none _ hm⟩
  intro hp
  · exact N p hp
theorem pure_def_cells {w : World} {A : Around} {s : Shared} {R : Result → Shared → Prop} {name qual : Str} {params : Arguments} {body : List Stmt} {scope : Scope} {dV kV doc pm cdv ct oc : Value} {an od : Option Addr} {osl : Array (Option Value)} {f : Addr} {args : Args} {binds : List (Str × Value)} {K : Frag}
    {p : Program} {loose : List Str} {mean : ExcName → Option Value} {mg mb : Str → Option Value}
    (X : K.In s.heap) (T : Top p loose mean mg mb s.heap)
    (ho : K.lookup f = some ⟨oc, od, .func (fnOf name qual params body scope dV kV doc pm an cdv ct), osl⟩) (hcd : codeIn K cdv qual = true) (hroom : A.depth < recursionLimit)
    (hbind : BindsTo s (fnOf name qual params body scope dV kV doc pm an cdv ct) args binds) (hkind : (binds.all fun y => scope.names.lookup y.1 == some .local || scope.names.lookup y.1 == some .cell) = true)
    (hnd : ((cellsFrom 0 scope.names []).map (·.1)).Nodup)
    (h : ∀ h₁ tk cells, Fr s.heap s.heap.objs.size h₁ (bindL (envOfC qual scope s.heap.objs.size f cdv).kindOf binds fun _ => none) → News s.heap s.heap.objs.size h₁ cells →
      CellsAre (bindC (envOfC qual scope s.heap.objs.size f cdv).kindOf binds fun _ => none) (cellsFrom (s.heap.objs.size + 1) scope.names []) cells →
      wpAny (model PySem.Challenge.rw_ik0159_01.row.prog w) (A.deeper (envOfC qual scope s.heap.objs.size f cdv)) (execs body (envOfC qual scope s.heap.objs.size f cdv))
        (fun fl s' => R (.ok (.ret (match fl with | .ret v => v | _ => .none))) s') (fun _ _ => False)
        { s with heap := h₁, toks := tk })
    (hco : scope.isCoroutine = false) (hgen : scope.isGenerator = false) (hk : scope.kind = .function) : codeAny (model PySem.Challenge.rw_ik0159_01.row.prog w) A (.call (.ref f) args) R s := by
  refine codeAny_call_function hroom (X _ _ ho) rfl hco hgen rfl (codeRec_of X hcd) (hbind _ _ _ _ ?_)
  refine wpAny_newFunctionEnv_cells hk (kindsX hkind _) fun env' he s' x => ?_
  subst he
  refine ⟨T.nolimit.keeps x.toInCall.keep, codeAny_func ?_⟩
  obtain ⟨h₁, tk, rfl, _⟩ := x.done
  obtain ⟨cells, NC, Y⟩ := Cl.news (h₀ := s.heap) (Nat.le_refl _) fun n c hm => ⟨x.cell n c (lookup_of_mem_nodup (cellsFrom_names scope.names 0 (s.heap.objs.size + 1) [] [] rfl ▸ hnd) hm), x.above n c hm⟩
  exact wpAny_mono (h h₁ tk cells ⟨x.toInCall.ns, x.toInCall.keep, Nat.le_refl _⟩ NC Y) (fun fl s' hl => hl) fun _ _ y => y.elim
theorem pure_def_clos {w : World} {A : Around} {s : Shared} {R : Result → Shared → Prop} {name qual : Str} {params : Arguments} {body : List Stmt} {scope : Scope} {cl : List (Str × Addr)} {doc pm ctv : Value} {c' : Addr} {f : Addr} {args : Args} {binds : List (Str × Value)}
    (hlim : s.heap.NoLimit) (ho : s.heap.get? f = some (fnMade name qual params body scope cl doc pm c' ctv)) (hcd : s.heap.CodeRec (.ref c') qual) (hroom : A.depth < recursionLimit)
    (hbind : BindsTo s (fnX name qual params body scope cl .none .none doc pm none (.ref c') ctv) args binds) (hloc : ∀ y ∈ binds, scope.names.lookup y.1 = some .local)
    (h : ∀ h₁, Fr s.heap s.heap.objs.size h₁ (fun y => binds.reverse.lookup y) →
      wpAny (model PySem.Challenge.rw_ik0159_01.row.prog w) (A.deeper (envX qual scope s.heap.objs.size f (.ref c') cl)) (execs body (envX qual scope s.heap.objs.size f (.ref c') cl))
        (fun fl s' => R (.ok (.ret (match fl with | .ret v => v | _ => .none))) s') (fun _ _ => False)
        { s with heap := h₁, toks := s.toks + binds.length })
    (hco : scope.isCoroutine = false) (hgen : scope.isGenerator = false) (hk : scope.kind = .function)
    (hcell : ∀ x ∈ scope.names, x.2 ≠ .cell) : codeAny (model PySem.Challenge.rw_ik0159_01.row.prog w) A (.call (.ref f) args) R s := by
  refine codeAny_call_def (fd := fnX name qual params body scope cl .none .none doc pm none (.ref c') ctv) (body := body) (binds := binds) hroom ho rfl hlim hcd rfl hbind hcell hloc (fun h₁ hns hk₁ => ?_) hco hgen hk
  exact wpAny_mono (h h₁ ⟨hns, hk₁, Nat.le_refl _⟩) (fun _ _ x => x) (fun _ _ x => x.elim)
section
variable {M : Model} {A : Around} {E : Value → Shared → Prop} {s : Shared} {h₀ : Heap} {L a : Addr} {m : Str → Option Value} {cn : Str} {cs : Scope} {ccd : Value} {cl : List (Str × Addr)} {x : Str} {pos : Pos} {v : Value} {Q : Value → Shared → Prop} {c : Addr} {o : Obj}
theorem my_free (F : Fr h₀ L s.heap m) (hc : cl.lookup x = some c) (hm : h₀.get? c = some o) (hd : o.data = .cell (some v)) (h : Q v s)
    (hk : cs.kind = .function := by rfl) (hx : (envX cn cs L a ccd cl).kindOf x = some .free := by rfl) (hb : (x == ("__debug__" : Str)) = false := by decide) (hn : (x == ("__classdict__" : Str)) = false := by decide) :
    wpAny M A (eval (.Name x pos) (envX cn cs L a ccd cl)) Q E s := wpAny_Name (wpAny_loadName_free hk hx hc ⟨o, F.keep _ _ hm, hd⟩ h hn) hb
theorem my_callWith {env : Env} {q : Addr} {e : Expr} {rest : List Expr} {oc : Value} {od : Option Addr} {fd : FuncData} {sl : Array (Option Value)} {first : List Value} (F : Fr h₀ L s.heap m) (hq : h₀.get? q = some ⟨oc, od, .func fd, sl⟩) (h : wpAny M A (spliced (backTo pos (starEach (e :: rest) env))) (fun vs s₁ => FnAt q s₁.heap ∧ wpAny M A (call (.ref q) (first ++ vs)) Q E s₁) E s)
    (he : starEach (e :: rest) env = (false, eval e env) :: starEach rest env := by rfl) (hplain : (backTo pos (starEach rest env)).any (·.1) = false := by rfl) :
    wpAny M A (callWith pos (.ref q) first (backTo pos (starEach (e :: rest) env)) []) Q E s := callWith_F ⟨oc, od, fd, sl, F.keep _ _ hq⟩ h he hplain
theorem fnAt_base {q : Addr} {oc : Value} {od : Option Addr} {fd : FuncData} {sl : Array (Option Value)} {h : Heap} (F : Fr h₀ L h m) (hq : h₀.get? q = some ⟨oc, od, .func fd, sl⟩) : FnAt q h := ⟨oc, od, fd, sl, F.keep _ _ hq⟩
end
section
variable {prog : Program} {w : World} {A : Around} {E : Value → Shared → Prop} {s : Shared}
theorem my_getitem {value slice : PySem.Expr} {D : Addr} {vs : List Value} {i : Nat} {u : Tok} {v : Value} {Q : Value → Shared → Prop} (hl : s.heap.IsList D vs.toArray) (hv : vs[i]? = some v) (hz : vs.length ≤ 100000) (h : Q v s)
    (hs : subscripted slice false (.ref D) (.int i u) = operate [.ref D, .int i u] (getItem (.ref D) (.int i u)) := by with_unfolding_all rfl)
    (hg : ∀ r, letTemporaryGo value (.ref D) r = pure () := by intro _; with_unfolding_all rfl) :
    wpAny (model prog w) A (subscriptTail value slice (.ref D) (.int i u)) Q E s := by
  have hi : i < vs.length := (List.getElem?_eq_some_iff.mp hv).1
  exact subscriptTail_builtin hl.typeIs slot_list_getitem.lookup (wpAny_getItem_list hl (by omega) (by omega) (by simpa using hv) h) hs hg
end
noncomputable def dval (n : Nat) : List Int → Int
  | [] => 0
  | d :: r => d + dval n r * 2 ^ n
theorem dval_append (n : Nat) : ∀ a b : List Int, dval n (a ++ b) = dval n a + dval n b * 2 ^ (a.length * n)
  | [], b => by simp [dval]
  | d :: r, b => by
    show d + dval n (r ++ b) * 2 ^ n = (d + dval n r * 2 ^ n) + dval n b * 2 ^ ((r.length + 1) * n)
    rw [dval_append n r b, Nat.add_mul, Int.pow_add, Nat.one_mul, Int.add_mul, Int.mul_assoc, Int.add_assoc]
theorem dval_range (n : Nat) : ∀ a : List Int, (∀ d ∈ a, 0 ≤ d ∧ d < 2 ^ n) → 0 ≤ dval n a ∧ dval n a < 2 ^ (a.length * n)
  | [], _ => by simp [dval]
  | d :: r, h => by
    have hp : (0 : Int) < 2 ^ n := Int.pow_pos (by decide)
    obtain ⟨h1, h2⟩ := dval_range n r fun x hx => h x (.tail _ hx)
    obtain ⟨h3, h4⟩ := h d (.head _)
    refine ⟨?_, ?_⟩
    · have := Int.mul_nonneg h1 (Int.le_of_lt hp)
      show 0 ≤ d + dval n r * 2 ^ n; omega
    · show d + dval n r * 2 ^ n < 2 ^ ((r.length + 1) * n)
      rw [Nat.add_mul, Int.pow_add, Nat.one_mul]
      have : (dval n r + 1) * 2 ^ n ≤ 2 ^ (r.length * n) * 2 ^ n := Int.mul_le_mul_of_nonneg_right (by omega) (Int.le_of_lt hp)
      rw [Int.add_mul, Int.one_mul] at this
      omega
example : True := by w_top off; trivial
theorem lookup_eq {K : Frag} {f : Addr} {o o' : Obj} {G : Prop} (h1 : K.lookup f = some o) (h2 : K.lookup f = some o') (h : o = o' → G) : G := h (Option.some.inj (h1.symm.trans h2))
noncomputable def TabOk (h : Heap) (line col : Int) (qual : Str) (ps : Array Value) : Prop := ps = #[] ∨ ∃ c' oc vs t, ps = #[rawInt line, rawInt col, .ref c'] ∧ h.get? c' = some oc ∧ oc.data = .fields vs ∧ vs[1]? = some (.str qual t)
theorem TabOk.keeps {h h' : Heap} {line col : Int} {qual : Str} {ps : Array Value} {P : Addr} {qs : Array Value} (T : TabOk h line col qual ps) (hP : h.get? P = some (tabObj qs)) (hk : ∀ b o, b ≠ P → h.get? b = some o → h'.get? b = some o) (hz : ∀ q t, qs[1]? ≠ some (.str q t)) : TabOk h' line col qual ps := by
  rcases T with rfl | ⟨c', oc, vs, t, rfl, e, hd, hv⟩
  · exact .inl rfl
  · refine .inr ⟨c', oc, vs, t, rfl, hk _ _ ?_ e, hd, hv⟩
    rintro rfl
    rw [hP] at e; cases e
    injection hd with hd
    subst hd
    exact hz _ _ hv
theorem TabOk.second {h : Heap} {line col : Int} {qual : Str} {ps : Array Value} (T : TabOk h line col qual ps) : ∀ q t, ps[1]? ≠ some (.str q t) := by
  rcases T with rfl | ⟨c', oc, vs, t, rfl, e, hd, hv⟩
  · intro q t e; cases e
  · intro q t e; cases e
noncomputable def TabDone (P : Addr) (line col : Int) (qual : Str) (s : Shared) (Post : Value → Heap → Prop) (v : Value) (s' : Shared) : Prop :=
  ∃ h' tk ps, s' = { s with heap := h', toks := tk } ∧ (∀ b o, b ≠ P → s.heap.get? b = some o → h'.get? b = some o) ∧ h'.get? P = some (tabObj ps) ∧ TabOk h' line col qual ps ∧ Post v h'
section
variable {prog : Program} {w : World} {A : Around} {E : Value → Shared → Prop} {s : Shared} {Q : Value → Shared → Prop} {t u : Tok}
theorem my_mid {a b m : Nat} (hm : (a + b) / 2 = m) (h : Q (.int (m : Int) s.toks) { s with toks := s.toks + 1 }) : wpAny (model prog w) A (binaryOp .RShift (.int ((a : Int) + (b : Int)) t) (.int 1 u)) Q E s :=
  my_shr (m := 1) (by rw [show (((a : Int) + (b : Int)) / 2 ^ 1) = (m : Int) by omega]; exact h)
theorem my_subn {M L q : Nat} (hq : M = L + q) (h : Q (.int (q : Int) s.toks) { s with toks := s.toks + 1 }) : wpAny (model prog w) A (binaryOp .Sub (.int (M : Int) t) (.int (L : Int) u)) Q E s :=
  sub_int' (by rw [show ((M : Int) - (L : Int)) = (q : Int) by omega]; exact h)
theorem my_muln {q n : Nat} (hq : q < 2 ^ 20) (hn : n < 2 ^ 20) (h : Q (.int ((q * n : Nat) : Int) s.toks) { s with toks := s.toks + 1 }) : wpAny (model prog w) A (binaryOp .Mult (.int (q : Int) t) (.int (n : Int) u)) Q E s :=
  my_mul (k := 20) (l := 20) (by unfold Bd; omega) (by unfold Bd; omega) (by omega) (by rw [show ((q : Int) * (n : Int)) = ((q * n : Nat) : Int) by push_cast; rfl]; exact h)
end
noncomputable def seg (n : Nat) (ds : List Int) (L R : Nat) : Int := dval n ((ds.drop L).take (R - L))
theorem seg_split {n : Nat} {ds : List Int} {L M R : Nat} (h1 : L ≤ M) (h2 : M ≤ R) (h3 : R ≤ ds.length) : seg n ds L R = seg n ds L M + seg n ds M R * 2 ^ ((M - L) * n) := by
  unfold seg
  have e : (ds.drop L).take (R - L) = (ds.drop L).take (M - L) ++ (ds.drop M).take (R - M) := by
    have e1 : R - L = (M - L) + (R - M) := by omega
    rw [e1, List.take_add, List.drop_drop]
    congr 3
    omega
  rw [e, dval_append]
  congr 3
  have : (List.take (M - L) (List.drop L ds)).length = M - L := by simp; omega
  rw [this]
theorem seg_one {n : Nat} {ds : List Int} {L : Nat} {d : Int} (h : ds[L]? = some d) : seg n ds L (L + 1) = d := by
  unfold seg
  have e : L + 1 - L = 1 := by omega
  have hl : L < ds.length := (List.getElem?_eq_some_iff.mp h).1
  rw [e, List.drop_eq_getElem_cons hl]
  have hd : ds[L] = d := by rw [List.getElem?_eq_getElem hl] at h; exact Option.some.inj h
  simp [dval, hd]
theorem seg_range {n : Nat} {ds : List Int} {L R : Nat} (h : ∀ d ∈ ds, 0 ≤ d ∧ d < 2 ^ n) (_h3 : R ≤ ds.length) : 0 ≤ seg n ds L R ∧ Bd ((R - L) * n) (seg n ds L R) := by
  obtain ⟨h1, h2⟩ := dval_range n ((ds.drop L).take (R - L)) fun d hd => h d (List.mem_of_mem_drop (List.mem_of_mem_take hd))
  refine ⟨h1, Bd.of_lt h1 (Int.lt_of_lt_of_le h2 ?_)⟩
  have : ((2 : Nat) ^ (((ds.drop L).take (R - L)).length * n)) ≤ 2 ^ ((R - L) * n) := Nat.pow_le_pow_right (by decide) (Nat.mul_le_mul_right _ (List.length_take_le _ _))
  have c1 : ((2 ^ (((ds.drop L).take (R - L)).length * n) : Nat) : Int) = 2 ^ (((ds.drop L).take (R - L)).length * n) := by push_cast; rfl
  have c2 : ((2 ^ ((R - L) * n) : Nat) : Int) = 2 ^ ((R - L) * n) := by push_cast; rfl
  omega
local macro_rules | `(tactic| walk_at "eval Name") => `(tactic| (k_here; kc_free; k_dflt (refine' my_free ?F ?c ?m ?d ?_ ?a ?b; (case a => rfl); (case b => rfl); (case F => k_asm); (case c => rfl); (case m => assumption); (case d => assumption); k_whole)))
local macro_rules | `(tactic| walk_at "callWith ref") => `(tactic| (k_here; k_dflt (refine' my_callWith ?F ?q ?_; (case F => k_asm); (case q => with_reducible assumption); k_whole)))
local macro_rules | `(tactic| walk_at "And") => `(tactic| ((with_reducible show FnAt _ _ ∧ _); k_dflt (refine ⟨fnAt_base (by k_asm) (by assumption), ?_⟩); (try dsimp only [List.nil_append, List.cons_append])))
local macro_rules | `(tactic| walk_at "binaryOp RShift int int") => `(tactic| (refine my_mid (by assumption) ?_))
local macro_rules | `(tactic| walk_at "binaryOp Sub int int") => `(tactic| (refine my_subn (by assumption) ?_))
local macro_rules | `(tactic| walk_at "binaryOp Mult int int") => `(tactic| (refine my_muln (by omega) (by omega) ?_))
theorem half_facts {L R M q kk : Nat} (hk : R - L = kk) (h1 : L < R) (h2 : ¬ R = L + 1) (h3 : (L + R) / 2 = M) (h4 : M = L + q) : 1 ≤ q ∧ M < R ∧ L < M ∧ R - M < kk ∧ M - L < kk ∧ M - L = q ∧ R - M + q = kk := by
  obtain ⟨r, rfl⟩ : ∃ r, R = M + r := ⟨R - M, by omega⟩
  subst h4
  have e1 : L + q + r - L = q + r := by rw [Nat.add_assoc, Nat.add_sub_cancel_left]
  have e2 : L + q + r - (L + q) = r := Nat.add_sub_cancel_left _ _
  have e3 : L + q - L = q := Nat.add_sub_cancel_left _ _
  rw [e1] at hk
  have a1 : 1 ≤ q := by omega
  have a2 : 1 ≤ r := by omega
  rw [e2, e3, ← hk]
  exact ⟨a1, Nat.lt_add_of_pos_right a2, Nat.lt_add_of_pos_right a1, Nat.lt_add_of_pos_left a1, Nat.lt_add_of_pos_right a2, rfl, Nat.add_comm _ _⟩
theorem digits_inner (w : World) {name0 qual0 q9 nm bn : Str} {params0 prm : Arguments} {body0 bd : List Stmt} {scope0 sc : Scope} {dV0 kV0 doc0 pm0 cdv0 ct0 oc0 dc pmv ctv : Value} {an0 od0 : Option Addr} {osl0 : Array (Option Value)}
    {e1 : List Expr} {e2 : Option Expr} {e3 : List TypeParam} {e4 : Option Scope} {ps0 : Pos}
    (hK : (hd.heap_1 w.params).lookup 59 = some ⟨oc0, od0, .func (fnOf name0 qual0 params0 body0 scope0 dV0 kV0 doc0 pm0 an0 cdv0 ct0), osl0⟩)
    (hB : body0[0]? = some (.FunctionDef nm prm bd e1 e2 e3 sc e4 bn ps0))
    {g : Heap} {D f9 c9 cn ci cd : Addr} {vs : List Value} {ds : List Int} {n k : Nat} {tn : Tok} {og o2 o3 : Obj} {p2 : Program} {loose2 : List Str} {mean2 : ExcName → Option Value} {mg2 mb2 : Str → Option Value}
    (gf : g.get? f9 = some (fnMade nm q9 prm bd sc [(Str.ofString "n", cn), (Str.ofString "inner", ci), (Str.ofString "digits", cd)] dc pmv c9 ctv))
    (gcode : g.CodeRec (.ref c9) q9) (gin : g.get? ci = some og) (gn : g.get? cn = some o2) (gd : g.get? cd = some o3)
    (dg : og.data = .cell (some (.ref f9))) (b2' : o2.data = .cell (some (.int n tn))) (b3' : o3.data = .cell (some (.ref D)))
    (gD : g.get? D = some (W.listOf vs.toArray k)) (gl : g.NoLimit) (X0 : (hd.heap_1 w.params).In g) (TG : Top p2 loose2 mean2 mg2 mb2 g)
    (hi : IntsAre vs ds) (hlen : ds.length ≤ 10) (hn : n ≤ 10000) (hr : ∀ d ∈ ds, 0 ≤ d ∧ d < 2 ^ n) :
    ∀ (kk L R : Nat) (tl tr : Tok) (s1 : Shared) (A1 : Around) (E1 : Value → Shared → Prop), R - L = kk → L < R → R ≤ ds.length → (∀ b o, g.get? b = some o → s1.heap.get? b = some o) → A1.handled = none → A1.depth + kk + 2 < recursionLimit → A1.units + 100 + 10 * kk < cLine →
        wpAny (model PySem.Challenge.rw_ik0159_01.row.prog w) A1 (call (.ref f9) [.int L tl, .int R tr]) (Done s1 (fun r _ => ∃ t, r = .int (seg n ds L R) t)) E1 s1 := by
  have XG := X0
  revert XG
  k_fill
  intro XG
  clear X0
  k_dflt (refine' lookup_eq hK ?h2 ?_; (case h2 => k_is))
  intro hK2
  cases hK2
  cases hB
  intro kk
  induction kk using Nat.strongRecOn with
  | _ kk ih =>
    intro L R tl tr s1 A1 E1 hk hLR hR hg hh hd1 hu1
    refine wpAny_call ?_
    refine pure_def_clos (binds := [(Str.ofString "L", .int L tl), (Str.ofString "R", .int R tr)]) (gl.keeps hg) (hg _ _ gf) (gcode.keeps hg) (by omega) (BindsTo.of_eq rfl) (locs rfl) (fun h1 F1 => ?_) rfl rfl rfl (by decide)
    have XS := XG.keeps hg
    have TS := TG.keeps hg
    have NS : News s1.heap s1.heap.objs.size h1 [] := News.nil
    have q1 := hg _ _ gin
    have q2 := hg _ _ gn
    have q3 := hg _ _ gd
    have qf := hg _ _ gf
    have qD := hg _ _ gD
    (try dsimp only at q1 q2 q3 qf)
    show wpAny _ _ _ _ _ _
    k_fold
    by_cases hone : R = L + 1
    · subst hone
      have hLd : L < ds.length := by omega
      obtain ⟨td, hvd⟩ := hi.get L _ (List.getElem?_eq_getElem hLd)
      (repeat' ( (fail_if_success (with_reducible show PySem.wpAny _ _ (PySem.truthy (PySem.Value.ref _)) _ _ _)); (fail_if_success (with_reducible show PySem.wpAny _ _ (PyProof.Rows.subscriptTail _ _ (PySem.Value.ref _) _) _ _ _)); (fail_if_success (with_reducible show PySem.wpAny _ _ (PySem.setItem (PySem.Value.ref _) _ _) _ _ _)); (fail_if_success (with_reducible show PySem.wpAny _ _ (PySem.compareOp _ (PySem.Value.ref _) (PySem.Value.ref _)) _ _ _)); (fail_if_success (with_reducible show PySem.wpAny _ _ (PySem.call (PySem.Value.builtin "len") _) _ _ _)); (fail_if_success (with_reducible show PySem.wpAny _ _ (PySem.call (PySem.Value.builtin "list.reverse") _) _ _ _)); (( (fail_if_success (with_reducible show PySem.wpAny _ _ (PySem.exec (PySem.Stmt.For _ _ _ _ _) _) _ _ _)); (fail_if_success (with_reducible show PySem.wpAny _ _ (PySem.exec (PySem.Stmt.While _ _ _ _) _) _ _ _)); first | (k_unfold; (try dsimp only)) | (first | ((with_reducible show PySem.wpAny _ _ (PySem.execs _ _) _ _ _); k_fold) | walk1 | (dsimp only; walk1)) | fail "no step"))))
      · rename Fr _ _ _ _ => Fc
        refine my_getitem ⟨_, Fc.keep _ _ qD, rfl, _, rfl⟩ hvd (by rw [hi.length]; omega) ?_
        (repeat' ( (fail_if_success (with_reducible show PySem.wpAny _ _ (PySem.truthy (PySem.Value.ref _)) _ _ _)); (fail_if_success (with_reducible show PySem.wpAny _ _ (PyProof.Rows.subscriptTail _ _ (PySem.Value.ref _) _) _ _ _)); (fail_if_success (with_reducible show PySem.wpAny _ _ (PySem.setItem (PySem.Value.ref _) _ _) _ _ _)); (fail_if_success (with_reducible show PySem.wpAny _ _ (PySem.compareOp _ (PySem.Value.ref _) (PySem.Value.ref _)) _ _ _)); (fail_if_success (with_reducible show PySem.wpAny _ _ (PySem.call (PySem.Value.builtin "len") _) _ _ _)); (fail_if_success (with_reducible show PySem.wpAny _ _ (PySem.call (PySem.Value.builtin "list.reverse") _) _ _ _)); (( (fail_if_success (with_reducible show PySem.wpAny _ _ (PySem.exec (PySem.Stmt.For _ _ _ _ _) _) _ _ _)); (fail_if_success (with_reducible show PySem.wpAny _ _ (PySem.exec (PySem.Stmt.While _ _ _ _) _) _ _ _)); first | (k_unfold; (try dsimp only)) | (first | ((with_reducible show PySem.wpAny _ _ (PySem.execs _ _) _ _ _); k_fold) | walk1 | (dsimp only; walk1)) | fail "no step"))))
        exact Done.intro Fc ⟨_, by rw [seg_one (List.getElem?_eq_getElem hLd)]⟩
      · exfalso; omega
    · obtain ⟨M, hmid⟩ : ∃ M, (L + R) / 2 = M := ⟨_, rfl⟩
      obtain ⟨q, hq⟩ : ∃ q, M = L + q := ⟨M - L, by omega⟩
      obtain ⟨f1, f2, f3, f4, f5, f6, f7⟩ := half_facts hk hLR hone hmid hq
      obtain ⟨r0, r1⟩ := seg_range (n := n) (ds := ds) (L := M) (R := R) hr hR
      have hz1 : (R - M) * n ≤ 10 * 10000 := Nat.mul_le_mul (by omega) hn
      have hz2 : q * n ≤ 10 * 10000 := Nat.mul_le_mul (by omega) hn
      (repeat' ( (fail_if_success (with_reducible show PySem.wpAny _ _ (PySem.truthy (PySem.Value.ref _)) _ _ _)); (fail_if_success (with_reducible show PySem.wpAny _ _ (PyProof.Rows.subscriptTail _ _ (PySem.Value.ref _) _) _ _ _)); (fail_if_success (with_reducible show PySem.wpAny _ _ (PySem.setItem (PySem.Value.ref _) _ _) _ _ _)); (fail_if_success (with_reducible show PySem.wpAny _ _ (PySem.compareOp _ (PySem.Value.ref _) (PySem.Value.ref _)) _ _ _)); (fail_if_success (with_reducible show PySem.wpAny _ _ (PySem.call (PySem.Value.builtin "len") _) _ _ _)); (fail_if_success (with_reducible show PySem.wpAny _ _ (PySem.call (PySem.Value.builtin "list.reverse") _) _ _ _)); (( (fail_if_success (with_reducible show PySem.wpAny _ _ (PySem.exec (PySem.Stmt.For _ _ _ _ _) _) _ _ _)); (fail_if_success (with_reducible show PySem.wpAny _ _ (PySem.exec (PySem.Stmt.While _ _ _ _) _) _ _ _)); first | (k_unfold; (try dsimp only)) | (first | ((with_reducible show PySem.wpAny _ _ (PySem.execs _ _) _ _ _); k_fold) | walk1 | (dsimp only; walk1)) | fail "no step"))))
      · exfalso; omega
      · rename Fr _ _ _ _ => Fa
        refine wpAny_mono (ih (R - M) f4 M R _ _ _ _ (fun _ _ => False) rfl f2 hR (fun b o e => Fa.keep b o (hg b o e)) hh (by show A1.depth + 1 + _ + 2 < _; omega) (by show A1.units + 3 + 100 + _ < _; omega)) (fun v s' z => ?_) fun _ _ e => e.elim
        obtain ⟨h', tk', rfl, hk', t', rfl⟩ := z
        have Fb := Fa.keeps hk'
        have Nb : News s1.heap s1.heap.objs.size h' [] := News.nil
        clear Fa
        (repeat' ( (fail_if_success (with_reducible show PySem.wpAny _ _ (PySem.truthy (PySem.Value.ref _)) _ _ _)); (fail_if_success (with_reducible show PySem.wpAny _ _ (PyProof.Rows.subscriptTail _ _ (PySem.Value.ref _) _) _ _ _)); (fail_if_success (with_reducible show PySem.wpAny _ _ (PySem.setItem (PySem.Value.ref _) _ _) _ _ _)); (fail_if_success (with_reducible show PySem.wpAny _ _ (PySem.compareOp _ (PySem.Value.ref _) (PySem.Value.ref _)) _ _ _)); (fail_if_success (with_reducible show PySem.wpAny _ _ (PySem.call (PySem.Value.builtin "len") _) _ _ _)); (fail_if_success (with_reducible show PySem.wpAny _ _ (PySem.call (PySem.Value.builtin "list.reverse") _) _ _ _)); (( (fail_if_success (with_reducible show PySem.wpAny _ _ (PySem.exec (PySem.Stmt.For _ _ _ _ _) _) _ _ _)); (fail_if_success (with_reducible show PySem.wpAny _ _ (PySem.exec (PySem.Stmt.While _ _ _ _) _) _ _ _)); first | (k_unfold; (try dsimp only)) | (first | ((with_reducible show PySem.wpAny _ _ (PySem.execs _ _) _ _ _); k_fold) | walk1 | (dsimp only; walk1)) | fail "no step"))))
        rename Fr _ _ _ _ => Fc
        refine wpAny_mono (ih (M - L) f5 L M _ _ _ _ (fun _ _ => False) rfl f3 (Nat.le_trans (Nat.le_of_lt f2) hR) (fun b o e => Fc.keep b o (hg b o e)) hh (by show A1.depth + 1 + _ + 2 < _; omega) (by show A1.units + 3 + 100 + _ < _; omega)) (fun v s' z => ?_) fun _ _ e => e.elim
        obtain ⟨h2, tk2, rfl, hk2, t2, rfl⟩ := z
        have Fd := Fc.keeps hk2
        have Nd : News s1.heap s1.heap.objs.size h2 [] := News.nil
        clear Fc
        (repeat' ( (fail_if_success (with_reducible show PySem.wpAny _ _ (PySem.truthy (PySem.Value.ref _)) _ _ _)); (fail_if_success (with_reducible show PySem.wpAny _ _ (PyProof.Rows.subscriptTail _ _ (PySem.Value.ref _) _) _ _ _)); (fail_if_success (with_reducible show PySem.wpAny _ _ (PySem.setItem (PySem.Value.ref _) _ _) _ _ _)); (fail_if_success (with_reducible show PySem.wpAny _ _ (PySem.compareOp _ (PySem.Value.ref _) (PySem.Value.ref _)) _ _ _)); (fail_if_success (with_reducible show PySem.wpAny _ _ (PySem.call (PySem.Value.builtin "len") _) _ _ _)); (fail_if_success (with_reducible show PySem.wpAny _ _ (PySem.call (PySem.Value.builtin "list.reverse") _) _ _ _)); (( (fail_if_success (with_reducible show PySem.wpAny _ _ (PySem.exec (PySem.Stmt.For _ _ _ _ _) _) _ _ _)); (fail_if_success (with_reducible show PySem.wpAny _ _ (PySem.exec (PySem.Stmt.While _ _ _ _) _) _ _ _)); first | (k_unfold; (try dsimp only)) | (first | ((with_reducible show PySem.wpAny _ _ (PySem.execs _ _) _ _ _); k_fold) | walk1 | (dsimp only; walk1)) | fail "no step"))))
        rename Fr _ _ _ _ => Fe
        have es : seg n ds L R = seg n ds M R * 2 ^ (q * n) + seg n ds L M := by
          rw [seg_split (L := L) (M := M) (R := R) (Nat.le_of_lt f3) (Nat.le_of_lt f2) hR, f6, Int.add_comm]
        exact Done.intro Fe ⟨_, by rw [es]⟩
theorem digits_spec (w : World) (D : Addr) (vs : List Value) (ds : List Int) (n k : Nat) (tn : Tok) (ps : Array Value) (s : Shared) (I : Inv w s.heap) (hD : s.heap.get? D = some (W.listOf vs.toArray k)) (ht : s.heap.get? 54 = some (tabObj ps)) (hps : TabOk s.heap 48 4 (Str.ofString "_digits2int.<locals>.inner") ps)
    (hi : IntsAre vs ds) (hlen : ds.length ≤ 10) (hn : n ≤ 10000) (hr : ∀ d ∈ ds, 0 ≤ d ∧ d < 2 ^ n)
    (dp un : Nat) (fr : Option (List Env)) (gd : Option (List Code)) (E : Value → Shared → Prop) (hdp : dp + 60 < recursionLimit) (hun : un + 800 < cLine) :
    wpAny (model PySem.Challenge.rw_ik0159_01.row.prog w) (Ar dp un fr gd) (call (.ref 59) [.ref D, .int n tn])
      (TabDone 54 48 4 (Str.ofString "_digits2int.<locals>.inner") s (fun r _ => ∃ t, r = .int (dval n ds) t)) E s := by
  have X := Inv.X I
  have I2 : Inv w (hideAll s.heap [54]) := I.hide [54] (by intro P hP; rw [List.mem_singleton.mp hP]; rfl) (by intro P hP; rw [List.mem_singleton.mp hP]; exact ⟨_, ht, _, rfl, .inl rfl⟩)
  revert X
  k_fill
  intro X
  (refine wpAny_call ?_)
  obtain ⟨p, loose, mean, mg, mb, T⟩ := Inv.T I
  k_dflt (refine' pure_def_cells (binds := [(Str.ofString "digits", .ref D), (Str.ofString "n", .int n tn)]) X T ?ho ?hcd ?hroom ?hbind ?hkind ?hnd ?_ ?c2 ?c3 ?c4; (case ho => k_is); (case hcd => k_is); (case hroom => (show dp < _; omega)); (case hbind => exact BindsTo.of_eq rfl); (case hkind => exact rfl); (case hnd => decide +kernel); (case c2 => exact rfl); (case c3 => exact rfl); (case c4 => exact rfl))
  intro h₁ tk0 cells F N Y
  k_cells Y
  rename_i o1 o2 o3 b1 b2 b3
  (try dsimp only)
  show wpAny _ _ _ _ _ _
  k_fold
  have F2 := hide_fr [54] F
  have N2 := hide_news1 (ps := [54]) F ht (.head _) (hide_news (ps := [54]) N)
  have C2 : CodeHd (hideAll s.heap [54]) 58 54 := codeHd_of_K I2.X (by kernel_rfl)
  have hlt : 54 < s.heap.objs.size := Heap.lt_size ht
  clear F N X T
  have hDn : s.heap.get? D = some (W.listOf vs.toArray k) := hD
  obtain ⟨X2, p2, loose2, mean2, mg2, mb2, T2⟩ := I2
  rcases hps with rfl | ⟨c0, oc0, vs0, t0, rfl, e0, hd0, hv0⟩
  · (repeat' ( (fail_if_success (with_reducible show PySem.wpAny _ _ (PySem.truthy (PySem.Value.ref _)) _ _ _)); (fail_if_success (with_reducible show PySem.wpAny _ _ (PyProof.Rows.subscriptTail _ _ (PySem.Value.ref _) _) _ _ _)); (fail_if_success (with_reducible show PySem.wpAny _ _ (PySem.setItem (PySem.Value.ref _) _ _) _ _ _)); (fail_if_success (with_reducible show PySem.wpAny _ _ (PySem.compareOp _ (PySem.Value.ref _) (PySem.Value.ref _)) _ _ _)); (fail_if_success (with_reducible show PySem.wpAny _ _ (PySem.call (PySem.Value.builtin "len") _) _ _ _)); (fail_if_success (with_reducible show PySem.wpAny _ _ (PySem.call (PySem.Value.builtin "list.reverse") _) _ _ _)); (( (fail_if_success (with_reducible show PySem.wpAny _ _ (PySem.exec (PySem.Stmt.For _ _ _ _ _) _) _ _ _)); (fail_if_success (with_reducible show PySem.wpAny _ _ (PySem.exec (PySem.Stmt.While _ _ _ _) _) _ _ _)); first | (k_unfold; (try dsimp only)) | (first | ((with_reducible show PySem.wpAny _ _ (PySem.execs _ _) _ _ _); k_fold) | walk1 | (dsimp only; walk1)) | fail "no step"))))
    rename News _ _ _ _ => N9
    rename Fr _ _ _ _ => F9
    rename_i f9 c9 _ _ _ _ _ _ _ _ _ _ _ g og dg
    have gf := N9.get (.head _)
    have gcode : g.CodeRec (.ref c9) (Str.ofString "_digits2int.<locals>.inner") := codeRec_news N9 mem1 (by assumption) (by assumption)
    have gin := N9.get mem3
    have gn := N9.get mem4
    have gd := N9.get mem5
    have b2' : o2.data = .cell (some (.int n tn)) := b2
    have b3' : o3.data = .cell (some (.ref D)) := b3
    have gD : g.get? D = some (W.listOf vs.toArray k) := F9.keep _ _ (hide_get hDn (fun hm => by
      rw [List.mem_singleton.mp hm, ht] at hDn; cases hDn))
    have gl : g.NoLimit := T2.nolimit.keeps F9.keep
    have XG : (_root_.Mine.hd.heap_1 w.params).In g := X2.keeps F9.keep
    have TG := T2.keeps F9.keep
    have inner := digits_inner w (by k_is) (by rfl) gf gcode gin gn gd dg b2' b3' gD gl XG TG hi hlen hn hr
    refine wpAny_truthy_list (items := vs.toArray) ⟨_, gD, rfl, _, rfl⟩ (by have := hi.length; simp only [List.size_toArray]; omega) ?_
    by_cases hz : ds = []
    · subst hz
      cases hi
      (repeat' ( (fail_if_success (with_reducible show PySem.wpAny _ _ (PySem.truthy (PySem.Value.ref _)) _ _ _)); (fail_if_success (with_reducible show PySem.wpAny _ _ (PyProof.Rows.subscriptTail _ _ (PySem.Value.ref _) _) _ _ _)); (fail_if_success (with_reducible show PySem.wpAny _ _ (PySem.setItem (PySem.Value.ref _) _ _) _ _ _)); (fail_if_success (with_reducible show PySem.wpAny _ _ (PySem.compareOp _ (PySem.Value.ref _) (PySem.Value.ref _)) _ _ _)); (fail_if_success (with_reducible show PySem.wpAny _ _ (PySem.call (PySem.Value.builtin "len") _) _ _ _)); (fail_if_success (with_reducible show PySem.wpAny _ _ (PySem.call (PySem.Value.builtin "list.reverse") _) _ _ _)); (( (fail_if_success (with_reducible show PySem.wpAny _ _ (PySem.exec (PySem.Stmt.For _ _ _ _ _) _) _ _ _)); (fail_if_success (with_reducible show PySem.wpAny _ _ (PySem.exec (PySem.Stmt.While _ _ _ _) _) _ _ _)); first | (k_unfold; (try dsimp only)) | (first | ((with_reducible show PySem.wpAny _ _ (PySem.execs _ _) _ _ _); k_fold) | walk1 | (dsimp only; walk1)) | fail "no step"))))
      dsimp only
      exact ⟨g, _, _, rfl, fun b o hb e => F9.keep _ _ (hide_get e (fun hm => hb (List.mem_singleton.mp hm))), N9.get mem2, (.inr ⟨c9, _, _, _, rfl, N9.get mem1, by assumption, by assumption⟩), _, rfl⟩
    · have hne : (!vs.toArray.isEmpty) = true := by
        cases hi with
        | nil => exact absurd rfl hz
        | cons _ _ _ => simp
      rw [hne]
      (repeat' ( (fail_if_success (with_reducible show PySem.wpAny _ _ (PySem.truthy (PySem.Value.ref _)) _ _ _)); (fail_if_success (with_reducible show PySem.wpAny _ _ (PyProof.Rows.subscriptTail _ _ (PySem.Value.ref _) _) _ _ _)); (fail_if_success (with_reducible show PySem.wpAny _ _ (PySem.setItem (PySem.Value.ref _) _ _) _ _ _)); (fail_if_success (with_reducible show PySem.wpAny _ _ (PySem.compareOp _ (PySem.Value.ref _) (PySem.Value.ref _)) _ _ _)); (fail_if_success (with_reducible show PySem.wpAny _ _ (PySem.call (PySem.Value.builtin "len") _) _ _ _)); (fail_if_success (with_reducible show PySem.wpAny _ _ (PySem.call (PySem.Value.builtin "list.reverse") _) _ _ _)); (( (fail_if_success (with_reducible show PySem.wpAny _ _ (PySem.exec (PySem.Stmt.For _ _ _ _ _) _) _ _ _)); (fail_if_success (with_reducible show PySem.wpAny _ _ (PySem.exec (PySem.Stmt.While _ _ _ _) _) _ _ _)); first | (k_unfold; (try dsimp only)) | (first | ((with_reducible show PySem.wpAny _ _ (PySem.execs _ _) _ _ _); k_fold) | walk1 | (dsimp only; walk1)) | fail "no step"))))
      refine len_list (items := vs.toArray) ⟨_, gD, rfl, _, rfl⟩ (by have := hi.length; simp only [List.size_toArray]; omega) ?_
      have hvl : ((vs.toArray.size : Nat) : Int) = ((ds.length : Nat) : Int) := by have := hi.length; simp only [List.size_toArray]; omega
      rw [hvl]
      (repeat' ( (fail_if_success (with_reducible show PySem.wpAny _ _ (PySem.truthy (PySem.Value.ref _)) _ _ _)); (fail_if_success (with_reducible show PySem.wpAny _ _ (PyProof.Rows.subscriptTail _ _ (PySem.Value.ref _) _) _ _ _)); (fail_if_success (with_reducible show PySem.wpAny _ _ (PySem.setItem (PySem.Value.ref _) _ _) _ _ _)); (fail_if_success (with_reducible show PySem.wpAny _ _ (PySem.compareOp _ (PySem.Value.ref _) (PySem.Value.ref _)) _ _ _)); (fail_if_success (with_reducible show PySem.wpAny _ _ (PySem.call (PySem.Value.builtin "len") _) _ _ _)); (fail_if_success (with_reducible show PySem.wpAny _ _ (PySem.call (PySem.Value.builtin "list.reverse") _) _ _ _)); (( (fail_if_success (with_reducible show PySem.wpAny _ _ (PySem.exec (PySem.Stmt.For _ _ _ _ _) _) _ _ _)); (fail_if_success (with_reducible show PySem.wpAny _ _ (PySem.exec (PySem.Stmt.While _ _ _ _) _) _ _ _)); first | (k_unfold; (try dsimp only)) | (first | ((with_reducible show PySem.wpAny _ _ (PySem.execs _ _) _ _ _); k_fold) | walk1 | (dsimp only; walk1)) | fail "no step"))))
      have hdl : 0 < ds.length := List.length_pos_iff.mpr hz
      refine wpAny_mono (inner ds.length 0 ds.length _ _ _ _ (fun _ _ => False) rfl hdl (Nat.le_refl _) (fun _ _ e => e) rfl (by show (Ar _ _ _ _).depth + 1 + _ + 2 < _; dsimp only [Ar]; omega) (by show (Ar _ _ _ _).units + 3 + 100 + _ < _; dsimp only [Ar]; omega)) (fun v s' z => ?_) fun _ _ e => e.elim
      obtain ⟨h', tk', rfl, hk', t', rfl⟩ := z
      have he : seg n ds 0 ds.length = dval n ds := by unfold seg; simp
      rw [he]
      exact ⟨h', tk', _, rfl, fun b o hb e => hk' _ _ (F9.keep _ _ (hide_get e (fun hm => hb (List.mem_singleton.mp hm)))), hk' _ _ (N9.get mem2), (.inr ⟨c9, _, _, _, rfl, hk' _ _ (N9.get mem1), by assumption, by assumption⟩), _, rfl⟩
  · (repeat' ( (fail_if_success (with_reducible show PySem.wpAny _ _ (PySem.truthy (PySem.Value.ref _)) _ _ _)); (fail_if_success (with_reducible show PySem.wpAny _ _ (PyProof.Rows.subscriptTail _ _ (PySem.Value.ref _) _) _ _ _)); (fail_if_success (with_reducible show PySem.wpAny _ _ (PySem.setItem (PySem.Value.ref _) _ _) _ _ _)); (fail_if_success (with_reducible show PySem.wpAny _ _ (PySem.compareOp _ (PySem.Value.ref _) (PySem.Value.ref _)) _ _ _)); (fail_if_success (with_reducible show PySem.wpAny _ _ (PySem.call (PySem.Value.builtin "len") _) _ _ _)); (fail_if_success (with_reducible show PySem.wpAny _ _ (PySem.call (PySem.Value.builtin "list.reverse") _) _ _ _)); (( (fail_if_success (with_reducible show PySem.wpAny _ _ (PySem.exec (PySem.Stmt.For _ _ _ _ _) _) _ _ _)); (fail_if_success (with_reducible show PySem.wpAny _ _ (PySem.exec (PySem.Stmt.While _ _ _ _) _) _ _ _)); first | (k_unfold; (try dsimp only)) | (first | ((with_reducible show PySem.wpAny _ _ (PySem.execs _ _) _ _ _); k_fold) | walk1 | (dsimp only; walk1)) | fail "no step"))))
    rename News _ _ _ _ => N9
    rename Fr _ _ _ _ => F9
    rename_i f9 _ _ _ _ _ g og dg
    have gf := N9.get (.head _)
    have gcode : g.CodeRec (.ref c0) (Str.ofString "_digits2int.<locals>.inner") := ⟨c0, oc0, vs0, t0, rfl, F9.keep _ _ (hide_get e0 (fun hm => by rw [List.mem_singleton.mp hm, ht] at e0; cases e0; cases hd0; cases hv0)), hd0, hv0⟩
    have gin := N9.get mem2
    have gn := N9.get mem3
    have gd := N9.get mem4
    have b2' : o2.data = .cell (some (.int n tn)) := b2
    have b3' : o3.data = .cell (some (.ref D)) := b3
    have gD : g.get? D = some (W.listOf vs.toArray k) := F9.keep _ _ (hide_get hDn (fun hm => by
      rw [List.mem_singleton.mp hm, ht] at hDn; cases hDn))
    have gl : g.NoLimit := T2.nolimit.keeps F9.keep
    have XG : (_root_.Mine.hd.heap_1 w.params).In g := X2.keeps F9.keep
    have TG := T2.keeps F9.keep
    have inner := digits_inner w (by k_is) (by rfl) gf gcode gin gn gd dg b2' b3' gD gl XG TG hi hlen hn hr
    refine wpAny_truthy_list (items := vs.toArray) ⟨_, gD, rfl, _, rfl⟩ (by have := hi.length; simp only [List.size_toArray]; omega) ?_
    by_cases hz : ds = []
    · subst hz
      cases hi
      (repeat' ( (fail_if_success (with_reducible show PySem.wpAny _ _ (PySem.truthy (PySem.Value.ref _)) _ _ _)); (fail_if_success (with_reducible show PySem.wpAny _ _ (PyProof.Rows.subscriptTail _ _ (PySem.Value.ref _) _) _ _ _)); (fail_if_success (with_reducible show PySem.wpAny _ _ (PySem.setItem (PySem.Value.ref _) _ _) _ _ _)); (fail_if_success (with_reducible show PySem.wpAny _ _ (PySem.compareOp _ (PySem.Value.ref _) (PySem.Value.ref _)) _ _ _)); (fail_if_success (with_reducible show PySem.wpAny _ _ (PySem.call (PySem.Value.builtin "len") _) _ _ _)); (fail_if_success (with_reducible show PySem.wpAny _ _ (PySem.call (PySem.Value.builtin "list.reverse") _) _ _ _)); (( (fail_if_success (with_reducible show PySem.wpAny _ _ (PySem.exec (PySem.Stmt.For _ _ _ _ _) _) _ _ _)); (fail_if_success (with_reducible show PySem.wpAny _ _ (PySem.exec (PySem.Stmt.While _ _ _ _) _) _ _ _)); first | (k_unfold; (try dsimp only)) | (first | ((with_reducible show PySem.wpAny _ _ (PySem.execs _ _) _ _ _); k_fold) | walk1 | (dsimp only; walk1)) | fail "no step"))))
      dsimp only
      exact ⟨g, _, _, rfl, fun b o hb e => F9.keep _ _ (hide_get e (fun hm => hb (List.mem_singleton.mp hm))), N9.get mem1, (.inr ⟨c0, _, _, _, rfl, F9.keep _ _ (hide_get e0 (fun hm => by rw [List.mem_singleton.mp hm, ht] at e0; cases e0; cases hd0; cases hv0)), hd0, hv0⟩), _, rfl⟩
    · have hne : (!vs.toArray.isEmpty) = true := by
        cases hi with
        | nil => exact absurd rfl hz
        | cons _ _ _ => simp
      rw [hne]
      (repeat' ( (fail_if_success (with_reducible show PySem.wpAny _ _ (PySem.truthy (PySem.Value.ref _)) _ _ _)); (fail_if_success (with_reducible show PySem.wpAny _ _ (PyProof.Rows.subscriptTail _ _ (PySem.Value.ref _) _) _ _ _)); (fail_if_success (with_reducible show PySem.wpAny _ _ (PySem.setItem (PySem.Value.ref _) _ _) _ _ _)); (fail_if_success (with_reducible show PySem.wpAny _ _ (PySem.compareOp _ (PySem.Value.ref _) (PySem.Value.ref _)) _ _ _)); (fail_if_success (with_reducible show PySem.wpAny _ _ (PySem.call (PySem.Value.builtin "len") _) _ _ _)); (fail_if_success (with_reducible show PySem.wpAny _ _ (PySem.call (PySem.Value.builtin "list.reverse") _) _ _ _)); (( (fail_if_success (with_reducible show PySem.wpAny _ _ (PySem.exec (PySem.Stmt.For _ _ _ _ _) _) _ _ _)); (fail_if_success (with_reducible show PySem.wpAny _ _ (PySem.exec (PySem.Stmt.While _ _ _ _) _) _ _ _)); first | (k_unfold; (try dsimp only)) | (first | ((with_reducible show PySem.wpAny _ _ (PySem.execs _ _) _ _ _); k_fold) | walk1 | (dsimp only; walk1)) | fail "no step"))))
      refine len_list (items := vs.toArray) ⟨_, gD, rfl, _, rfl⟩ (by have := hi.length; simp only [List.size_toArray]; omega) ?_
      have hvl : ((vs.toArray.size : Nat) : Int) = ((ds.length : Nat) : Int) := by have := hi.length; simp only [List.size_toArray]; omega
      rw [hvl]
      (repeat' ( (fail_if_success (with_reducible show PySem.wpAny _ _ (PySem.truthy (PySem.Value.ref _)) _ _ _)); (fail_if_success (with_reducible show PySem.wpAny _ _ (PyProof.Rows.subscriptTail _ _ (PySem.Value.ref _) _) _ _ _)); (fail_if_success (with_reducible show PySem.wpAny _ _ (PySem.setItem (PySem.Value.ref _) _ _) _ _ _)); (fail_if_success (with_reducible show PySem.wpAny _ _ (PySem.compareOp _ (PySem.Value.ref _) (PySem.Value.ref _)) _ _ _)); (fail_if_success (with_reducible show PySem.wpAny _ _ (PySem.call (PySem.Value.builtin "len") _) _ _ _)); (fail_if_success (with_reducible show PySem.wpAny _ _ (PySem.call (PySem.Value.builtin "list.reverse") _) _ _ _)); (( (fail_if_success (with_reducible show PySem.wpAny _ _ (PySem.exec (PySem.Stmt.For _ _ _ _ _) _) _ _ _)); (fail_if_success (with_reducible show PySem.wpAny _ _ (PySem.exec (PySem.Stmt.While _ _ _ _) _) _ _ _)); first | (k_unfold; (try dsimp only)) | (first | ((with_reducible show PySem.wpAny _ _ (PySem.execs _ _) _ _ _); k_fold) | walk1 | (dsimp only; walk1)) | fail "no step"))))
      have hdl : 0 < ds.length := List.length_pos_iff.mpr hz
      refine wpAny_mono (inner ds.length 0 ds.length _ _ _ _ (fun _ _ => False) rfl hdl (Nat.le_refl _) (fun _ _ e => e) rfl (by show (Ar _ _ _ _).depth + 1 + _ + 2 < _; dsimp only [Ar]; omega) (by show (Ar _ _ _ _).units + 3 + 100 + _ < _; dsimp only [Ar]; omega)) (fun v s' z => ?_) fun _ _ e => e.elim
      obtain ⟨h', tk', rfl, hk', t', rfl⟩ := z
      have he : seg n ds 0 ds.length = dval n ds := by unfold seg; simp
      rw [he]
      exact ⟨h', tk', _, rfl, fun b o hb e => hk' _ _ (F9.keep _ _ (hide_get e (fun hm => hb (List.mem_singleton.mp hm)))), hk' _ _ (N9.get mem1), (.inr ⟨c0, _, _, _, rfl, hk' _ _ (F9.keep _ _ (hide_get e0 (fun hm => by rw [List.mem_singleton.mp hm, ht] at e0; cases e0; cases hd0; cases hv0))), hd0, hv0⟩), _, rfl⟩
example : True := by w_top off; trivial
theorem fold_rep (v : Value) : ∀ (k : Nat) (a : Array Value), List.foldl (fun x1 x2 => x1 ++ x2) a (List.replicate k #[v]) = a ++ (List.replicate k v).toArray
  | 0, a => by simp
  | k + 1, a => by
    rw [List.replicate_succ, List.foldl_cons, fold_rep v k, List.replicate_succ]
    apply Array.toList_inj.mp
    simp
section
variable {prog : Program} {w : World} {A : Around} {E : Value → Shared → Prop} {s : Shared} {h₀ : Heap} {L D : Addr} {m : Str → Option Value} {news news' : List (Addr × Obj)}
theorem my_mul0 {l : Addr} {v : Value} {k : Nat} {x : Int} {len : Nat} {u : Tok} {Q : Value → Shared → Prop} (F : Fr h₀ L s.heap m) (N : News h₀ L s.heap news) (hl : (l, W.listOf #[v] k) ∈ news) (hx : x = (len : Nat)) (hz : len ≤ 100000)
    (h : ∀ D h', Fr h₀ L h' m → News h₀ L h' ((D, W.listOf (List.replicate len v).toArray 0) :: news) → (∀ p ∈ news, p.1 < D) → Q (.ref D) { s with heap := h' }) : wpAny (model prog w) A (binaryOp .Mult (.ref l) (.int x u)) Q E s := by
  subst hx
  refine mul_list (items := #[v]) (k := k) F N (N.get hl) (by omega) (by omega) (by simp; omega) fun h' F' N' => ?_
  refine h _ h' F' ?_ (fun p hp => Heap.lt_size (N p hp).1)
  have e : (List.foldl (fun x1 x2 => x1 ++ x2) #[] (List.replicate (if (#[v] : Array Value).isEmpty = true then 0 else ((len : Nat) : Int).toNat) #[v])) = (List.replicate len v).toArray := by
    rw [show (if (#[v] : Array Value).isEmpty = true then 0 else ((len : Nat) : Int).toNat) = len by simp, fold_rep]; simp
  rw [e] at N'
  exact N'
theorem my_xor {x u : Int} {k : Nat} {ta tb : Tok} {Q : Value → Shared → Prop} (hx : 0 ≤ x) (hu : u = x / 2 ^ k * 2 ^ k) (h : Q (.int (x % 2 ^ k) s.toks) { s with toks := s.toks + 1 }) : wpAny (model prog w) A (binaryOp .BitXor (.int x ta) (.int u tb)) Q E s := by
  subst hu
  have hp : (0 : Int) < 2 ^ k := Int.pow_pos (by decide)
  have e1 := Int.emod_add_mul_ediv x (2 ^ k)
  have e2 := xor_shift (a := x / 2 ^ k) (b := x % 2 ^ k) (m := k) (Int.ediv_nonneg hx (by omega)) (Int.emod_nonneg _ (by omega)) (Int.emod_lt_of_pos _ hp)
  have e3 : x / 2 ^ k * 2 ^ k + x % 2 ^ k = x := by rw [Int.mul_comm]; omega
  rw [e3] at e2
  exact xor_int (by rw [e2]; exact h)
theorem my_setitem {oD : Obj} {us : List Value} {i ku : Nat} {t : Tok} {v : Value} {Q : Unit → Shared → Prop} (F : Fr h₀ L s.heap m) (N : News h₀ L s.heap [(D, oD)]) (hc : oD.cls = .type "list") (hd : oD.data = .seq us.toArray ku) (hi : i < us.length) (hz : us.length ≤ 100000)
    (h : ∀ h', Fr h₀ L h' m → h'.IsList D (us.set i v).toArray → (∀ b o, b ≠ D → s.heap.get? b = some o → h'.get? b = some o) → Q () { s with heap := h' }) :
    wpAny (model prog w) A (setItem (.ref D) (.int (i : Int) t) v) Q E s := by
  have hD := N _ (.head _)
  refine wpAny_setItem_list ⟨oD, hD.1, hc, ku, hd⟩ (by omega) (by omega) (by simp; omega) fun h' hl hs => ?_
  refine h h' (F.change hs hD.2.1 hD.2.2) ?_ (fun b o hb e => (hs.2 b hb).trans e)
  have e : us.toArray.setIfInBounds (i : Int).toNat v = (us.set i v).toArray := by
    rw [Int.toNat_natCast]; simp
  rw [← e]; exact hl
end
theorem ints_of_get : ∀ {us : List Value} {ds : List Int}, us.length = ds.length → (∀ (i : Nat) (d : Int), ds[i]? = some d → ∃ t, us[i]? = some (Value.int d t)) → IntsAre us ds
  | [], [], _, _ => .nil
  | [], _ :: _, h, _ => by cases h
  | _ :: _, [], h, _ => by cases h
  | u :: us, d :: ds, h, g => by
    obtain ⟨t, ht⟩ := g 0 d rfl
    simp at ht
    subst ht
    exact .cons _ _ (ints_of_get (by simpa using h) fun i e he => by simpa using g (i + 1) e (by simpa using he))
theorem lt_bits {a : Int} (ha : 0 ≤ a) : a < 2 ^ Builtin.Int.intBits a := by
  unfold Builtin.Int.intBits
  split
  · rename_i h
    have : a = 0 := by simpa using h
    subst this; decide
  · have := Nat.lt_log2_self (n := a.natAbs)
    have c1 : ((2 ^ (a.natAbs.log2 + 1) : Nat) : Int) = 2 ^ (a.natAbs.log2 + 1) := by push_cast; rfl
    omega
theorem digits_room {a : Int} {n len : Nat} (ha : 0 ≤ a) (hn : 0 < n) (hL : (Builtin.Int.intBits a + n - 1) / n = len) : a < 2 ^ ((len - 0) * n) := by
  have h1 := lt_bits ha
  have h2 : Builtin.Int.intBits a ≤ len * n := by
    have h3 := Nat.div_add_mod (Builtin.Int.intBits a + n - 1) n
    have h4 := Nat.mod_lt (Builtin.Int.intBits a + n - 1) hn
    rw [hL, Nat.mul_comm] at h3
    omega
  have h5 : (2 : Nat) ^ Builtin.Int.intBits a ≤ 2 ^ ((len - 0) * n) := Nat.pow_le_pow_right (by decide) h2
  have c1 : ((2 ^ Builtin.Int.intBits a : Nat) : Int) = 2 ^ Builtin.Int.intBits a := by push_cast; rfl
  have c2 : ((2 ^ ((len - 0) * n) : Nat) : Int) = 2 ^ ((len - 0) * n) := by push_cast; rfl
  omega
noncomputable def I2P (D : Addr) (len n L R : Nat) (x : Int) (us : List Value) (s s' : Shared) : Prop :=
  ∃ (h' : Heap) (tk : Nat) (us' : List Value) (ds : List Int), s' = { s with heap := h', toks := tk } ∧ (∀ b o, b ≠ D → s.heap.get? b = some o → h'.get? b = some o) ∧ h'.IsList D us'.toArray ∧ us'.length = len ∧ (∀ i, i < L ∨ R ≤ i → us'[i]? = us[i]?) ∧
    ds.length = R - L ∧ (∀ d ∈ ds, (0 : Int) ≤ d ∧ d < 2 ^ n) ∧ dval n ds = x ∧ ∀ i d, ds[i]? = some d → ∃ t, us'[L + i]? = some (.int d t)
theorem I2P.join {D : Addr} {len n L M R : Nat} {lo up : Int} {us us1 : List Value} {h1 h2 h3 : Heap} {k2 : Nat} {s : Shared} {ds1 ds2 : List Int} (hLM : L ≤ M) (hMR : M ≤ R)
    (hk1 : ∀ b o, b ≠ D → s.heap.get? b = some o → h1.get? b = some o) (o1 : ∀ i, i < L ∨ M ≤ i → us1[i]? = us[i]?) (l1 : ds1.length = M - L) (r1 : ∀ d ∈ ds1, (0 : Int) ≤ d ∧ d < 2 ^ n) (v1 : dval n ds1 = lo) (g1 : ∀ i d, ds1[i]? = some d → ∃ t, us1[L + i]? = some (.int d t))
    (hk12 : ∀ b o, b ≠ D → h1.get? b = some o → h2.get? b = some o) (hk2 : ∀ b o, b ≠ D → h2.get? b = some o → h3.get? b = some o) {us2 : List Value} (hl : h3.IsList D us2.toArray) (hlen : us2.length = len) (o2 : ∀ i, i < M ∨ R ≤ i → us2[i]? = us1[i]?) (l2 : ds2.length = R - M) (r2 : ∀ d ∈ ds2, (0 : Int) ≤ d ∧ d < 2 ^ n) (v2 : dval n ds2 = up) (g2 : ∀ i d, ds2[i]? = some d → ∃ t, us2[M + i]? = some (.int d t)) {x : Int} (hx : lo + up * 2 ^ ((M - L) * n) = x) :
    I2P D len n L R x us s { s with heap := h3, toks := k2 } := by
  refine ⟨h3, k2, us2, ds1 ++ ds2, rfl, fun b o hb e => hk2 b o hb (hk12 b o hb (hk1 b o hb e)), hl, hlen, fun i hi => ?_, by rw [List.length_append]; omega, fun d hd => ?_, by rw [dval_append, v1, v2, l1, hx], fun i d hd => ?_⟩
  · rw [o2 i (by omega), o1 i (by omega)]
  · rcases List.mem_append.mp hd with h | h
    · exact r1 d h
    · exact r2 d h
  · by_cases hi : i < ds1.length
    · rw [List.getElem?_append_left hi] at hd
      obtain ⟨t, ht⟩ := g1 i d hd
      exact ⟨t, by rw [o2 _ (by omega)]; exact ht⟩
    · rw [List.getElem?_append_right (by omega)] at hd
      obtain ⟨t, ht⟩ := g2 _ d hd
      exact ⟨t, by rw [show L + i = M + (i - ds1.length) by omega]; exact ht⟩
local macro_rules | `(tactic| walk_at "binaryOp BitXor int int") => `(tactic| (refine my_xor (by assumption) rfl ?_))
local macro_rules | `(tactic| walk_at "binaryOp Mult ref int") => `(tactic| (k_dflt (refine' my_mul0 ?F ?N ?l ?x ?z ?_; fail "m m_fn"; (case l => k_mem); (case x => assumption); (case z => omega)); intro D' h' F' N' l1; (try k_lt l1)))
local macro_rules | `(tactic| walk_at "binaryOp RShift int int") => `(tactic| (first | refine my_mid (by assumption) ?_ | refine my_shr ?_))
theorem i2d_inner (w : World) {name0 qual0 q9 nm bn : Str} {params0 prm : Arguments} {body0 bd : List Stmt} {scope0 sc : Scope} {dV0 kV0 doc0 pm0 cdv0 ct0 oc0 dc pmv ctv : Value} {an0 od0 : Option Addr} {osl0 : Array (Option Value)}
    {e1 : List Expr} {e2 : Option Expr} {e3 : List TypeParam} {e4 : Option Scope} {ps0 : Pos}
    (hK : (hd.heap_1 w.params).lookup 52 = some ⟨oc0, od0, .func (fnOf name0 qual0 params0 body0 scope0 dV0 kV0 doc0 pm0 an0 cdv0 ct0), osl0⟩)
    (hB : body0[1]? = some (.FunctionDef nm prm bd e1 e2 e3 sc e4 bn ps0))
    {B g : Heap} {D9 f9 c9 cn ci ca : Addr} {n len : Nat} {tn : Tok} {og oA o3 : Obj} {p2 : Program} {loose2 : List Str} {mean2 : ExcName → Option Value} {mg2 mb2 : Str → Option Value}
    (X0 : (hd.heap_1 w.params).In B) (T2 : Top p2 loose2 mean2 mg2 mb2 B) (gD0 : B.get? D9 = none) (hBg : ∀ b o, B.get? b = some o → g.get? b = some o)
    (gf : g.get? f9 = some (fnMade nm q9 prm bd sc [(Str.ofString "n", cn), (Str.ofString "inner", ci), (Str.ofString "a_digits", ca)] dc pmv c9 ctv))
    (gcode : ∀ h : Heap, (∀ b o, b ≠ D9 → g.get? b = some o → h.get? b = some o) → h.CodeRec (.ref c9) q9) (nf : f9 ≠ D9) (ni : ci ≠ D9) (na : ca ≠ D9) (nn : cn ≠ D9)
    (gin : g.get? ci = some og) (ga : g.get? ca = some oA) (gn : g.get? cn = some o3) (dg : og.data = .cell (some (.ref f9))) (dA : oA.data = .cell (some (.ref D9))) (b3' : o3.data = .cell (some (.int n tn)))
    (hlen : len ≤ 10) (hn : n ≤ 10000) :
    ∀ (kk L R : Nat) (x : Int) (tx tl tr : Tok) (us : List Value) (s1 : Shared) (A1 : Around), R - L = kk → L < R → R ≤ len → 0 ≤ x → x < 2 ^ ((R - L) * n) → us.length = len → (∀ b o, b ≠ D9 → g.get? b = some o → s1.heap.get? b = some o) → s1.heap.IsList D9 us.toArray → A1.handled = none → A1.depth + kk + 2 < recursionLimit → A1.units + 100 + 10 * kk < cLine →
        wpAny (model PySem.Challenge.rw_ik0159_01.row.prog w) A1 (call (.ref f9) [.int x tx, .int L tl, .int R tr]) (fun r s' => I2P D9 len n L R x us s1 s') (fun _ _ => False) s1 := by
  have X2 := X0
  revert X2
  k_fill
  intro X2
  clear X0
  k_dflt (refine' lookup_eq hK ?h2 ?_; (case h2 => k_is))
  intro hK2
  cases hK2
  cases hB
  intro kk
  induction kk using Nat.strongRecOn with
  | _ kk ih =>
    intro L R x tx tl tr us s1 A1 hk hLR hR hx0 hx1 hul hg hD hh hd1 hu1
    have hg0 : ∀ b o, B.get? b = some o → s1.heap.get? b = some o := fun b o e => hg b o (fun q => by rw [q, gD0] at e; cases e) (hBg b o e)
    have hg1 : ∀ b o, B.get? b = some o → (hideAll s1.heap [D9]).get? b = some o := fun b o e => hide_get (hg0 b o e) (fun hm => by rw [List.mem_singleton.mp hm, gD0] at e; cases e)
    have hgh : ∀ b o, b ≠ D9 → g.get? b = some o → (hideAll s1.heap [D9]).get? b = some o := fun b o hb e => hide_get (hg b o hb e) (fun hm => hb (List.mem_singleton.mp hm))
    obtain ⟨oD, hoD, hcD, ku, hdD⟩ := hD
    refine wpAny_call ?_
    refine pure_def_clos (binds := [(Str.ofString "x", .int x tx), (Str.ofString "L", .int L tl), (Str.ofString "R", .int R tr)]) (T2.nolimit.keeps hg0) (hg _ _ nf gf) (gcode _ hg) (by omega) (BindsTo.of_eq rfl) (locs rfl) (fun h1 F1 => ?_) rfl rfl rfl (by decide)
    have F2 := hide_fr [D9] F1
    have N2 := hide_news1 (ps := [D9]) F1 hoD (.head _) (News.nil (h₀ := hideAll s1.heap [D9]))
    have XS := X2.keeps hg1
    have TS := T2.keeps hg1
    have q1 := hgh _ _ ni gin
    have q2 := hgh _ _ na ga
    have q3 := hgh _ _ nn gn
    have qf := hgh _ _ nf gf
    clear F1
    show wpAny _ _ _ _ _ _
    k_fold
    by_cases hone : R = L + 1
    · subst hone
      (repeat' ( (fail_if_success (with_reducible show PySem.wpAny _ _ (PySem.truthy (PySem.Value.ref _)) _ _ _)); (fail_if_success (with_reducible show PySem.wpAny _ _ (PyProof.Rows.subscriptTail _ _ (PySem.Value.ref _) _) _ _ _)); (fail_if_success (with_reducible show PySem.wpAny _ _ (PySem.setItem (PySem.Value.ref _) _ _) _ _ _)); (fail_if_success (with_reducible show PySem.wpAny _ _ (PySem.compareOp _ (PySem.Value.ref _) (PySem.Value.ref _)) _ _ _)); (fail_if_success (with_reducible show PySem.wpAny _ _ (PySem.call (PySem.Value.builtin "len") _) _ _ _)); (fail_if_success (with_reducible show PySem.wpAny _ _ (PySem.call (PySem.Value.builtin "list.reverse") _) _ _ _)); (( (fail_if_success (with_reducible show PySem.wpAny _ _ (PySem.exec (PySem.Stmt.For _ _ _ _ _) _) _ _ _)); (fail_if_success (with_reducible show PySem.wpAny _ _ (PySem.exec (PySem.Stmt.While _ _ _ _) _) _ _ _)); first | (k_unfold; (try dsimp only)) | (first | ((with_reducible show PySem.wpAny _ _ (PySem.execs _ _) _ _ _); k_fold) | walk1 | (dsimp only; walk1)) | fail "no step"))))
      · rename News _ _ _ _ => Nc
        rename Fr _ _ _ _ => Fc
        refine my_setitem Fc Nc hcD hdD (by omega) (by omega) fun h' F3 hl3 hk3 => ?_
        have N3 : News (hideAll s1.heap [D9]) s1.heap.objs.size h' [] := News.nil
        clear Nc Fc
        (repeat' ( (fail_if_success (with_reducible show PySem.wpAny _ _ (PySem.truthy (PySem.Value.ref _)) _ _ _)); (fail_if_success (with_reducible show PySem.wpAny _ _ (PyProof.Rows.subscriptTail _ _ (PySem.Value.ref _) _) _ _ _)); (fail_if_success (with_reducible show PySem.wpAny _ _ (PySem.setItem (PySem.Value.ref _) _ _) _ _ _)); (fail_if_success (with_reducible show PySem.wpAny _ _ (PySem.compareOp _ (PySem.Value.ref _) (PySem.Value.ref _)) _ _ _)); (fail_if_success (with_reducible show PySem.wpAny _ _ (PySem.call (PySem.Value.builtin "len") _) _ _ _)); (fail_if_success (with_reducible show PySem.wpAny _ _ (PySem.call (PySem.Value.builtin "list.reverse") _) _ _ _)); (( (fail_if_success (with_reducible show PySem.wpAny _ _ (PySem.exec (PySem.Stmt.For _ _ _ _ _) _) _ _ _)); (fail_if_success (with_reducible show PySem.wpAny _ _ (PySem.exec (PySem.Stmt.While _ _ _ _) _) _ _ _)); first | (k_unfold; (try dsimp only)) | (first | ((with_reducible show PySem.wpAny _ _ (PySem.execs _ _) _ _ _); k_fold) | walk1 | (dsimp only; walk1)) | fail "no step"))))
        dsimp only
        have e1 : L + 1 - L = 1 := by omega
        rw [e1, Nat.one_mul] at hx1
        refine ⟨h', _, us.set L (.int x tx), [x], rfl, fun b o hb e => F3.keep b o (hide_get e (fun hm => hb (List.mem_singleton.mp hm))), hl3, by rw [List.length_set]; exact hul, fun i hi => ?_, by rw [e1]; rfl, fun d hd => by rw [List.mem_singleton.mp hd]; exact ⟨hx0, hx1⟩, by simp [dval], fun i d hd => ?_⟩
        · exact List.getElem?_set_ne (by omega)
        · cases i with
          | zero =>
            cases hd
            exact ⟨tx, by rw [Nat.add_zero, List.getElem?_set_self (by omega)]⟩
          | succ i => cases hd
      · exfalso; omega
    · obtain ⟨M, hmid⟩ : ∃ M, (L + R) / 2 = M := ⟨_, rfl⟩
      obtain ⟨q, hq⟩ : ∃ q, M = L + q := ⟨M - L, by omega⟩
      obtain ⟨f1, f2, f3, f4, f5, hML, f7⟩ := half_facts hk hLR hone hmid hq
      have hp : (0 : Int) < 2 ^ (q * n) := Int.pow_pos (by decide)
      have hz1 : (R - L) * n ≤ 10 * 10000 := Nat.mul_le_mul (by omega) hn
      have hz2 : q * n ≤ 10 * 10000 := Nat.mul_le_mul (by omega) hn
      have hBu : Bd ((R - L) * n) (x / 2 ^ (q * n)) := (Bd.of_lt hx0 hx1).div hx0 (Int.le_of_lt hp)
      have hlo : x % 2 ^ (q * n) < 2 ^ ((M - L) * n) := by rw [hML]; exact Int.emod_lt_of_pos _ hp
      have hup : x / 2 ^ (q * n) < 2 ^ ((R - M) * n) := by
        refine Int.ediv_lt_of_lt_mul hp ?_
        rw [← Int.pow_add, ← Nat.add_mul, show R - M + q = R - L from f7.trans hk.symm]
        exact hx1
      have hxe : x % 2 ^ (q * n) + x / 2 ^ (q * n) * 2 ^ ((M - L) * n) = x := by
        rw [hML, Int.mul_comm (x / _)]; exact Int.emod_add_mul_ediv x _
      have hDs : s1.heap.objs.size ≠ D9 := Nat.ne_of_gt (Heap.lt_size hoD)
      have hDn : (hideAll s1.heap [D9]).get? D9 = none := hideAll_none [D9] (.head _)
      (repeat' ( (fail_if_success (with_reducible show PySem.wpAny _ _ (PySem.truthy (PySem.Value.ref _)) _ _ _)); (fail_if_success (with_reducible show PySem.wpAny _ _ (PyProof.Rows.subscriptTail _ _ (PySem.Value.ref _) _) _ _ _)); (fail_if_success (with_reducible show PySem.wpAny _ _ (PySem.setItem (PySem.Value.ref _) _ _) _ _ _)); (fail_if_success (with_reducible show PySem.wpAny _ _ (PySem.compareOp _ (PySem.Value.ref _) (PySem.Value.ref _)) _ _ _)); (fail_if_success (with_reducible show PySem.wpAny _ _ (PySem.call (PySem.Value.builtin "len") _) _ _ _)); (fail_if_success (with_reducible show PySem.wpAny _ _ (PySem.call (PySem.Value.builtin "list.reverse") _) _ _ _)); (( (fail_if_success (with_reducible show PySem.wpAny _ _ (PySem.exec (PySem.Stmt.For _ _ _ _ _) _) _ _ _)); (fail_if_success (with_reducible show PySem.wpAny _ _ (PySem.exec (PySem.Stmt.While _ _ _ _) _) _ _ _)); first | (k_unfold; (try dsimp only)) | (first | ((with_reducible show PySem.wpAny _ _ (PySem.execs _ _) _ _ _); k_fold) | walk1 | (dsimp only; walk1)) | fail "no step"))))
      · exfalso; omega
      · rename News _ _ _ _ => Nc
        rename Fr _ _ _ _ => Fc
        refine wpAny_mono (ih (M - L) f5 L M _ _ _ _ us _ _ rfl f3 (Nat.le_trans (Nat.le_of_lt f2) hR) (Int.emod_nonneg _ (Int.ne_of_gt hp)) hlo hul (fun b o hb e => Fc.keep b o (hgh b o hb e)) ⟨oD, Nc.get (.head _), hcD, ku, hdD⟩ hh (by show A1.depth + 1 + _ + 2 < _; omega) (by show A1.units + 3 + 100 + _ < _; omega)) (fun v s' z => ?_) fun _ _ e => e.elim
        obtain ⟨h', tk', us1, ds1, rfl, hk1, ⟨oD1, hoD1, hcD1, ku1, hdD1⟩, hlen1, oo1, ld1, r1, v1, g1⟩ := z
        have Fd : Fr (hideAll s1.heap [D9]) s1.heap.objs.size h' _ := ⟨Fc.ns.at' fun o e => hk1 _ o hDs e, fun b o e => hk1 b o (fun q => by rw [q, hDn] at e; cases e) (Fc.keep b o e), Fc.above⟩
        have Nd : News (hideAll s1.heap [D9]) s1.heap.objs.size h' [(D9, oD1)] := fun p hp => by
          rw [List.mem_singleton.mp hp]; exact ⟨hoD1, hDs.symm, hDn⟩
        have keep1 : ∀ b o, b ≠ D9 → s1.heap.get? b = some o → h'.get? b = some o := fun b o hb e => hk1 b o hb (Fc.keep b o (hide_get e (fun hm => hb (List.mem_singleton.mp hm))))
        clear Fc Nc hk1
        (repeat' ( (fail_if_success (with_reducible show PySem.wpAny _ _ (PySem.truthy (PySem.Value.ref _)) _ _ _)); (fail_if_success (with_reducible show PySem.wpAny _ _ (PyProof.Rows.subscriptTail _ _ (PySem.Value.ref _) _) _ _ _)); (fail_if_success (with_reducible show PySem.wpAny _ _ (PySem.setItem (PySem.Value.ref _) _ _) _ _ _)); (fail_if_success (with_reducible show PySem.wpAny _ _ (PySem.compareOp _ (PySem.Value.ref _) (PySem.Value.ref _)) _ _ _)); (fail_if_success (with_reducible show PySem.wpAny _ _ (PySem.call (PySem.Value.builtin "len") _) _ _ _)); (fail_if_success (with_reducible show PySem.wpAny _ _ (PySem.call (PySem.Value.builtin "list.reverse") _) _ _ _)); (( (fail_if_success (with_reducible show PySem.wpAny _ _ (PySem.exec (PySem.Stmt.For _ _ _ _ _) _) _ _ _)); (fail_if_success (with_reducible show PySem.wpAny _ _ (PySem.exec (PySem.Stmt.While _ _ _ _) _) _ _ _)); first | (k_unfold; (try dsimp only)) | (first | ((with_reducible show PySem.wpAny _ _ (PySem.execs _ _) _ _ _); k_fold) | walk1 | (dsimp only; walk1)) | fail "no step"))))
        rename News _ _ _ _ => Ne
        rename Fr _ _ _ _ => Fe
        refine wpAny_mono (ih (R - M) f4 M R _ _ _ _ us1 _ _ rfl f2 hR (Int.ediv_nonneg hx0 (Int.le_of_lt hp)) hup hlen1 (fun b o hb e => Fe.keep b o (hgh b o hb e)) ⟨oD1, Ne.get (.head _), hcD1, ku1, hdD1⟩ hh (by show A1.depth + 1 + _ + 2 < _; omega) (by show A1.units + 3 + 100 + _ < _; omega)) (fun v s' z => ?_) fun _ _ e => e.elim
        obtain ⟨h3, tk3, us2, ds2, rfl, hk2, hl2, hlen2, oo2, ld2, r2, v2, g2⟩ := z
        have N3 : News (hideAll s1.heap [D9]) s1.heap.objs.size h3 [] := News.nil
        have F3 : Fr (hideAll s1.heap [D9]) s1.heap.objs.size h3 _ := ⟨Fe.ns.at' fun o e => hk2 _ o hDs e, fun b o e => hk2 b o (fun q => by rw [q, hDn] at e; cases e) (Fe.keep b o e), Fe.above⟩
        clear Fe Ne
        (repeat' ( (fail_if_success (with_reducible show PySem.wpAny _ _ (PySem.truthy (PySem.Value.ref _)) _ _ _)); (fail_if_success (with_reducible show PySem.wpAny _ _ (PyProof.Rows.subscriptTail _ _ (PySem.Value.ref _) _) _ _ _)); (fail_if_success (with_reducible show PySem.wpAny _ _ (PySem.setItem (PySem.Value.ref _) _ _) _ _ _)); (fail_if_success (with_reducible show PySem.wpAny _ _ (PySem.compareOp _ (PySem.Value.ref _) (PySem.Value.ref _)) _ _ _)); (fail_if_success (with_reducible show PySem.wpAny _ _ (PySem.call (PySem.Value.builtin "len") _) _ _ _)); (fail_if_success (with_reducible show PySem.wpAny _ _ (PySem.call (PySem.Value.builtin "list.reverse") _) _ _ _)); (( (fail_if_success (with_reducible show PySem.wpAny _ _ (PySem.exec (PySem.Stmt.For _ _ _ _ _) _) _ _ _)); (fail_if_success (with_reducible show PySem.wpAny _ _ (PySem.exec (PySem.Stmt.While _ _ _ _) _) _ _ _)); first | (k_unfold; (try dsimp only)) | (first | ((with_reducible show PySem.wpAny _ _ (PySem.execs _ _) _ _ _); k_fold) | walk1 | (dsimp only; walk1)) | fail "no step"))))
        exact I2P.join (Nat.le_of_lt f3) (Nat.le_of_lt f2) keep1 oo1 ld1 r1 v1 g1 (fun _ _ _ e => e) hk2 hl2 hlen2 oo2 ld2 r2 v2 g2 hxe
theorem i2d_spec (w : World) (a : Int) (n len : Nat) (ta tn : Tok) (ps : Array Value) (s : Shared) (I : Inv w s.heap) (ht : s.heap.get? 47 = some (tabObj ps)) (hps : TabOk s.heap 33 4 (Str.ofString "_int2digits.<locals>.inner") ps)
    (ha : 0 ≤ a) (hn0 : 0 < n) (hlen : len ≤ 10) (hn : n ≤ 10000) (hL : (Builtin.Int.intBits a + n - 1) / n = len)
    (dp un : Nat) (fr : Option (List Env)) (gd : Option (List Code)) (E : Value → Shared → Prop) (hdp : dp + 60 < recursionLimit) (hun : un + 800 < cLine) :
    wpAny (model PySem.Challenge.rw_ik0159_01.row.prog w) (Ar dp un fr gd) (call (.ref 52) [.int a ta, .int n tn])
      (TabDone 47 33 4 (Str.ofString "_int2digits.<locals>.inner") s (fun r h => ∃ b vs ds, r = .ref b ∧ s.heap.get? b = none ∧ h.IsList b vs.toArray ∧ IntsAre vs ds ∧ ds.length = len ∧ (∀ d ∈ ds, 0 ≤ d ∧ d < 2 ^ n) ∧ dval n ds = a)) E s := by
  have X := Inv.X I
  have I2 : Inv w (hideAll s.heap [47]) := I.hide [47] (by intro P hP; rw [List.mem_singleton.mp hP]; rfl) (by intro P hP; rw [List.mem_singleton.mp hP]; exact ⟨_, ht, _, rfl, .inl rfl⟩)
  revert X
  k_fill
  intro X
  (refine wpAny_call ?_)
  obtain ⟨p, loose, mean, mg, mb, T⟩ := Inv.T I
  k_dflt (refine' pure_def_cells (binds := [(Str.ofString "a", .int a ta), (Str.ofString "n", .int n tn)]) X T ?ho ?hcd ?hroom ?hbind ?hkind ?hnd ?_ ?c2 ?c3 ?c4; (case ho => k_is); (case hcd => k_is); (case hroom => (show dp < _; omega)); (case hbind => exact BindsTo.of_eq rfl); (case hkind => exact rfl); (case hnd => decide +kernel); (case c2 => exact rfl); (case c3 => exact rfl); (case c4 => exact rfl))
  intro h₁ tk0 cells F N Y
  k_cells Y
  rename_i o1 o2 o3 b1 b2 b3
  (try dsimp only)
  show wpAny _ _ _ _ _ _
  k_fold
  have F2 := hide_fr [47] F
  have N2 := hide_news1 (ps := [47]) F ht (.head _) (hide_news (ps := [47]) N)
  have C2 : CodeHd (hideAll s.heap [47]) 51 47 := codeHd_of_K I2.X (by kernel_rfl)
  have hlt : 47 < s.heap.objs.size := Heap.lt_size ht
  have hx : (((Builtin.Int.intBits a : Nat) : Int) + (n : Int) - 1).fdiv (n : Int) = (len : Nat) := by
    rw [Int.fdiv_eq_ediv_of_nonneg _ (by omega), ← hL]
    have : ((Builtin.Int.intBits a : Nat) : Int) + (n : Int) - 1 = ((Builtin.Int.intBits a + n - 1 : Nat) : Int) := by omega
    rw [this]; push_cast; rfl
  clear F N X T
  have I3 := I2
  obtain ⟨X2, p2, loose2, mean2, mg2, mb2, T2⟩ := I2
  rcases hps with rfl | ⟨c0, oc0, vs0, t0, rfl, e0, hd0, hv0⟩
  · (repeat' ( (fail_if_success (with_reducible show PySem.wpAny _ _ (PySem.truthy (PySem.Value.ref _)) _ _ _)); (fail_if_success (with_reducible show PySem.wpAny _ _ (PyProof.Rows.subscriptTail _ _ (PySem.Value.ref _) _) _ _ _)); (fail_if_success (with_reducible show PySem.wpAny _ _ (PySem.setItem (PySem.Value.ref _) _ _) _ _ _)); (fail_if_success (with_reducible show PySem.wpAny _ _ (PySem.compareOp _ (PySem.Value.ref _) (PySem.Value.ref _)) _ _ _)); (fail_if_success (with_reducible show PySem.wpAny _ _ (PySem.call (PySem.Value.builtin "len") _) _ _ _)); (fail_if_success (with_reducible show PySem.wpAny _ _ (PySem.call (PySem.Value.builtin "list.reverse") _) _ _ _)); (( (fail_if_success (with_reducible show PySem.wpAny _ _ (PySem.exec (PySem.Stmt.For _ _ _ _ _) _) _ _ _)); (fail_if_success (with_reducible show PySem.wpAny _ _ (PySem.exec (PySem.Stmt.While _ _ _ _) _) _ _ _)); first | (k_unfold; (try dsimp only)) | (first | ((with_reducible show PySem.wpAny _ _ (PySem.execs _ _) _ _ _); k_fold) | walk1 | (dsimp only; walk1)) | fail "no step"))))
    rename News _ _ _ _ => N9
    rename Fr _ _ _ _ => F9
    rename_i l9 _ _ D9 _ _ _ oA dA f9 c9 oc9 _ _ _ _ _ _ _ _ lt1 lt2 g og dg anz
    have gf := N9.get (.head _)
    have gD0 := (N9 _ mem2).2.2
    have gDl := N9.get mem2
    have gc := N9.get mem1
    have gin := N9.get mem5
    have ga := N9.get mem6
    have gn := N9.get mem7
    dsimp only at gf gD0 gDl gc gin ga gn
    have nf : f9 ≠ D9 := Nat.ne_of_gt (Nat.lt_trans lt1.1 lt2)
    have ni : s.heap.objs.size + 1 + 1 + 1 ≠ D9 := by omega
    have na : s.heap.objs.size + 1 + 1 ≠ D9 := by omega
    have nn : s.heap.objs.size + 1 ≠ D9 := by omega
    have g47 := N9.get mem4
    have n47 : (47 : Nat) ≠ D9 := by omega
    have nc : c9 ≠ D9 := Nat.ne_of_gt lt1.1
    have gDs : s.heap.get? D9 = none := by
      cases q : s.heap.get? D9 with
      | none => rfl
      | some o => rw [hide_get q (fun hm => n47 (List.mem_singleton.mp hm).symm)] at gD0; cases gD0
    have b3' : o3.data = .cell (some (.int n tn)) := b3
    have gcode : ∀ h : Heap, (∀ b o, b ≠ D9 → g.get? b = some o → h.get? b = some o) → h.CodeRec (.ref c9) (Str.ofString "_int2digits.<locals>.inner") := fun h hk => ⟨c9, oc9, _, _, rfl, hk _ _ (Nat.ne_of_gt lt1.1) gc, by assumption, by assumption⟩
    have inner := i2d_inner w (len := len) (by k_is) (by rfl) X2 T2 gD0 F9.keep gf gcode nf ni na nn gin ga gn dg dA b3' hlen hn
    · refine len_list ⟨_, gDl, rfl, _, rfl⟩ (by simp; omega) ?_
      have hvl : (((List.replicate len (Value.int 0 tk0)).toArray.size : Nat) : Int) = ((len : Nat) : Int) := by simp
      rw [hvl]
      (repeat' ( (fail_if_success (with_reducible show PySem.wpAny _ _ (PySem.truthy (PySem.Value.ref _)) _ _ _)); (fail_if_success (with_reducible show PySem.wpAny _ _ (PyProof.Rows.subscriptTail _ _ (PySem.Value.ref _) _) _ _ _)); (fail_if_success (with_reducible show PySem.wpAny _ _ (PySem.setItem (PySem.Value.ref _) _ _) _ _ _)); (fail_if_success (with_reducible show PySem.wpAny _ _ (PySem.compareOp _ (PySem.Value.ref _) (PySem.Value.ref _)) _ _ _)); (fail_if_success (with_reducible show PySem.wpAny _ _ (PySem.call (PySem.Value.builtin "len") _) _ _ _)); (fail_if_success (with_reducible show PySem.wpAny _ _ (PySem.call (PySem.Value.builtin "list.reverse") _) _ _ _)); (( (fail_if_success (with_reducible show PySem.wpAny _ _ (PySem.exec (PySem.Stmt.For _ _ _ _ _) _) _ _ _)); (fail_if_success (with_reducible show PySem.wpAny _ _ (PySem.exec (PySem.Stmt.While _ _ _ _) _) _ _ _)); first | (k_unfold; (try dsimp only)) | (first | ((with_reducible show PySem.wpAny _ _ (PySem.execs _ _) _ _ _); k_fold) | walk1 | (dsimp only; walk1)) | fail "no step"))))
      have hl0 : 0 < len := by
        rw [← hL]
        refine Nat.div_pos ?_ hn0
        have : 0 < Builtin.Int.intBits a := by
          unfold Builtin.Int.intBits
          split
          · rename_i h0; exact absurd (by simpa using h0) anz
          · omega
        omega
      have hax := digits_room ha hn0 hL
      refine wpAny_mono (inner len 0 len a _ _ _ (List.replicate len (Value.int 0 tk0)) _ _ rfl hl0 (Nat.le_refl _) ha hax (by simp) (fun _ _ _ e => e) ⟨_, gDl, rfl, _, rfl⟩ rfl (by show (Ar _ _ _ _).depth + 1 + _ + 2 < _; dsimp only [Ar]; omega) (by show (Ar _ _ _ _).units + 3 + 100 + _ < _; dsimp only [Ar]; omega)) (fun v s' z => ?_) fun _ _ e => e.elim
      obtain ⟨h', tk', us1, ds1, rfl, hk1, hl1, hlen1, oo1, ld1, r1, v1, g1⟩ := z
      have hDs : s.heap.objs.size ≠ D9 := by omega
      have Fd : Fr (hideAll s.heap [47]) s.heap.objs.size h' _ := ⟨F9.ns.at' fun o e => hk1 _ o hDs e, fun b o e => hk1 b o (fun q => by rw [q, gD0] at e; cases e) (F9.keep b o e), F9.above⟩
      have Nd : News (hideAll s.heap [47]) s.heap.objs.size h' [(s.heap.objs.size + 1 + 1, oA)] := fun p hp => by
        rw [List.mem_singleton.mp hp]
        have := N9 _ mem6
        exact ⟨hk1 _ _ na this.1, this.2⟩
      clear F9
      (repeat' ( (fail_if_success (with_reducible show PySem.wpAny _ _ (PySem.truthy (PySem.Value.ref _)) _ _ _)); (fail_if_success (with_reducible show PySem.wpAny _ _ (PyProof.Rows.subscriptTail _ _ (PySem.Value.ref _) _) _ _ _)); (fail_if_success (with_reducible show PySem.wpAny _ _ (PySem.setItem (PySem.Value.ref _) _ _) _ _ _)); (fail_if_success (with_reducible show PySem.wpAny _ _ (PySem.compareOp _ (PySem.Value.ref _) (PySem.Value.ref _)) _ _ _)); (fail_if_success (with_reducible show PySem.wpAny _ _ (PySem.call (PySem.Value.builtin "len") _) _ _ _)); (fail_if_success (with_reducible show PySem.wpAny _ _ (PySem.call (PySem.Value.builtin "list.reverse") _) _ _ _)); (( (fail_if_success (with_reducible show PySem.wpAny _ _ (PySem.exec (PySem.Stmt.For _ _ _ _ _) _) _ _ _)); (fail_if_success (with_reducible show PySem.wpAny _ _ (PySem.exec (PySem.Stmt.While _ _ _ _) _) _ _ _)); first | (k_unfold; (try dsimp only)) | (first | ((with_reducible show PySem.wpAny _ _ (PySem.execs _ _) _ _ _); k_fold) | walk1 | (dsimp only; walk1)) | fail "no step"))))
      dsimp only
      exact ⟨h', _, _, rfl, fun b o hb e => Fd.keep _ _ (hide_get e (fun hm => hb (List.mem_singleton.mp hm))), hk1 _ _ n47 g47, .inr ⟨c9, oc9, _, _, rfl, hk1 _ _ nc gc, by assumption, by assumption⟩, D9, us1, ds1, rfl, gDs, hl1, ints_of_get (by omega) (fun i d hd => by have := g1 i d hd; rwa [Nat.zero_add] at this), by omega, r1, v1⟩
    · rename News _ _ _ _ => N9
      rename Fr _ _ _ _ => F9
      rename_i l9 _ _ D9 _ _ _ oA dA f9 c9 oc9 _ _ _ _ _ _ _ _ lt1 lt2 g og dg anz
      rename a = 0 => az
      subst az
      have gD0 := (N9 _ mem2).2.2
      have gDl := N9.get mem2
      have n47 : (47 : Nat) ≠ D9 := by omega
      have gDs : s.heap.get? D9 = none := by
        cases q : s.heap.get? D9 with
        | none => rfl
        | some o => rw [hide_get q (fun hm => n47 (List.mem_singleton.mp hm).symm)] at gD0; cases gD0
      have hl0 : len = 0 := by
        rw [← hL, show Builtin.Int.intBits 0 = 0 by decide]; exact Nat.div_eq_of_lt (by omega)
      subst hl0
      dsimp only
      exact ⟨g, _, _, rfl, fun b o hb e => F9.keep _ _ (hide_get e (fun hm => hb (List.mem_singleton.mp hm))), N9.get mem4, .inr ⟨c9, oc9, _, _, rfl, N9.get mem1, by assumption, by assumption⟩, D9, [], [], rfl, gDs, ⟨_, gDl, rfl, _, rfl⟩, .nil, rfl, (fun _ h => nomatch h), rfl⟩
  · (repeat' ( (fail_if_success (with_reducible show PySem.wpAny _ _ (PySem.truthy (PySem.Value.ref _)) _ _ _)); (fail_if_success (with_reducible show PySem.wpAny _ _ (PyProof.Rows.subscriptTail _ _ (PySem.Value.ref _) _) _ _ _)); (fail_if_success (with_reducible show PySem.wpAny _ _ (PySem.setItem (PySem.Value.ref _) _ _) _ _ _)); (fail_if_success (with_reducible show PySem.wpAny _ _ (PySem.compareOp _ (PySem.Value.ref _) (PySem.Value.ref _)) _ _ _)); (fail_if_success (with_reducible show PySem.wpAny _ _ (PySem.call (PySem.Value.builtin "len") _) _ _ _)); (fail_if_success (with_reducible show PySem.wpAny _ _ (PySem.call (PySem.Value.builtin "list.reverse") _) _ _ _)); (( (fail_if_success (with_reducible show PySem.wpAny _ _ (PySem.exec (PySem.Stmt.For _ _ _ _ _) _) _ _ _)); (fail_if_success (with_reducible show PySem.wpAny _ _ (PySem.exec (PySem.Stmt.While _ _ _ _) _) _ _ _)); first | (k_unfold; (try dsimp only)) | (first | ((with_reducible show PySem.wpAny _ _ (PySem.execs _ _) _ _ _); k_fold) | walk1 | (dsimp only; walk1)) | fail "no step"))))
    rename News _ _ _ _ => N9
    rename Fr _ _ _ _ => F9
    rename_i l9 _ _ D9 _ _ _ oA dA f9 _ _ _ _ lt2 g og dg anz
    have gf := N9.get (.head _)
    have gD0 := (N9 _ mem1).2.2
    have gDl := N9.get mem1
    have gc := F9.keep _ _ (hide_get e0 (fun hm => by rw [List.mem_singleton.mp hm, ht] at e0; cases e0; cases hd0; cases hv0))
    have gin := N9.get mem4
    have ga := N9.get mem5
    have gn := N9.get mem6
    dsimp only at gf gD0 gDl gc gin ga gn
    have nf : f9 ≠ D9 := Nat.ne_of_gt lt2.1
    have ni : s.heap.objs.size + 1 + 1 + 1 ≠ D9 := by omega
    have na : s.heap.objs.size + 1 + 1 ≠ D9 := by omega
    have nn : s.heap.objs.size + 1 ≠ D9 := by omega
    have g47 := N9.get mem3
    have n47 : (47 : Nat) ≠ D9 := by omega
    have gDs : s.heap.get? D9 = none := by
      cases q : s.heap.get? D9 with
      | none => rfl
      | some o => rw [hide_get q (fun hm => n47 (List.mem_singleton.mp hm).symm)] at gD0; cases gD0
    have nc : c0 ≠ D9 := fun q => by rw [q] at e0; rw [gDs] at e0; cases e0
    have b3' : o3.data = .cell (some (.int n tn)) := b3
    have gcode : ∀ h : Heap, (∀ b o, b ≠ D9 → g.get? b = some o → h.get? b = some o) → h.CodeRec (.ref c0) (Str.ofString "_int2digits.<locals>.inner") := fun h hk => ⟨c0, oc0, _, _, rfl, hk _ _ nc gc, hd0, hv0⟩
    have inner := i2d_inner w (len := len) (by k_is) (by rfl) X2 T2 gD0 F9.keep gf gcode nf ni na nn gin ga gn dg dA b3' hlen hn
    · refine len_list ⟨_, gDl, rfl, _, rfl⟩ (by simp; omega) ?_
      have hvl : (((List.replicate len (Value.int 0 tk0)).toArray.size : Nat) : Int) = ((len : Nat) : Int) := by simp
      rw [hvl]
      (repeat' ( (fail_if_success (with_reducible show PySem.wpAny _ _ (PySem.truthy (PySem.Value.ref _)) _ _ _)); (fail_if_success (with_reducible show PySem.wpAny _ _ (PyProof.Rows.subscriptTail _ _ (PySem.Value.ref _) _) _ _ _)); (fail_if_success (with_reducible show PySem.wpAny _ _ (PySem.setItem (PySem.Value.ref _) _ _) _ _ _)); (fail_if_success (with_reducible show PySem.wpAny _ _ (PySem.compareOp _ (PySem.Value.ref _) (PySem.Value.ref _)) _ _ _)); (fail_if_success (with_reducible show PySem.wpAny _ _ (PySem.call (PySem.Value.builtin "len") _) _ _ _)); (fail_if_success (with_reducible show PySem.wpAny _ _ (PySem.call (PySem.Value.builtin "list.reverse") _) _ _ _)); (( (fail_if_success (with_reducible show PySem.wpAny _ _ (PySem.exec (PySem.Stmt.For _ _ _ _ _) _) _ _ _)); (fail_if_success (with_reducible show PySem.wpAny _ _ (PySem.exec (PySem.Stmt.While _ _ _ _) _) _ _ _)); first | (k_unfold; (try dsimp only)) | (first | ((with_reducible show PySem.wpAny _ _ (PySem.execs _ _) _ _ _); k_fold) | walk1 | (dsimp only; walk1)) | fail "no step"))))
      have hl0 : 0 < len := by
        rw [← hL]
        refine Nat.div_pos ?_ hn0
        have : 0 < Builtin.Int.intBits a := by
          unfold Builtin.Int.intBits
          split
          · rename_i h0; exact absurd (by simpa using h0) anz
          · omega
        omega
      have hax := digits_room ha hn0 hL
      refine wpAny_mono (inner len 0 len a _ _ _ (List.replicate len (Value.int 0 tk0)) _ _ rfl hl0 (Nat.le_refl _) ha hax (by simp) (fun _ _ _ e => e) ⟨_, gDl, rfl, _, rfl⟩ rfl (by show (Ar _ _ _ _).depth + 1 + _ + 2 < _; dsimp only [Ar]; omega) (by show (Ar _ _ _ _).units + 3 + 100 + _ < _; dsimp only [Ar]; omega)) (fun v s' z => ?_) fun _ _ e => e.elim
      obtain ⟨h', tk', us1, ds1, rfl, hk1, hl1, hlen1, oo1, ld1, r1, v1, g1⟩ := z
      have hDs : s.heap.objs.size ≠ D9 := by omega
      have Fd : Fr (hideAll s.heap [47]) s.heap.objs.size h' _ := ⟨F9.ns.at' fun o e => hk1 _ o hDs e, fun b o e => hk1 b o (fun q => by rw [q, gD0] at e; cases e) (F9.keep b o e), F9.above⟩
      have Nd : News (hideAll s.heap [47]) s.heap.objs.size h' [(s.heap.objs.size + 1 + 1, oA)] := fun p hp => by
        rw [List.mem_singleton.mp hp]
        have := N9 _ mem5
        exact ⟨hk1 _ _ na this.1, this.2⟩
      clear F9
      (repeat' ( (fail_if_success (with_reducible show PySem.wpAny _ _ (PySem.truthy (PySem.Value.ref _)) _ _ _)); (fail_if_success (with_reducible show PySem.wpAny _ _ (PyProof.Rows.subscriptTail _ _ (PySem.Value.ref _) _) _ _ _)); (fail_if_success (with_reducible show PySem.wpAny _ _ (PySem.setItem (PySem.Value.ref _) _ _) _ _ _)); (fail_if_success (with_reducible show PySem.wpAny _ _ (PySem.compareOp _ (PySem.Value.ref _) (PySem.Value.ref _)) _ _ _)); (fail_if_success (with_reducible show PySem.wpAny _ _ (PySem.call (PySem.Value.builtin "len") _) _ _ _)); (fail_if_success (with_reducible show PySem.wpAny _ _ (PySem.call (PySem.Value.builtin "list.reverse") _) _ _ _)); (( (fail_if_success (with_reducible show PySem.wpAny _ _ (PySem.exec (PySem.Stmt.For _ _ _ _ _) _) _ _ _)); (fail_if_success (with_reducible show PySem.wpAny _ _ (PySem.exec (PySem.Stmt.While _ _ _ _) _) _ _ _)); first | (k_unfold; (try dsimp only)) | (first | ((with_reducible show PySem.wpAny _ _ (PySem.execs _ _) _ _ _); k_fold) | walk1 | (dsimp only; walk1)) | fail "no step"))))
      dsimp only
      exact ⟨h', _, _, rfl, fun b o hb e => Fd.keep _ _ (hide_get e (fun hm => hb (List.mem_singleton.mp hm))), hk1 _ _ n47 g47, .inr ⟨c0, oc0, _, _, rfl, hk1 _ _ nc gc, hd0, hv0⟩, D9, us1, ds1, rfl, gDs, hl1, ints_of_get (by omega) (fun i d hd => by have := g1 i d hd; rwa [Nat.zero_add] at this), by omega, r1, v1⟩
    · rename News _ _ _ _ => N9
      rename Fr _ _ _ _ => F9
      rename_i l9 _ _ D9 _ _ _ oA dA f9 _ _ _ _ lt2 g og dg anz
      rename a = 0 => az
      subst az
      have gD0 := (N9 _ mem1).2.2
      have gDl := N9.get mem1
      have n47 : (47 : Nat) ≠ D9 := by omega
      have gDs : s.heap.get? D9 = none := by
        cases q : s.heap.get? D9 with
        | none => rfl
        | some o => rw [hide_get q (fun hm => n47 (List.mem_singleton.mp hm).symm)] at gD0; cases gD0
      have hl0 : len = 0 := by
        rw [← hL, show Builtin.Int.intBits 0 = 0 by decide]; exact Nat.div_eq_of_lt (by omega)
      subst hl0
      dsimp only
      exact ⟨g, _, _, rfl, fun b o hb e => F9.keep _ _ (hide_get e (fun hm => hb (List.mem_singleton.mp hm))), N9.get mem3, .inr ⟨c0, oc0, _, _, rfl, F9.keep _ _ (hide_get e0 (fun hm => by rw [List.mem_singleton.mp hm, ht] at e0; cases e0; cases hd0; cases hv0)), hd0, hv0⟩, D9, [], [], rfl, gDs, ⟨_, gDl, rfl, _, rfl⟩, .nil, rfl, (fun _ h => nomatch h), rfl⟩
example : True := by w_top off; trivial
theorem div2_spec (w : World) (a b : Int) (n : Nat) (ta tb tn : Tok) (s : Shared) (I : Inv w s.heap) (hn0 : 2 ≤ n) (hn : n ≤ 7998) (ha : 0 ≤ a) (hab : a < b * 2 ^ n) (hb0 : 2 ^ (n - 1) ≤ b) (hb1 : b < 2 ^ n) :
    PureN 30 w 38 [.int a ta, .int b tb, .int (n : Int) tn] s (DivPost s.heap a b) := by
  obtain ⟨m, hm⟩ : ∃ m, n = 2 * m ∨ n = 2 * m + 1 := ⟨n / 2, by omega⟩
  rcases hm with rfl | rfl
  · exact div2_even w a b m ta tb tn s I (by omega) (by omega) ha hab hb0 hb1
  · have hp : (0 : Int) < 2 ^ (2 * m + 1) := Int.pow_pos (by decide)
    have hbp : 0 < b := Int.lt_of_lt_of_le (Int.pow_pos (by decide)) hb0
    have e1 : (2 : Int) ^ (2 * (m + 1)) = 2 ^ (2 * m + 1) * 2 := by rw [show 2 * (m + 1) = 2 * m + 1 + 1 by omega, Int.pow_succ]
    have e2 : (2 : Int) ^ (2 * (m + 1) - 1) = 2 ^ (2 * m + 1 - 1) * 2 := by rw [show 2 * (m + 1) - 1 = (2 * m + 1 - 1) + 1 by omega, Int.pow_succ]
    refine div2_odd w a b (a * 2) (b * 2) m ta tb tn s I (by omega) ha hbp (Bd.of_lt (by omega) hb1) ?_ rfl rfl ?_ (by rw [e2]; omega) (by rw [e1]; omega)
    · have := (Bd.of_lt (Int.le_of_lt hbp) hb1).mul (Bd.pow (2 * m + 1))
      exact (this.le ha (by omega)).mono (by omega)
    · rw [e1, Int.mul_assoc, Int.mul_left_comm 2, ← Int.mul_assoc, ← Int.mul_assoc]
      have h4 : a * 2 < b * 2 ^ (2 * m + 1) * 2 := by omega
      have h5 : 0 ≤ b * 2 ^ (2 * m + 1) := Int.mul_nonneg (Int.le_of_lt hbp) (Int.le_of_lt hp)
      generalize b * 2 ^ (2 * m + 1) = X at *
      omega
section
variable {prog : Program} {w : World} {A : Around} {E : Value → Shared → Prop} {s : Shared} {env : Env} {h₀ : Heap} {x : Str} {body : List Stmt} {Q : Flow → Shared → Prop}
theorem for_rev {ax I : Addr} {oI : Obj} {oax : Obj} {its : List Value} {m₀ : Str → Option Value} (stored : List Str) (P : Nat → LSt → Prop) (c₀ : LSt) (hh : A.handled = none)
    (hcls : oax.cls = .type "list") (hdat : ∃ n, oax.data = .seq its.toArray n) (src : ∀ i c, P i c → (ax, oax) ∈ c.led) (hit : s.heap.IsRevIter I ax ((its.length : Int) - 1)) (hI : s.heap.get? I = some oI ∧ I ≠ env.locals ∧ h₀.get? I = none)
    (F : Fr h₀ env.locals s.heap m₀) (N : News h₀ env.locals s.heap c₀.led) (hn : ∀ p ∈ c₀.led, p.1 ≠ I) (hs₀ : ∀ p ∈ c₀.nms, m₀ p.1 = some p.2) (hp₀ : P 0 c₀)
    (turn : ∀ i v c (u : Str → Option Value) h tk oI, its[its.length - 1 - i]? = some v → i < its.length → P i c → (∀ p ∈ c.led, p.1 ≠ I) → Fr h₀ env.locals h (fun y => if y = x then some v else kstB (fun z => if stored.contains z then u z else m₀ z) c.nms y) → News h₀ env.locals h ((I, oI) :: c.led) →
      wpAny (model prog w) A (execs body env) (TurnPost h₀ env.locals x stored m₀ I oI (P (i + 1)) s Q) E { s with heap := h, toks := tk })
    (done : ∀ c (u : Str → Option Value) h tk, P its.length c → Fr h₀ env.locals h (fun y => if y = x then u y else kstB (fun z => if stored.contains z then u z else m₀ z) c.nms y) → News h₀ env.locals h c.led → Q .next { s with heap := h, toks := tk }) :
    wpAny (model prog w) A (pyIter (.ref I)) (fun it s₂ => LoopAtV prog w A h₀ env x body Q E it s₂) E s := by
  have hax := N _ (src 0 c₀ hp₀)
  have hl : s.heap.IsList ax its.toArray := ⟨oax, hax.1, hcls, hdat⟩
  have hne : ax ≠ I := hn _ (src 0 c₀ hp₀)
  refine wpAny_pyIter_revIter hit ?_
  refine loop_turns stored P c₀ (Walks.listRev hh I ax hne its.toArray) ?_ hI.2.2 ⟨Nat.zero_le _, by simpa using hit, hl⟩ (fun i h st => let ⟨o, ho, _⟩ := st.2.1; ⟨o, ho⟩) ?_ F N hn hs₀ hp₀ ?_ ?_
  · intro hm
    rcases List.mem_cons.mp hm with e | hm
    · exact hI.2.1 e.symm
    · exact hax.2.1 (List.mem_singleton.mp hm).symm
  · intro b hb
    rcases List.mem_cons.mp hb with e | hb
    · exact .inl e
    · rw [List.mem_singleton.mp hb]
      exact .inr (.inr ⟨oax, src⟩)
  · intro i v c u h tk oI' hi hv hP hI' F' N'
    exact turn i v c u h tk oI' (by simpa using hv) (by simpa using hi) hP hI' F' N'
  · intro c u h tk hP F' N'
    exact done c u h tk (by simpa using hP) F' N'
end
example : True := by w_top off; trivial
noncomputable def Tab2Done (s : Shared) (Post : Value → Heap → Prop) (v : Value) (s' : Shared) : Prop :=
  ∃ h' tk p47 p54, s' = { s with heap := h', toks := tk } ∧ (∀ b o, b ≠ 47 → b ≠ 54 → s.heap.get? b = some o → h'.get? b = some o) ∧ h'.get? 47 = some (tabObj p47) ∧ h'.get? 54 = some (tabObj p54) ∧
    TabOk h' 33 4 (Str.ofString "_int2digits.<locals>.inner") p47 ∧ TabOk h' 48 4 (Str.ofString "_digits2int.<locals>.inner") p54 ∧ Post v h'
theorem TabOk.keeps2 {h h' : Heap} {line col : Int} {qual : Str} {ps q1 q2 : Array Value} {P1 P2 : Addr} (T : TabOk h line col qual ps) (h1 : h.get? P1 = some (tabObj q1)) (h2 : h.get? P2 = some (tabObj q2)) (hk : ∀ b o, b ≠ P1 → b ≠ P2 → h.get? b = some o → h'.get? b = some o) (z1 : ∀ q t, q1[1]? ≠ some (.str q t)) (z2 : ∀ q t, q2[1]? ≠ some (.str q t)) : TabOk h' line col qual ps := by
  rcases T with rfl | ⟨c', oc, vs, t, rfl, e, hd, hv⟩
  · exact .inl rfl
  · refine .inr ⟨c', oc, vs, t, rfl, hk _ _ ?_ ?_ e, hd, hv⟩
    · rintro rfl
      rw [h1] at e; cases e
      injection hd with hd
      subst hd
      exact z1 _ _ hv
    · rintro rfl
      rw [h2] at e; cases e
      injection hd with hd
      subst hd
      exact z2 _ _ hv
theorem ints_app : ∀ {us : List Value} {ds : List Int} {vs : List Value} {es : List Int}, IntsAre us ds → IntsAre vs es → IntsAre (us ++ vs) (ds ++ es)
  | _, _, _, _, .nil, h => h
  | _, _, _, _, .cons _ _ r, h => .cons _ _ (ints_app r h)
theorem TabOk.pin {h h₀ : Heap} {L P P2 : Addr} {m : Str → Option Value} {line col : Int} {qual : Str} {ps q2 : Array Value} (T : TabOk h line col qual ps) (F : Fr h₀ L h m) (hP : h.get? P = some (tabObj ps) ∧ P ≠ L ∧ h₀.get? P = none) (h2 : h.get? P2 = some (tabObj q2)) (z2 : ∀ q t, q2[1]? ≠ some (.str q t)) (hPP : P ≠ P2) :
    ∃ cx ox, (h.get? cx = some ox ∧ cx ≠ L ∧ h₀.get? cx = none) ∧ cx ≠ P2 ∧ ∀ h'' : Heap, (∀ b o, h₀.get? b = some o → h''.get? b = some o) → h''.get? cx = some ox → TabOk h'' line col qual ps := by
  rcases T with rfl | ⟨c', oc, vs', t', rfl, e, hd, hv'⟩
  · exact ⟨P, _, hP, hPP, fun _ _ _ => .inl rfl⟩
  · cases q : h₀.get? c' with
    | some o' =>
      have := F.keep _ _ q
      rw [e] at this; cases this
      exact ⟨P, _, hP, hPP, fun h'' hk'' _ => .inr ⟨c', oc, vs', t', rfl, hk'' _ _ q, hd, hv'⟩⟩
    | none =>
      refine ⟨c', oc, ⟨e, fun e9 => ?_, q⟩, fun e9 => ?_, fun h'' _ hc' => .inr ⟨c', oc, vs', t', rfl, hc', hd, hv'⟩⟩
      · obtain ⟨o', es, ep, e', hd', r⟩ := F.ns
        rw [e9] at e
        rw [e] at e'; cases e'
        rw [hd] at hd'; cases hd'
      · rw [e9, h2] at e; cases e
        injection hd with hd
        subst hd
        exact z2 _ _ hv'
theorem ints_rev : ∀ {us : List Value} {ds : List Int}, IntsAre us ds → IntsAre us.reverse ds.reverse
  | _, _, .nil => .nil
  | _, _, .cons v d r => by
    rw [List.reverse_cons, List.reverse_cons]
    exact ints_app (ints_rev r) (.cons _ _ .nil)
section
variable {w : World} {A : Around} {E : Value → Shared → Prop} {Q : Value → Shared → Prop} {s : Shared} {h₀ : Heap} {L : Addr} {m : Str → Option Value} {rest : List (Addr × Obj)}
theorem fr_but {h h' : Heap} {P : Addr} (F : Fr h₀ L h m) (hP : h₀.get? P = none) (hL : P ≠ L) (hk : ∀ b o, b ≠ P → h.get? b = some o → h'.get? b = some o) : Fr h₀ L h' m :=
  ⟨F.ns.at' fun o e => hk _ o hL.symm e, fun b o e => hk b o (fun q => by rw [q, hP] at e; cases e) (F.keep b o e), F.above⟩
theorem use_i2d {a : Int} {n len : Nat} {ta tn : Tok} {ps : Array Value} (I : Inv w h₀) (F : Fr h₀ L s.heap m) (N : News h₀ L s.heap ((47, tabObj ps) :: rest)) (hr : ∀ p ∈ rest, p.1 ≠ 47) (hps : TabOk s.heap 33 4 (Str.ofString "_int2digits.<locals>.inner") ps)
    (ha : 0 ≤ a) (hn0 : 0 < n) (hlen : len ≤ 10) (hn : n ≤ 10000) (hL : (Builtin.Int.intBits a + n - 1) / n = len)
    (hh : A.handled = none) (hd : A.depth + 60 < recursionLimit) (hu : A.units + 800 < cLine)
    (h : ∀ D oD vs ku ds p' h' tk, oD.cls = .type "list" → oD.data = .seq (List.toArray vs) ku → IntsAre vs ds → ds.length = len → (∀ d ∈ ds, 0 ≤ d ∧ d < 2 ^ n) → dval n ds = a → (∀ b o, b ≠ 47 → s.heap.get? b = some o → h'.get? b = some o) →
      TabOk h' 33 4 (Str.ofString "_int2digits.<locals>.inner") p' → Fr h₀ L h' m → News h₀ L h' ((D, oD) :: (47, tabObj p') :: rest) → s.heap.get? D = none → Q (.ref D) { s with heap := h', toks := tk }) :
    wpAny (model PySem.Challenge.rw_ik0159_01.row.prog w) A (call (.ref 52) [.int a ta, .int (n : Int) tn]) Q E s := by
  obtain ⟨hd', dp, fr, gd, un⟩ := A
  dsimp only at hh hd hu
  subst hh
  have h47 := N _ (.head _)
  refine wpAny_mono (i2d_spec w a n len ta tn ps s (I.keeps F.keep) h47.1 hps ha hn0 hlen hn hL dp un fr gd E hd hu) (fun v s' z => ?_) fun _ _ e => e
  obtain ⟨h', tk, p', rfl, hk, hP, hT, D, vs, ds, rfl, hDn, ⟨oD, hoD, hcD, ku, hdD⟩, hi, hl, hrg, hv⟩ := z
  refine h D oD vs ku ds p' h' tk hcD hdD hi hl hrg hv hk hT (fr_but F h47.2.2 h47.2.1 hk) (fun p hp => ?_) hDn
  rcases List.mem_cons.mp hp with rfl | hp
  · refine ⟨hoD, fun e => ?_, ?_⟩
    · have := F.ns.lt
      obtain ⟨o', e', r⟩ := F.ns
      have h2 : s.heap.get? L = some o' := r.choose_spec.1
      rw [← e] at h2
      exact absurd (hDn.symm.trans h2) (by simp)
    · cases q : h₀.get? D with
      | none => rfl
      | some o' => have := F.keep _ _ q; rw [hDn] at this; cases this
  · apply mem_split p hp
    · exact ⟨hP, h47.2⟩
    intro hp
    · exact ⟨hk _ _ (hr p hp) (N p (.tail _ hp)).1, (N p (.tail _ hp)).2⟩
theorem use_digits {D : Addr} {vs : List Value} {ds : List Int} {n k : Nat} {tn : Tok} {ps : Array Value} (I : Inv w h₀) (F : Fr h₀ L s.heap m) (N : News h₀ L s.heap ((54, tabObj ps) :: rest)) (hr : ∀ p ∈ rest, p.1 ≠ 54) (hps : TabOk s.heap 48 4 (Str.ofString "_digits2int.<locals>.inner") ps)
    (hD : s.heap.get? D = some (W.listOf vs.toArray k)) (hi : IntsAre vs ds) (hlen : ds.length ≤ 10) (hn : n ≤ 10000) (hrg : ∀ d ∈ ds, 0 ≤ d ∧ d < 2 ^ n)
    (hh : A.handled = none) (hd : A.depth + 60 < recursionLimit) (hu : A.units + 800 < cLine)
    (h : ∀ t p' h' tk, (∀ b o, b ≠ 54 → s.heap.get? b = some o → h'.get? b = some o) →
      TabOk h' 48 4 (Str.ofString "_digits2int.<locals>.inner") p' → Fr h₀ L h' m → News h₀ L h' ((54, tabObj p') :: rest) → Q (.int (dval n ds) t) { s with heap := h', toks := tk }) :
    wpAny (model PySem.Challenge.rw_ik0159_01.row.prog w) A (call (.ref 59) [.ref D, .int (n : Int) tn]) Q E s := by
  obtain ⟨hd', dp, fr, gd, un⟩ := A
  dsimp only at hh hd hu
  subst hh
  have h54 := N _ (.head _)
  refine wpAny_mono (digits_spec w D vs ds n k tn ps s (I.keeps F.keep) hD h54.1 hps hi hlen hn hrg dp un fr gd E hd hu) (fun v s' z => ?_) fun _ _ e => e
  obtain ⟨h', tk, p', rfl, hk, hP, hT, t, rfl⟩ := z
  refine h t p' h' tk hk hT (fr_but F h54.2.2 h54.2.1 hk) (fun p hp => ?_)
  apply mem_split p hp
  · exact ⟨hP, h54.2⟩
  intro hp
  · exact ⟨hk _ _ (hr p hp) (N p (.tail _ hp)).1, (N p (.tail _ hp)).2⟩
end
theorem dm_spec (w : World) (a b : Int) (n len : Nat) (ta tb : Tok) (p47 p54 : Array Value) (s : Shared) (I : Inv w s.heap) (h47 : s.heap.get? 47 = some (tabObj p47)) (h54 : s.heap.get? 54 = some (tabObj p54))
    (k47 : TabOk s.heap 33 4 (Str.ofString "_int2digits.<locals>.inner") p47) (k54 : TabOk s.heap 48 4 (Str.ofString "_digits2int.<locals>.inner") p54)
    (ha : 0 ≤ a) (hn0 : 2 ≤ n) (hn : n ≤ 7998) (hb0 : 2 ^ (n - 1) ≤ b) (hb1 : b < 2 ^ n) (hlen : len ≤ 10) (hL : (Builtin.Int.intBits a + n - 1) / n = len)
    (dp un : Nat) (fr : Option (List Env)) (gd : Option (List Code)) (E : Value → Shared → Prop) (hdp : dp + 100 < recursionLimit) (hun : un + 1200 < cLine) :
    wpAny (model PySem.Challenge.rw_ik0159_01.row.prog w) (Ar dp un fr gd) (call (.ref 66) [.int a ta, .int b tb])
      (Tab2Done s (DivPost s.heap a b)) E s := by
  have X := Inv.X I
  have I2 : Inv w (hideAll s.heap [47, 54]) := I.hide [47, 54] (by
    intro P hP
    rcases List.mem_cons.mp hP with rfl | hP
    · rfl
    · rw [List.mem_singleton.mp hP]; rfl) (by
    intro P hP
    apply mem_split P hP
    · exact ⟨_, h47, _, rfl, .inl rfl⟩
    intro hP
    · apply mem_one P hP
      exact ⟨_, h54, _, rfl, .inl rfl⟩)
  have hbits : Builtin.Int.intBits b = n := by
    have := bits_eq (k := n - 1) (x := b) hb0 (by rw [show n - 1 + 1 = n by omega]; exact hb1)
    omega
  revert X
  k_fill
  intro X
  (refine wpAny_call ?_)
  obtain ⟨p, loose, mean, mg, mb, T⟩ := Inv.T I
  k_dflt (refine' pure_def (binds := [(Str.ofString "a", .int a ta), (Str.ofString "b", .int b tb)]) X T ?ho ?hcd ?hroom ?hbind ?hloc ?_ ?c2 ?c3 ?c4 ?c5; (case ho => k_is); (case hcd => k_is); (case hroom => (show dp < _; omega)); (case hbind => exact BindsTo.of_eq rfl); (case c5 => decide); (case hloc => exact locs rfl); (case c2 => exact rfl); (case c3 => exact rfl); (case c4 => exact rfl))
  intro h₁ F N
  (try dsimp only)
  show wpAny _ _ _ _ _ _
  k_fold
  have F2 := hide_fr [47, 54] F
  have N2 := hide_news1 (ps := [47, 54]) F h47 (.head _) (hide_news1 (ps := [47, 54]) F h54 mem1 (News.nil (h₀ := hideAll s.heap [47, 54])))
  have hlt : 47 < s.heap.objs.size ∧ 54 < s.heap.objs.size := ⟨Heap.lt_size h47, Heap.lt_size h54⟩
  have I3 := I2
  obtain ⟨X2, p2, loose2, mean2, mg2, mb2, T2⟩ := I2
  clear F N X T
  subst hbits
  (repeat' ( (fail_if_success (with_reducible show PySem.wpAny _ _ (PySem.truthy (PySem.Value.ref _)) _ _ _)); (fail_if_success (with_reducible show PySem.wpAny _ _ (PyProof.Rows.subscriptTail _ _ (PySem.Value.ref _) _) _ _ _)); (fail_if_success (with_reducible show PySem.wpAny _ _ (PySem.setItem (PySem.Value.ref _) _ _) _ _ _)); (fail_if_success (with_reducible show PySem.wpAny _ _ (PySem.compareOp _ (PySem.Value.ref _) (PySem.Value.ref _)) _ _ _)); (fail_if_success (with_reducible show PySem.wpAny _ _ (PySem.call (PySem.Value.builtin "len") _) _ _ _)); (fail_if_success (with_reducible show PySem.wpAny _ _ (PySem.call (PySem.Value.builtin "list.reverse") _) _ _ _)); (( (fail_if_success (with_reducible show PySem.wpAny _ _ (PySem.exec (PySem.Stmt.For _ _ _ _ _) _) _ _ _)); (fail_if_success (with_reducible show PySem.wpAny _ _ (PySem.exec (PySem.Stmt.While _ _ _ _) _) _ _ _)); first | (k_unfold; (try dsimp only)) | (first | ((with_reducible show PySem.wpAny _ _ (PySem.execs _ _) _ _ _); k_fold) | walk1 | (dsimp only; walk1)) | fail "no step"))))
  rename News _ _ _ _ => N9
  rename Fr _ _ _ _ => F9
  rename_i g9
  have hkg : ∀ b o, b ≠ 47 → b ≠ 54 → s.heap.get? b = some o → g9.get? b = some o := fun b o h1 h2 e => F9.keep _ _ (hide_get e (fun hm => by
    rcases List.mem_cons.mp hm with q | hm
    · exact h1 q
    · exact h2 (List.mem_singleton.mp hm)))
  have k47' := k47.keeps2 h47 h54 hkg k47.second k54.second
  have k54' := k54.keeps2 h47 h54 hkg k47.second k54.second
  refine use_i2d I3 F9 N9 (by intro p hp; rw [List.mem_singleton.mp hp]; exact (by decide : (54 : Nat) ≠ 47)) k47' ha (by omega) hlen (by omega) hL rfl (by show (Ar _ _ _ _).depth + 1 + 60 < _; dsimp only [Ar]; omega) (by show (Ar _ _ _ _).units + 3 + 800 < _; dsimp only [Ar]; omega) fun D oD vs ku ds p47' h' tk' hcD hdD hi hl hrg hv hk hT F' N' hDn => ?_
  have k54'' := k54'.keeps (P := 47) (N9.get (.head _)) hk k47.second
  have gkeep : ∀ b o, b ≠ 47 → b ≠ 54 → s.heap.get? b = some o → h'.get? b = some o := fun b o h1 h2 e => hk b o h1 (hkg b o h1 h2 e)
  clear F9 N9 k47' k54' hkg hk
  obtain ⟨cx, ox, hxN, hx54, hxT⟩ := hT.pin F' (N' _ mem1) (N' _ mem2).1 k54.second (by exact (by decide : (47 : Nat) ≠ 54))
  have hxS := hT.second
  have NX : News (hideAll s.heap [47, 54]) s.heap.objs.size h' [(D, oD), (47, tabObj p47'), (54, tabObj p54), (cx, ox)] := fun p hp => by
    apply mem_split p hp
    · exact N' _ (.head _)
    intro hp
    · apply mem_split p hp
      · exact N' _ mem1
      intro hp
      · apply mem_split p hp
        · exact N' _ mem2
        intro hp
        · apply mem_one p hp
          exact hxN
  clear N' hT hxN
  obtain ⟨clsD, dictD, datD, slD⟩ := oD
  dsimp only at hcD hdD
  subst hcD hdD
  (repeat' ( (fail_if_success (with_reducible show PySem.wpAny _ _ (PySem.truthy (PySem.Value.ref _)) _ _ _)); (fail_if_success (with_reducible show PySem.wpAny _ _ (PyProof.Rows.subscriptTail _ _ (PySem.Value.ref _) _) _ _ _)); (fail_if_success (with_reducible show PySem.wpAny _ _ (PySem.setItem (PySem.Value.ref _) _ _) _ _ _)); (fail_if_success (with_reducible show PySem.wpAny _ _ (PySem.compareOp _ (PySem.Value.ref _) (PySem.Value.ref _)) _ _ _)); (fail_if_success (with_reducible show PySem.wpAny _ _ (PySem.call (PySem.Value.builtin "len") _) _ _ _)); (fail_if_success (with_reducible show PySem.wpAny _ _ (PySem.call (PySem.Value.builtin "list.reverse") _) _ _ _)); (( (fail_if_success (with_reducible show PySem.wpAny _ _ (PySem.exec (PySem.Stmt.For _ _ _ _ _) _) _ _ _)); (fail_if_success (with_reducible show PySem.wpAny _ _ (PySem.exec (PySem.Stmt.While _ _ _ _) _) _ _ _)); first | (k_unfold; (try dsimp only)) | (first | ((with_reducible show PySem.wpAny _ _ (PySem.execs _ _) _ _ _); k_fold) | walk1 | (dsimp only; walk1)) | fail "no step"))))
  rename News _ _ _ _ => N9
  rename Fr _ _ _ _ => F9
  refine For_invV (hideAll s.heap [47, 54]) (by rfl) (by rfl) ?_ (by intro _; rfl) PassesOwn.never
  walk1
  walk1
  walk1
  walk1
  walk1
  walk1
  rename_i l9 _ _ hh9
  refine call_reversed_list (items := vs.toArray) ⟨_, N9.get mem1, rfl, ku, rfl⟩ ?_
  have hIs : ∀ p ∈ [(l9, W.listOf #[] 0), (D, { cls := Value.type "list", dict := dictD, data := Data.seq vs.toArray ku, slots := slD }), (47, tabObj p47'), (54, tabObj p54), (cx, ox)], p.1 ≠ hh9.objs.size := fun p hp => Nat.ne_of_lt (Heap.lt_size (N9 p hp).1)
  have hbp : 0 < b := Int.lt_of_lt_of_le (Int.pow_pos (by decide)) hb0
  refine for_rev (ax := D) (I := hh9.objs.size) (oI := revObj D ((vs.toArray.size : Int) - 1)) (oax := { cls := Value.type "list", dict := dictD, data := Data.seq vs.toArray ku, slots := slD }) (its := vs) [Str.ofString "q_digit"]
    (fun i c => ∃ (qvs : List Value) (qds : List Int) (kq : Nat) (r : Int) (tr : Tok), c.led = [(l9, W.listOf qvs.toArray kq), (D, { cls := Value.type "list", dict := dictD, data := Data.seq vs.toArray ku, slots := slD }), (47, tabObj p47'), (54, tabObj p54), (cx, ox)] ∧ c.nms = [(Str.ofString "r", .int r tr)] ∧ IntsAre qvs qds ∧ qds.length = i ∧
      dval (Builtin.Int.intBits b) qds.reverse * b + r = dval (Builtin.Int.intBits b) (ds.drop (ds.length - i)) ∧ 0 ≤ r ∧ r < b ∧ ∀ q ∈ qds, 0 ≤ q ∧ q < 2 ^ Builtin.Int.intBits b)
    ⟨[(l9, W.listOf [].toArray 0), (D, { cls := Value.type "list", dict := dictD, data := Data.seq vs.toArray ku, slots := slD }), (47, tabObj p47'), (54, tabObj p54), (cx, ox)], [(Str.ofString "r", .int 0 _)]⟩ rfl rfl ⟨ku, rfl⟩ ?_ ?_ ⟨Heap.get?_push_size _ rfl, ?_, ?_⟩ (F9.push _) (fun p hp => ⟨Heap.get?_push_of_some _ (N9 p hp).1, (N9 p hp).2⟩) hIs (by ((repeat (first | exact List.forall_mem_nil _ | refine fm_cons (by with_unfolding_all rfl) ?_)))) ?_ ?_ ?_
  · rintro i c ⟨_, _, _, _, _, hled, _⟩
    rw [hled]; exact .tail _ (.head _)
  · exact ⟨_, Heap.get?_push_size _ rfl, rfl, by simp [revObj]⟩
  · exact Nat.ne_of_gt F9.ns.lt
  · exact next_is_new F9
  · exact ⟨[], [], 0, 0, _, rfl, rfl, .nil, rfl, by simp [dval], Int.le_refl _, hbp, fun _ h => nomatch h⟩
  · intro i v z19 u h tk oI hv hil z29 hI F1 N1
    show wpAny _ _ _ _ _ _
    k_fold
    obtain ⟨led, nms⟩ := z19
    obtain ⟨qvs, qds, kq, r, tr, hled, hnms, hq, hql, hinv, hr0, hrb, hqr⟩ := z29
    dsimp only at hled hnms hI F1 N1
    subst hled hnms
    have hvl := hi.length
    have hjl : vs.length - 1 - i < ds.length := by omega
    obtain ⟨td, hvd⟩ := hi.get (vs.length - 1 - i) _ (List.getElem?_eq_getElem hjl)
    rw [hv] at hvd
    cases hvd
    generalize hdd : ds[vs.length - 1 - i] = d at *
    have hd := hrg d (hdd ▸ List.getElem_mem _)
    have hBr : Bd (Builtin.Int.intBits b) r := Bd.of_lt hr0 (Int.lt_trans hrb hb1)
    have hp : (0 : Int) < 2 ^ Builtin.Int.intBits b := Int.pow_pos (by decide)
    have hX0 : 0 ≤ r * 2 ^ Builtin.Int.intBits b + d := by have := Int.mul_nonneg hr0 (Int.le_of_lt hp); omega
    have hX1 : r * 2 ^ Builtin.Int.intBits b + d < b * 2 ^ Builtin.Int.intBits b := by
      have : (r + 1) * 2 ^ Builtin.Int.intBits b ≤ b * 2 ^ Builtin.Int.intBits b := Int.mul_le_mul_of_nonneg_right (by omega) (Int.le_of_lt hp)
      rw [Int.add_mul, Int.one_mul] at this
      omega
    have hql10 : qvs.length ≤ 10 := by rw [hq.length]; omega
    have hne1 : @Ne Nat l9 hh9.objs.size := hI _ (.head _)
    have hne2 : @Ne Nat D hh9.objs.size := hI _ mem1
    have hne3 : @Ne Nat 47 hh9.objs.size := hI _ mem2
    have hne5 : @Ne Nat cx hh9.objs.size := hI _ mem4
    have hne4 : @Ne Nat 54 hh9.objs.size := hI _ mem3
    (repeat' ( (fail_if_success (with_reducible show PySem.wpAny _ _ (PySem.truthy (PySem.Value.ref _)) _ _ _)); (fail_if_success (with_reducible show PySem.wpAny _ _ (PyProof.Rows.subscriptTail _ _ (PySem.Value.ref _) _) _ _ _)); (fail_if_success (with_reducible show PySem.wpAny _ _ (PySem.setItem (PySem.Value.ref _) _ _) _ _ _)); (fail_if_success (with_reducible show PySem.wpAny _ _ (PySem.compareOp _ (PySem.Value.ref _) (PySem.Value.ref _)) _ _ _)); (fail_if_success (with_reducible show PySem.wpAny _ _ (PySem.call (PySem.Value.builtin "len") _) _ _ _)); (fail_if_success (with_reducible show PySem.wpAny _ _ (PySem.call (PySem.Value.builtin "list.reverse") _) _ _ _)); (( (fail_if_success (with_reducible show PySem.wpAny _ _ (PySem.exec (PySem.Stmt.For _ _ _ _ _) _) _ _ _)); (fail_if_success (with_reducible show PySem.wpAny _ _ (PySem.exec (PySem.Stmt.While _ _ _ _) _) _ _ _)); first | (k_unfold; (try dsimp only)) | (first | ((with_reducible show PySem.wpAny _ _ (PySem.execs _ _) _ _ _); k_fold) | walk1 | (dsimp only; walk1)) | fail "no step"))))
    rename News _ _ _ _ => Nc
    rename Fr _ _ _ _ => Fc
    refine (div2_spec w _ b (Builtin.Int.intBits b) _ _ _ _ (I3.keeps Fc.keep) hn0 hn hX0 hX1 hb0 hb1).use rfl (by show (Ar _ _ _ _).depth + 1 + 30 < _; dsimp only [Ar]; omega) (by fail "m units64") fun v h' tk' hk hv => ?_
    obtain ⟨dd, t1, t2, rfl, hdn, hod⟩ := hv
    have Nd := news_cons Fc Nc hk hdn hod
    have Fd := Fc.keeps hk
    have hdl : @Ne Nat l9 dd := fun e => by
      have := Nc.get mem1
      rw [e, hdn] at this; cases this
    clear Fc Nc hk
    (repeat' ( (fail_if_success (with_reducible show PySem.wpAny _ _ (PySem.truthy (PySem.Value.ref _)) _ _ _)); (fail_if_success (with_reducible show PySem.wpAny _ _ (PyProof.Rows.subscriptTail _ _ (PySem.Value.ref _) _) _ _ _)); (fail_if_success (with_reducible show PySem.wpAny _ _ (PySem.setItem (PySem.Value.ref _) _ _) _ _ _)); (fail_if_success (with_reducible show PySem.wpAny _ _ (PySem.compareOp _ (PySem.Value.ref _) (PySem.Value.ref _)) _ _ _)); (fail_if_success (with_reducible show PySem.wpAny _ _ (PySem.call (PySem.Value.builtin "len") _) _ _ _)); (fail_if_success (with_reducible show PySem.wpAny _ _ (PySem.call (PySem.Value.builtin "list.reverse") _) _ _ _)); (( (fail_if_success (with_reducible show PySem.wpAny _ _ (PySem.exec (PySem.Stmt.For _ _ _ _ _) _) _ _ _)); (fail_if_success (with_reducible show PySem.wpAny _ _ (PySem.exec (PySem.Stmt.While _ _ _ _) _) _ _ _)); first | (k_unfold; (try dsimp only)) | (first | ((with_reducible show PySem.wpAny _ _ (PySem.execs _ _) _ _ _); k_fold) | walk1 | (dsimp only; walk1)) | fail "no step"))))
    rename News _ _ _ _ => nE
    (try simp only [List.push_toArray] at nE)
    refine TurnPost.next (.inl rfl) ⟨[(l9, W.listOf (qvs ++ _).toArray (kq + 1)), (D, { cls := Value.type "list", dict := dictD, data := Data.seq vs.toArray ku, slots := slD }), (47, tabObj p47'), (54, tabObj p54), (cx, ox)], [(Str.ofString "r", .int _ _)]⟩ (by assumption) (by ((refine cb_drop (by assumption) ?_; repeat (first | exact List.forall_mem_nil _ | refine fm_cons (by k_mem) ?_)))) (by ((repeat (first | exact List.forall_mem_nil _ | refine fm_cons (by first | assumption | k_ne) ?_)))) (by ((refine ⟨?n9, ?m9⟩; (case n9 => (repeat (first | exact List.forall_mem_nil _ | refine fm_cons (by with_unfolding_all rfl) ?_))); (case m9 => intro z h1 h2 h3; (((try dsimp only [kstB]); (repeat (first | refine st_if (st_ne (by assumption) (by rfl)) ?_ | refine st_if (by assumption) ?_ | refine st_if (by rename (∀ p, p ∈ _ → _ ≠ _) => h9; exact h9 _ (.head _)) ?_ | refine st_if (by rename (∀ p, p ∈ _ → _ ≠ _) => h9; exact h9 _ mem1) ?_ | refine st_if (by rename (∀ p, p ∈ _ → _ ≠ _) => h9; exact h9 _ mem2) ?_ | refine st_if (by rename (∀ p, p ∈ _ → _ ≠ _) => h9; exact h9 _ mem3) ?_)); first | exact st_bot (by assumption) | ((repeat (first | refine st_ifr (st_ne (by assumption) (by rfl)) ?_ | refine st_ifr (by assumption) ?_ | refine st_ifr (by rename (∀ p, p ∈ _ → _ ≠ _) => h9; exact h9 _ (.head _)) ?_ | refine st_ifr (by rename (∀ p, p ∈ _ → _ ≠ _) => h9; exact h9 _ mem1) ?_ | refine st_ifr (by rename (∀ p, p ∈ _ → _ ≠ _) => h9; exact h9 _ mem2) ?_ | refine st_ifr (by rename (∀ p, p ∈ _ → _ ≠ _) => h9; exact h9 _ mem3) ?_)); exact rfl))))))) ⟨_, qds ++ [(r * 2 ^ Builtin.Int.intBits b + d) / b], _, _, _, rfl, rfl, ints_app hq (.cons _ _ .nil), by simp [hql], ?_, Int.emod_nonneg _ (by omega), Int.emod_lt_of_pos _ hbp, ?_⟩
    · have edr : ds.drop (ds.length - (i + 1)) = d :: ds.drop (ds.length - i) := by
        have e1 : vs.length - 1 - i = ds.length - (i + 1) := by omega
        have hj2 : ds.length - (i + 1) < ds.length := by omega
        rw [List.drop_eq_getElem_cons hj2]
        congr 1
        · simp only [e1] at hdd; exact hdd
        · congr 1; omega
      rw [edr, List.reverse_append]
      show ((r * 2 ^ Builtin.Int.intBits b + d) / b + dval (Builtin.Int.intBits b) qds.reverse * 2 ^ Builtin.Int.intBits b) * b + (r * 2 ^ Builtin.Int.intBits b + d) % b = d + dval (Builtin.Int.intBits b) (ds.drop (ds.length - i)) * 2 ^ Builtin.Int.intBits b
      have e2 := Int.emod_add_mul_ediv (r * 2 ^ Builtin.Int.intBits b + d) b
      rw [← hinv]
      generalize (r * 2 ^ Builtin.Int.intBits b + d) / b = QQ at *
      generalize (r * 2 ^ Builtin.Int.intBits b + d) % b = RR at *
      generalize dval (Builtin.Int.intBits b) qds.reverse = DD at *
      generalize (2 : Int) ^ Builtin.Int.intBits b = P at *
      grind
    · intro q hq'
      rcases List.mem_append.mp hq' with h1 | h1
      · exact hqr q h1
      · apply mem_one q h1
        exact ⟨Int.ediv_nonneg hX0 (by omega), Int.ediv_lt_of_lt_mul hbp (by rw [Int.mul_comm (2 ^ _) b]; exact hX1)⟩
  · rintro ⟨led, nms⟩ u h tk ⟨qvs, qds, kq, r, tr, hled, hnms, hq, hql, hinv, hr0, hrb, hqr⟩ F1 N1
    dsimp only at hled hnms F1 N1
    subst hled hnms
    (repeat' ( (fail_if_success (with_reducible show PySem.wpAny _ _ (PySem.truthy (PySem.Value.ref _)) _ _ _)); (fail_if_success (with_reducible show PySem.wpAny _ _ (PyProof.Rows.subscriptTail _ _ (PySem.Value.ref _) _) _ _ _)); (fail_if_success (with_reducible show PySem.wpAny _ _ (PySem.setItem (PySem.Value.ref _) _ _) _ _ _)); (fail_if_success (with_reducible show PySem.wpAny _ _ (PySem.compareOp _ (PySem.Value.ref _) (PySem.Value.ref _)) _ _ _)); (fail_if_success (with_reducible show PySem.wpAny _ _ (PySem.call (PySem.Value.builtin "len") _) _ _ _)); (fail_if_success (with_reducible show PySem.wpAny _ _ (PySem.call (PySem.Value.builtin "list.reverse") _) _ _ _)); (( (fail_if_success (with_reducible show PySem.wpAny _ _ (PySem.exec (PySem.Stmt.For _ _ _ _ _) _) _ _ _)); (fail_if_success (with_reducible show PySem.wpAny _ _ (PySem.exec (PySem.Stmt.While _ _ _ _) _) _ _ _)); first | (k_unfold; (try dsimp only)) | (first | ((with_reducible show PySem.wpAny _ _ (PySem.execs _ _) _ _ _); k_fold) | walk1 | (dsimp only; walk1)) | fail "no step"))))
    rename News _ _ _ _ => N3
    rename Fr _ _ _ _ => F3
    refine kl_reverse (its := qvs.toArray) (l := qvs.reverse) (news' := [(l9, W.listOf qvs.reverse.toArray kq), (D, { cls := Value.type "list", dict := dictD, data := Data.seq vs.toArray ku, slots := slD }), (47, tabObj p47'), (54, tabObj p54), (cx, ox)]) F3 N3 (by simp) (by k_upd) (by have := hq.length; have := hi.length; simp only [sizeLine_eq]; show qvs.length ≤ _; omega) fun h4 F4 N4 => ?_
    clear F3 N3
    (repeat' ( (fail_if_success (with_reducible show PySem.wpAny _ _ (PySem.truthy (PySem.Value.ref _)) _ _ _)); (fail_if_success (with_reducible show PySem.wpAny _ _ (PyProof.Rows.subscriptTail _ _ (PySem.Value.ref _) _) _ _ _)); (fail_if_success (with_reducible show PySem.wpAny _ _ (PySem.setItem (PySem.Value.ref _) _ _) _ _ _)); (fail_if_success (with_reducible show PySem.wpAny _ _ (PySem.compareOp _ (PySem.Value.ref _) (PySem.Value.ref _)) _ _ _)); (fail_if_success (with_reducible show PySem.wpAny _ _ (PySem.call (PySem.Value.builtin "len") _) _ _ _)); (fail_if_success (with_reducible show PySem.wpAny _ _ (PySem.call (PySem.Value.builtin "list.reverse") _) _ _ _)); (( (fail_if_success (with_reducible show PySem.wpAny _ _ (PySem.exec (PySem.Stmt.For _ _ _ _ _) _) _ _ _)); (fail_if_success (with_reducible show PySem.wpAny _ _ (PySem.exec (PySem.Stmt.While _ _ _ _) _) _ _ _)); first | (k_unfold; (try dsimp only)) | (first | ((with_reducible show PySem.wpAny _ _ (PySem.execs _ _) _ _ _); k_fold) | walk1 | (dsimp only; walk1)) | fail "no step"))))
    rename News _ _ _ _ => N5
    rename Fr _ _ _ _ => F5
    have k54' := k54.keeps2 h47 h54 (fun b o h1 h2 e => F5.keep _ _ (hide_get e (fun hm => by
      rcases List.mem_cons.mp hm with q | hm
      · exact h1 q
      · exact h2 (List.mem_singleton.mp hm)))) k47.second k54.second
    have N6 : News (hideAll s.heap [47, 54]) s.heap.objs.size _ ((54, tabObj p54) :: [(47, tabObj p47'), (cx, ox)]) := fun p hp => by
      rcases List.mem_cons.mp hp with rfl | hp
      · exact N5 _ mem3
      · rcases List.mem_cons.mp hp with rfl | hp
        · exact N5 _ mem2
        · rw [List.mem_singleton.mp hp]; exact N5 _ mem4
    have hrest : ∀ p ∈ [((47 : Addr), tabObj p47'), (cx, ox)], p.1 ≠ 54 := fun p hp => by
      apply mem_split p hp
      · exact (by decide : (47 : Nat) ≠ 54)
      intro hp
      · apply mem_one p hp
        exact hx54
    refine use_digits (D := l9) (vs := qvs.reverse) (ds := qds.reverse) I3 F5 N6 hrest k54' (N5.get (.head _)) (ints_rev hq) (by rw [List.length_reverse, hql, hi.length]; omega) (by omega) (fun d hd => hqr d (List.mem_reverse.mp hd)) rfl (by show (Ar _ _ _ _).depth + 1 + 60 < _; dsimp only [Ar]; omega) (by show (Ar _ _ _ _).units + 3 + 800 < _; dsimp only [Ar]; omega) fun t p54' h6 tk6 hk6 hT6 F6 N7 => ?_
    obtain ⟨cy, oy, hyN, _, hyT⟩ := hT6.pin F6 (N7 _ (.head _)) (N7 _ mem1).1 hxS (by exact (by decide : (54 : Nat) ≠ 47))
    have N8 : News (hideAll s.heap [47, 54]) s.heap.objs.size h6 [(54, tabObj p54'), (47, tabObj p47'), (cx, ox), (cy, oy)] := fun p hp => by
      apply mem_split p hp
      · exact N7 _ (.head _)
      intro hp
      · apply mem_split p hp
        · exact N7 _ mem1
        intro hp
        · apply mem_split p hp
          · exact N7 _ mem2
          intro hp
          · apply mem_one p hp
            exact hyN
    clear N7 N6 N5 F5 hk6
    have hfin := div_unique (a := a) (b := b) (q := dval (Builtin.Int.intBits b) qds.reverse) (r := r) (by
      rw [hinv, hi.length, Nat.sub_self, List.drop_zero, hv]) hr0 hrb
    (repeat' ( (fail_if_success (with_reducible show PySem.wpAny _ _ (PySem.truthy (PySem.Value.ref _)) _ _ _)); (fail_if_success (with_reducible show PySem.wpAny _ _ (PyProof.Rows.subscriptTail _ _ (PySem.Value.ref _) _) _ _ _)); (fail_if_success (with_reducible show PySem.wpAny _ _ (PySem.setItem (PySem.Value.ref _) _ _) _ _ _)); (fail_if_success (with_reducible show PySem.wpAny _ _ (PySem.compareOp _ (PySem.Value.ref _) (PySem.Value.ref _)) _ _ _)); (fail_if_success (with_reducible show PySem.wpAny _ _ (PySem.call (PySem.Value.builtin "len") _) _ _ _)); (fail_if_success (with_reducible show PySem.wpAny _ _ (PySem.call (PySem.Value.builtin "list.reverse") _) _ _ _)); (( (fail_if_success (with_reducible show PySem.wpAny _ _ (PySem.exec (PySem.Stmt.For _ _ _ _ _) _) _ _ _)); (fail_if_success (with_reducible show PySem.wpAny _ _ (PySem.exec (PySem.Stmt.While _ _ _ _) _) _ _ _)); first | (k_unfold; (try dsimp only)) | (first | ((with_reducible show PySem.wpAny _ _ (PySem.execs _ _) _ _ _); k_fold) | walk1 | (dsimp only; walk1)) | fail "no step"))))
    rename News _ _ _ _ => N9
    rename Fr _ _ _ _ => F9'
    refine ⟨_, _, p47', p54', rfl, fun b o h1 h2 e => F9'.keep _ _ (hide_get e (fun hm => by
      rcases List.mem_cons.mp hm with q | hm
      · exact h1 q
      · exact h2 (List.mem_singleton.mp hm))), N9.get mem2, N9.get mem1, hxT _ F9'.keep (N9.get mem3), hyT _ F9'.keep (N9.get mem4), ?_⟩
    refine ⟨_, t, _, rfl, ?_, by rw [hfin.1, hfin.2]; exact N9.get (.head _)⟩
    cases q : s.heap.get? _ with
    | none => rfl
    | some o =>
      exfalso
      have hD := (N9 _ (.head _)).2.2
      have e := hide_get (ps := [47, 54]) q (fun hm => by
        rcases List.mem_cons.mp hm with z | hm
        · exact absurd z (Nat.ne_of_gt (by omega))
        · exact absurd (List.mem_singleton.mp hm) (Nat.ne_of_gt (by omega)))
      dsimp only at hD
      rw [hD] at e; cases e
example : True := by w_top off; trivial
noncomputable def signOf (p : Nat) : Nat := [97, 39, 34, 32, 42, 63, 233, 37].getD p 97
noncomputable def wstep (ws : List (List Nat)) (p : Int) : List (List Nat) := if p = 8 then ws ++ [[]] else ws.dropLast ++ [ws.getLastD [] ++ [signOf p.toNat]]
noncomputable def places (x : Int) : List Int := [x % 9, x / 9 % 9]
noncomputable def wordsOf (xs : List Int) : List (List Nat) := (xs.flatMap places).foldl wstep [[]]
section
variable {prog : Program} {w : World} {A : Around} {E : Value → Shared → Prop} {s : Shared} {h₀ h : Heap} {L : Addr} {m : Str → Option Value} {news : List (Addr × Obj)}
theorem my_pick (ui : List Value) (v : Value) : kms_pick (ui ++ [v]).toArray.toList none (some (-1)) = ui := by
  simp [kms_pick, kms_lo, kms_hi]
theorem my_cut {value slice : PySem.Expr} {l : Addr} {ui : List Value} {v : Value} {k : Nat} {u : Tok} {Q : Value → Shared → Prop} (F : Fr h₀ L s.heap m) (N : News h₀ L s.heap news) (hm : (l, W.listOf (ui ++ [v]).toArray k) ∈ news) (hz : ui.length ≤ 1000)
    (h : ∀ D h', Fr h₀ L h' m → News h₀ L h' ((D, W.listOf ui.toArray 0) :: news) → (∀ p ∈ news, p.1 < D) → Q (.ref D) { s with heap := h' })
    (hs : subscripted slice false (.ref l) (.ref s.heap.objs.size) = operate [.ref s.heap.objs.size, .ref l] (getItem (.ref l) (.ref s.heap.objs.size))) (ht : ∀ r, letTemporaryGo value (.ref l) r = pure ()) :
    wpAny (model prog w) A (subscriptTail value slice (.ref l) (.ref s.heap.objs.size)) Q E { s with heap := s.heap.push { cls := .type "slice", data := .fields #[.none, .int (-1) u, .none] } } :=
  kms_slice_lit F N ⟨_, N.get hm, rfl, _, rfl⟩ .none (.int _ _) (my_pick ui v) h hs ht (by simp only [sizeLine_eq, List.size_toArray, List.length_append, List.length_cons, List.length_nil]; omega)
theorem my_cat {a b : Addr} {us ws : List Value} {k k2 : Nat} {Q : Value → Shared → Prop} (F : Fr h₀ L s.heap m) (N : News h₀ L s.heap news) (ha : (a, W.listOf us.toArray k) ∈ news) (hb : (b, W.listOf ws.toArray k2) ∈ news) (hz : us.length + ws.length ≤ 100000)
    (h : ∀ D h', Fr h₀ L h' m → News h₀ L h' ((D, W.listOf (us ++ ws).toArray 0) :: news) → (∀ p ∈ news, p.1 < D) → Q (.ref D) { s with heap := h' }) :
    wpAny (model prog w) A (binaryOp .Add (.ref a) (.ref b)) Q E s :=
  kmk_add_lit F N ⟨_, N.get ha, rfl, _, rfl⟩ ⟨_, N.get hb, rfl, _, rfl⟩ (by simp) h (by simp only [sizeLine_eq]; show us.length + ws.length ≤ _; omega)
theorem my_sign {value slice : PySem.Expr} {x : Str} {l : List Nat} {t u : Tok} {p : Int} {c : Nat} {Q : Value → Shared → Prop} (hx : x = tx l) (h0 : 0 ≤ p) (hc : l[p.toNat]? = some c) (hl : l.length ≤ 100000) (h : Q (.str (tx [c]) s.toks) { s with toks := s.toks + 1 })
    (hs : subscripted slice false (.str x t) (.int p u) = operate [.str x t, .int p u] (getItem (.str x t) (.int p u)) := by with_unfolding_all rfl)
    (ht : ∀ r, letTemporaryGo value (.str x t) r = pure () := by intro _; with_unfolding_all rfl) :
    wpAny (model prog w) A (subscriptTail value slice (.str x t) (.int p u)) Q E s := by
  subst hx
  obtain ⟨i, rfl⟩ := Int.eq_ofNat_of_zero_le h0
  have hc' : l[i]? = some c := by simpa using hc
  have hi : i < l.length := (List.getElem?_eq_some_iff.mp hc').1
  have e : Txt.item (tx l) i = ⟨#[c]⟩ := item_meets (by omega) (by simpa [tx] using hc')
  have e2 : (tx l).length = l.length := by simp [tx, Str.length]
  exact item_str (fitsSsize_of (N := 9223372036854775808) (by omega) (by omega) (Int.le_refl _)) (by omega) (by omega) (fun _ => by rw [e]; exact h) hs ht
end
theorem wsigns : Str.ofString "a'\" *?é%" = tx [97, 39, 34, 32, 42, 63, 233, 37] := by decide +kernel
theorem sign_at {p : Int} (h0 : 0 ≤ p) (h8 : p ≤ 8) (hn : p ≠ 8) : [97, 39, 34, 32, 42, 63, 233, 37][p.toNat]? = some (signOf p.toNat) := by
  have : p.toNat < 8 := by omega
  unfold signOf
  rw [List.getD_eq_getElem?_getD]
  rw [List.getElem?_eq_getElem (by simpa using this)]; rfl
local macro_rules | `(tactic| walk_at "subscriptTail Name Slice ref ref") => `(tactic| (k_here; (with_reducible show wpAny _ _ (subscriptTail _ (PySem.Expr.Slice _ _ none _) (Value.ref _) (Value.ref _)) _ _ _); k_dflt (refine' my_cut ?F ?N ?m ?z ?_ ?s ?t; fail "m m_fn"; (case m => k_mem); (case s => with_unfolding_all rfl); (case t => kmk_pure); (case z => omega)); intro D' h' F' N' l1; (try k_lt l1); (try k_sweep)))
local macro_rules | `(tactic| walk_at "binaryOp Add ref ref") => `(tactic| (k_here; (with_reducible show wpAny _ _ (binaryOp _ (Value.ref _) (Value.ref _)) _ _ _); k_dflt (refine' my_cat ?F ?N ?a ?b ?z ?_; fail "m m_fn"; (case a => k_mem); (case b => k_mem); (case z => fail "m m_sz")); intro D' h' F' N' l1; (try k_lt l1); (try k_sweep)))
local macro_rules | `(tactic| walk_at "subscriptTail Name UnaryOp ref int") => `(tactic| (k_here; (with_reducible show wpAny _ _ (subscriptTail _ _ (Value.ref _) (Value.int (-1) _)) _ _ _); k_dflt (refine' my_last ?l ?_; (case l => exact ⟨_, News.get (by k_asm) (by k_mem), rfl, _, rfl⟩))))
local macro_rules | `(tactic| walk_at "subscriptTail Constant Name str int") => `(tactic| (refine my_sign wsigns (by assumption) (sign_at (by assumption) (by assumption) (by assumption)) (by decide) ?_))
theorem wstep_ne {ws : List (List Nat)} (p : Int) : wstep ws p ≠ [] := by unfold wstep; split <;> simp
theorem foldw_ne : ∀ (ps : List Int) {ws : List (List Nat)}, ws ≠ [] → ps.foldl wstep ws ≠ []
  | [], _, h => h
  | _ :: r, _, _ => foldw_ne r (wstep_ne _)
theorem foldw_len : ∀ (ps : List Int) (ws : List (List Nat)), (ps.foldl wstep ws).length ≤ ws.length + ps.length
  | [], _ => by simp
  | p :: r, ws => by
    have h1 := foldw_len r (wstep ws p)
    have h2 : (wstep ws p).length ≤ ws.length + 1 := by unfold wstep; split <;> simp <;> omega
    simp only [List.foldl_cons, List.length_cons]; omega
theorem wstep_max {ws : List (List Nat)} {p : Int} {K : Nat} (h : ∀ l ∈ ws, l.length ≤ K) : ∀ l ∈ wstep ws p, l.length ≤ K + 1 := by
  intro l hl
  unfold wstep at hl
  split at hl
  · rcases List.mem_append.mp hl with h1 | h1
    · have := h l h1; omega
    · rw [List.mem_singleton.mp h1]; simp
  · rcases List.mem_append.mp hl with h1 | h1
    · have := h l (List.dropLast_subset _ h1); omega
    · rw [List.mem_singleton.mp h1, List.length_append, List.length_singleton]
      rcases hw : ws.getLast? with _ | z
      · simp [List.getLastD_eq_getLast?, hw]
      · have := h z (List.mem_of_getLast? hw)
        simp [List.getLastD_eq_getLast?, hw]; omega
theorem foldw_max : ∀ (ps : List Int) {ws : List (List Nat)} {K : Nat}, (∀ l ∈ ws, l.length ≤ K) → ∀ l ∈ ps.foldl wstep ws, l.length ≤ K + ps.length
  | [], _, _, h => h
  | p :: r, ws, K, h => by
    intro l hl
    have := foldw_max r (wstep_max (p := p) h) l hl
    simp only [List.length_cons]; omega
theorem txs_last {vs : List Value} {ws : List (List Nat)} (h : TxAre vs ws) (hne : ws ≠ []) : ∃ ui t l wi, vs = ui ++ [Value.str (tx l) t] ∧ ws = wi ++ [l] ∧ TxAre ui wi := by
  induction h with
  | nil => exact absurd rfl hne
  | @cons v l vs ws hd r ih =>
    obtain ⟨t, rfl⟩ := hd
    by_cases hw : ws = []
    · subst hw
      cases r
      exact ⟨[], t, l, [], rfl, rfl, .nil⟩
    · obtain ⟨ui, t', l', wi, e1, e2, h2⟩ := ih hw
      exact ⟨_ :: ui, t', l', l :: wi, by rw [e1]; rfl, by rw [e2]; rfl, .cons ⟨t, rfl⟩ h2⟩
theorem foldw_at {xs : List Int} {i j : Nat} {x pl : Int} (hn : xs.length ≤ 10) (hx : xs[i]? = some x) (hj : (places x)[j]? = some pl) : ∃ ps : List Int, ps.length ≤ 22 ∧ ((places x).take j).foldl wstep (wordsOf (xs.take i)) = ps.foldl wstep [[]] := by
  refine ⟨(xs.take i).flatMap places ++ (places x).take j, ?_, ?_⟩
  · have : ∀ l : List Int, (l.flatMap places).length = 2 * l.length := by
      intro l; induction l with
      | nil => rfl
      | cons a r ih => simp [ih, places]; omega
    rw [List.length_append, this]
    simp [places]; omega
  · rw [List.foldl_append]; rfl
theorem sign_add {l : List Nat} {p : Int} (h0 : 0 ≤ p) (h8 : p ≤ 8) (hn : p ≠ 8) : tx l ++ Txt.item (Str.ofString "a'\" *?é%") p = tx (l ++ [signOf p.toNat]) := by
  have hc := sign_at h0 h8 hn
  obtain ⟨i, rfl⟩ := Int.eq_ofNat_of_zero_le h0
  have e : Txt.item (Str.ofString "a'\" *?é%") (i : Int) = tx [signOf (Int.toNat i)] := by
    rw [wsigns]
    have hi : i < 8 := by omega
    exact item_meets (by simpa using hi) (by simpa [tx] using hc)
  show tx l ++ Txt.item _ ((i : Nat) : Int) = tx (l ++ [signOf (Int.toNat i)])
  rw [e, tx_append]
theorem words_spec (w : World) (a : Addr) (vs : List Value) (xs : List Int) (s : Shared) (I : Inv w s.heap) (ha : s.heap.IsList a vs.toArray) (hvs : IntsAre vs xs) (hn : xs.length ≤ 10) :
    PureN 30 w 122 [.ref a] s (fun r h => ∃ b us k, r = .ref b ∧ s.heap.get? b = none ∧ h.get? b = some (W.listOf us.toArray k) ∧ TxAre us (wordsOf xs)) := by
  (first | unfold Pure | unfold PureN)
  have X9p := Inv.X I
  revert X9p
  k_fill
  intro X9p dp9p un9p fr9p gd9p E9p hdp9p hun9p
  (refine wpAny_call ?_)
  obtain ⟨p9p, loose9p, mean9p, mg9p, mb9p, T9p⟩ := Inv.T I
  k_dflt (refine' pure_def (binds := [(Str.ofString "numbers", .ref a)]) X9p T9p ?ho ?hcd ?hroom ?hbind ?hloc ?_ ?c2 ?c3 ?c4 ?c5; (case ho => k_is); (case hcd => k_is); (case hroom => (show dp9p < _; omega)); (case hbind => exact BindsTo.of_eq rfl); (case c5 => decide); (case hloc => exact locs rfl); (case c2 => exact rfl); (case c3 => exact rfl); (case c4 => exact rfl))
  intro h9p F9p N9p
  (try dsimp only)
  (try k_fold)
  (repeat' ((( (fail_if_success (with_reducible show PySem.wpAny _ _ (PySem.exec (PySem.Stmt.For _ _ _ _ _) _) _ _ _)); (fail_if_success (with_reducible show PySem.wpAny _ _ (PySem.exec (PySem.Stmt.While _ _ _ _) _) _ _ _)); first | (k_unfold; (try dsimp only)) | (first | ((with_reducible show PySem.wpAny _ _ (PySem.execs _ _) _ _ _); k_fold) | walk1 | (dsimp only; walk1)) | fail "no step"))))
  rename News _ _ _ _ => N1
  rename Fr _ _ _ _ => F1
  rename_i l' _ _ _
  obtain ⟨oa, hoa, hc, hd⟩ := ha
  refine For_invV s.heap (by rfl) (by rfl) ?_ (by intro _; rfl) PassesOwn.never
  walk1
  refine for_list [Str.ofString "place", Str.ofString "number"] (fun i c => ∃ (b : Addr) (us : List Value) (k : Nat), c.nms = [(Str.ofString "words", .ref b)] ∧ c.led = [(b, W.listOf us.toArray k)] ∧ TxAre us (wordsOf (xs.take i))) ⟨[(l', W.listOf [Value.str (Str.ofString "") _].toArray 0)], [(Str.ofString "words", .ref l')]⟩ rfl hc hd (.inl hoa) F1 N1 (by ((repeat (first | exact List.forall_mem_nil _ | refine fm_cons (by with_unfolding_all rfl) ?_)))) ⟨l', _, 0, rfl, rfl, .cons ⟨_, by rw [show Str.ofString "" = tx [] by decide +kernel]⟩ .nil⟩ ?_ ?_
  · intro i v z19 u h tk I' oI hv z29 hI F2 N2
    show wpAny _ _ _ _ _ _
    k_fold
    obtain ⟨led, nms⟩ := z19
    obtain ⟨b, us, k, hnms, hled, hus⟩ := z29
    dsimp only at hnms hled F2 N2 hI
    subst hnms hled
    have hne : @Ne Nat b I' := hI _ (.head _)
    obtain ⟨x, t, rfl⟩ : ∃ x t, v = .int x t := by
      have h1 : i < xs.length := by rw [← hvs.length]; exact (List.getElem?_eq_some_iff.mp hv).1
      obtain ⟨t, ht⟩ := hvs.get i _ (List.getElem?_eq_getElem h1)
      rw [hv] at ht; cases ht
      exact ⟨_, _, rfl⟩
    (repeat' ((( (fail_if_success (with_reducible show PySem.wpAny _ _ (PySem.exec (PySem.Stmt.For _ _ _ _ _) _) _ _ _)); (fail_if_success (with_reducible show PySem.wpAny _ _ (PySem.exec (PySem.Stmt.While _ _ _ _) _) _ _ _)); first | (k_unfold; (try dsimp only)) | (first | ((with_reducible show PySem.wpAny _ _ (PySem.execs _ _) _ _ _); k_fold) | walk1 | (dsimp only; walk1)) | fail "no step"))))
    refine For_invV s.heap (by rfl) (by rfl) ?_ (by intro _; rfl) PassesOwn.never
    repeat ((fail_if_success (with_reducible show PySem.wpAny _ _ (PySem.pyIter _) _ _ _)); (first | ((with_reducible show PySem.wpAny _ _ (PySem.execs _ _) _ _ _); k_fold) | walk1 | (dsimp only; walk1)))
    rename News _ _ _ _ => N3
    rename Fr _ _ _ _ => F3
    rename_i l2 _ _
    have hl2 : @Ne Nat b l2 := by omega
    obtain ⟨T1, T2, hN3⟩ : ∃ T1 T2, News s.heap s.heap.objs.size _ [(l2, W.listOf #[Value.int (x.fmod 9) T1, Value.int ((x.fdiv 9).fmod 9) T2] 0), (I', oI), (b, W.listOf us.toArray k)] := ⟨_, _, N3⟩
    clear N3
    refine for_list (ax := l2) (oax := W.listOf #[Value.int (x.fmod 9) T1, Value.int ((x.fdiv 9).fmod 9) T2] 0) (its := [Value.int (x.fmod 9) T1, Value.int ((x.fdiv 9).fmod 9) T2]) [] (fun j c => ∃ (b2 : Addr) (us2 : List Value) (k2 : Nat), c.nms = [(Str.ofString "words", .ref b2)] ∧ c.led = [(b2, W.listOf us2.toArray k2), (l2, W.listOf #[Value.int (x.fmod 9) T1, Value.int ((x.fdiv 9).fmod 9) T2] 0), (I', oI)] ∧ @Ne Nat b2 l2 ∧ @Ne Nat b2 I' ∧ TxAre us2 (((places x).take j).foldl wstep (wordsOf (xs.take i))))
      ⟨[(b, W.listOf us.toArray k), (l2, W.listOf #[Value.int (x.fmod 9) T1, Value.int ((x.fdiv 9).fmod 9) T2] 0), (I', oI)], [(Str.ofString "words", .ref b)]⟩ rfl rfl ⟨0, rfl⟩ (.inr (by rintro j c ⟨b2, us2, k2, h1, h2, _, _, h3⟩; rw [h2]; exact .tail _ (.head _))) F3 (by ((refine cb_drop (by assumption) ?_; repeat (first | exact List.forall_mem_nil _ | refine fm_cons (by k_mem) ?_)))) (by ((repeat (first | exact List.forall_mem_nil _ | refine fm_cons (by with_unfolding_all rfl) ?_)))) ⟨b, us, k, rfl, rfl, hl2, hne, hus⟩ ?_ ?_
    · rintro j v ⟨led, nms⟩ u2 h2 tk2 I2' oI2 hv2 ⟨b2, us2, k2, hnms, hled, hbl, hbI, hus2⟩ hI2 F4 N4
      dsimp only at hnms hled F4 N4 hI2
      subst hnms hled
      have hne2 : @Ne Nat b2 I2' := hI2 _ (.head _)
      have hne3 : @Ne Nat l2 I2' := hI2 _ mem1
      have hne4 : @Ne Nat I' I2' := hI2 _ mem2
      obtain ⟨pl, tp, rfl, hp0, hp8, hpl⟩ : ∃ (pl : Int) (tp : Tok), v = .int pl tp ∧ 0 ≤ pl ∧ pl ≤ 8 ∧ (places x)[j]? = some pl := by
        rcases j with _ | _ | j
        · cases hv2
          refine ⟨_, _, rfl, ?_, ?_, ?_⟩
          · rw [Int.fmod_eq_emod_of_nonneg _ (by decide)]; omega
          · rw [Int.fmod_eq_emod_of_nonneg _ (by decide)]; omega
          · rw [Int.fmod_eq_emod_of_nonneg _ (by decide)]; rfl
        · cases hv2
          refine ⟨_, _, rfl, ?_, ?_, ?_⟩
          · rw [Int.fmod_eq_emod_of_nonneg _ (by decide)]; omega
          · rw [Int.fmod_eq_emod_of_nonneg _ (by decide)]; omega
          · rw [Int.fmod_eq_emod_of_nonneg _ (by decide), Int.fdiv_eq_ediv_of_nonneg _ (by decide)]; rfl
        · cases hv2
      have hxi : xs[i]? = some x := by
        have h1 : i < xs.length := by rw [← hvs.length]; exact (List.getElem?_eq_some_iff.mp hv).1
        obtain ⟨t, ht⟩ := hvs.get i _ (List.getElem?_eq_getElem h1)
        rw [hv] at ht; cases ht
        exact List.getElem?_eq_getElem h1
      obtain ⟨ps, hps, eps⟩ := foldw_at hn hxi hpl
      have hgo : ((places x).take (j + 1)).foldl wstep (wordsOf (xs.take i)) = wstep (ps.foldl wstep [[]]) pl := by
        rw [take_snoc hpl, List.foldl_append, eps]; rfl
      rw [eps] at hus2
      have hw1 := foldw_len ps [[]]
      have hw2 := foldw_max ps (ws := [[]]) (K := 0) (by simp)
      obtain ⟨ui, t2, l, wi, rfl, ewi, hui⟩ := txs_last hus2 (foldw_ne ps (by simp))
      rw [hgo, ewi]
      have hlu : ui.length ≤ 100 := by rw [paired_len hui]; rw [ewi] at hw1; simp at hw1; omega
      have hll : l.length ≤ 100 := by have := hw2 l (by rw [ewi]; simp); omega
      have hL : (tx l).length ≤ 100 := by rw [tx_length]; exact hll
      clear hgo hw1 hw2 eps hpl hus2
      show wpAny _ _ _ _ _ _
      k_fold
      (repeat' ((( (fail_if_success (with_reducible show PySem.wpAny _ _ (PySem.exec (PySem.Stmt.For _ _ _ _ _) _) _ _ _)); (fail_if_success (with_reducible show PySem.wpAny _ _ (PySem.exec (PySem.Stmt.While _ _ _ _) _) _ _ _)); first | (k_unfold; (try dsimp only)) | (first | ((with_reducible show PySem.wpAny _ _ (PySem.execs _ _) _ _ _); k_fold) | walk1 | (dsimp only; walk1)) | fail "no step"))))
      · rename pl = 8 => h8
        refine TurnPost.next (.inl rfl) ⟨[(b2, W.listOf (ui ++ [Value.str (tx l) t2] ++ [Value.str (Str.ofString "") _]).toArray (k2 + 1)), (l2, W.listOf #[Value.int (x.fmod 9) T1, Value.int ((x.fdiv 9).fmod 9) T2] 0), (I', oI)], [(Str.ofString "words", .ref b2)]⟩ (by assumption) (by ((refine cb_drop (by assumption) ?_; repeat (first | exact List.forall_mem_nil _ | refine fm_cons (by k_mem) ?_)))) (by ((repeat (first | exact List.forall_mem_nil _ | refine fm_cons (by first | assumption | k_ne) ?_)))) (by ((refine ⟨?n9, ?m9⟩; (case n9 => (repeat (first | exact List.forall_mem_nil _ | refine fm_cons (by with_unfolding_all rfl) ?_))); (case m9 => intro z h1 h2 h3; (((try dsimp only [kstB]); (repeat (first | refine st_if (st_ne (by assumption) (by rfl)) ?_ | refine st_if (by assumption) ?_ | refine st_if (by rename (∀ p, p ∈ _ → _ ≠ _) => h9; exact h9 _ (.head _)) ?_ | refine st_if (by rename (∀ p, p ∈ _ → _ ≠ _) => h9; exact h9 _ mem1) ?_ | refine st_if (by rename (∀ p, p ∈ _ → _ ≠ _) => h9; exact h9 _ mem2) ?_ | refine st_if (by rename (∀ p, p ∈ _ → _ ≠ _) => h9; exact h9 _ mem3) ?_)); first | exact st_bot (by assumption) | ((repeat (first | refine st_ifr (st_ne (by assumption) (by rfl)) ?_ | refine st_ifr (by assumption) ?_ | refine st_ifr (by rename (∀ p, p ∈ _ → _ ≠ _) => h9; exact h9 _ (.head _)) ?_ | refine st_ifr (by rename (∀ p, p ∈ _ → _ ≠ _) => h9; exact h9 _ mem1) ?_ | refine st_ifr (by rename (∀ p, p ∈ _ → _ ≠ _) => h9; exact h9 _ mem2) ?_ | refine st_ifr (by rename (∀ p, p ∈ _ → _ ≠ _) => h9; exact h9 _ mem3) ?_)); exact rfl))))))) ⟨b2, _, _, rfl, rfl, hbl, hbI, ?_⟩
        rw [wstep, if_pos h8]
        refine paired_app (paired_app hui (.cons ⟨_, rfl⟩ .nil)) (.cons ⟨_, by rw [show Str.ofString "" = tx [] by decide +kernel]⟩ .nil)
      · rename ¬pl = 8 => h8
        rename News _ _ _ _ => nE
        rw [sign_add hp0 hp8 h8] at nE
        rename_i D' _ _ _ _ _ _
        refine TurnPost.next (.inl rfl) ⟨[(D', W.listOf (ui ++ [Value.str (tx (l ++ [signOf pl.toNat])) _]).toArray 0), (l2, W.listOf #[Value.int (x.fmod 9) T1, Value.int ((x.fdiv 9).fmod 9) T2] 0), (I', oI)], [(Str.ofString "words", .ref D')]⟩ (by assumption) (by ((refine cb_drop (by assumption) ?_; repeat (first | exact List.forall_mem_nil _ | refine fm_cons (by k_mem) ?_)))) (by ((repeat (first | exact List.forall_mem_nil _ | refine fm_cons (by first | assumption | k_ne) ?_)))) (by ((refine ⟨?n9, ?m9⟩; (case n9 => (repeat (first | exact List.forall_mem_nil _ | refine fm_cons (by with_unfolding_all rfl) ?_))); (case m9 => intro z h1 h2 h3; (((try dsimp only [kstB]); (repeat (first | refine st_if (st_ne (by assumption) (by rfl)) ?_ | refine st_if (by assumption) ?_ | refine st_if (by rename (∀ p, p ∈ _ → _ ≠ _) => h9; exact h9 _ (.head _)) ?_ | refine st_if (by rename (∀ p, p ∈ _ → _ ≠ _) => h9; exact h9 _ mem1) ?_ | refine st_if (by rename (∀ p, p ∈ _ → _ ≠ _) => h9; exact h9 _ mem2) ?_ | refine st_if (by rename (∀ p, p ∈ _ → _ ≠ _) => h9; exact h9 _ mem3) ?_)); first | exact st_bot (by assumption) | ((repeat (first | refine st_ifr (st_ne (by assumption) (by rfl)) ?_ | refine st_ifr (by assumption) ?_ | refine st_ifr (by rename (∀ p, p ∈ _ → _ ≠ _) => h9; exact h9 _ (.head _)) ?_ | refine st_ifr (by rename (∀ p, p ∈ _ → _ ≠ _) => h9; exact h9 _ mem1) ?_ | refine st_ifr (by rename (∀ p, p ∈ _ → _ ≠ _) => h9; exact h9 _ mem2) ?_ | refine st_ifr (by rename (∀ p, p ∈ _ → _ ≠ _) => h9; exact h9 _ mem3) ?_)); exact rfl))))))) ⟨D', _, _, rfl, rfl, by omega, by omega, ?_⟩
        rw [wstep, if_neg h8, List.dropLast_concat, List.getLastD_concat]
        exact paired_app hui (.cons ⟨_, rfl⟩ .nil)
    · rintro ⟨led, nms⟩ u2 h2 tk2 ⟨b2, us2, k2, hnms, hled, hbl, hbI, hus2⟩ F4 N4
      dsimp only at hnms hled F4 N4
      subst hnms hled
      (repeat' ((( (fail_if_success (with_reducible show PySem.wpAny _ _ (PySem.exec (PySem.Stmt.For _ _ _ _ _) _) _ _ _)); (fail_if_success (with_reducible show PySem.wpAny _ _ (PySem.exec (PySem.Stmt.While _ _ _ _) _) _ _ _)); first | (k_unfold; (try dsimp only)) | (first | ((with_reducible show PySem.wpAny _ _ (PySem.execs _ _) _ _ _); k_fold) | walk1 | (dsimp only; walk1)) | fail "no step"))))
      refine TurnPost.next (.inl rfl) ⟨[(b2, W.listOf us2.toArray k2)], [(Str.ofString "words", .ref b2)]⟩ (by assumption) (by ((refine cb_drop (by assumption) ?_; repeat (first | exact List.forall_mem_nil _ | refine fm_cons (by k_mem) ?_)))) (by ((repeat (first | exact List.forall_mem_nil _ | refine fm_cons (by first | assumption | k_ne) ?_)))) (by ((refine ⟨?n9, ?m9⟩; (case n9 => (repeat (first | exact List.forall_mem_nil _ | refine fm_cons (by with_unfolding_all rfl) ?_))); (case m9 => intro z h1 h2 h3; (((try dsimp only [kstB]); (repeat (first | refine st_if (st_ne (by assumption) (by rfl)) ?_ | refine st_if (by assumption) ?_ | refine st_if (by rename (∀ p, p ∈ _ → _ ≠ _) => h9; exact h9 _ (.head _)) ?_ | refine st_if (by rename (∀ p, p ∈ _ → _ ≠ _) => h9; exact h9 _ mem1) ?_ | refine st_if (by rename (∀ p, p ∈ _ → _ ≠ _) => h9; exact h9 _ mem2) ?_ | refine st_if (by rename (∀ p, p ∈ _ → _ ≠ _) => h9; exact h9 _ mem3) ?_)); first | exact st_bot (by assumption) | ((repeat (first | refine st_ifr (st_ne (by assumption) (by rfl)) ?_ | refine st_ifr (by assumption) ?_ | refine st_ifr (by rename (∀ p, p ∈ _ → _ ≠ _) => h9; exact h9 _ (.head _)) ?_ | refine st_ifr (by rename (∀ p, p ∈ _ → _ ≠ _) => h9; exact h9 _ mem1) ?_ | refine st_ifr (by rename (∀ p, p ∈ _ → _ ≠ _) => h9; exact h9 _ mem2) ?_ | refine st_ifr (by rename (∀ p, p ∈ _ → _ ≠ _) => h9; exact h9 _ mem3) ?_)); exact rfl))))))) ⟨b2, us2, k2, rfl, rfl, ?_⟩
      have hxi : xs[i]? = some x := by
        have h1 : i < xs.length := by rw [← hvs.length]; exact (List.getElem?_eq_some_iff.mp hv).1
        obtain ⟨t, ht⟩ := hvs.get i _ (List.getElem?_eq_getElem h1)
        rw [hv] at ht; cases ht
        exact List.getElem?_eq_getElem h1
      rw [show wordsOf (xs.take (i + 1)) = (places x).foldl wstep (wordsOf (xs.take i)) by
        rw [take_snoc hxi, wordsOf, List.flatMap_append, List.foldl_append]; simp only [List.flatMap_cons, List.flatMap_nil, List.append_nil]; rfl]
      exact hus2
  · rintro ⟨led, nms⟩ u h tk ⟨b, us, k, hnms, hled, hus⟩ F1 N1
    dsimp only at hnms hled F1 N1
    subst hnms hled
    rw [List.take_of_length_le (by rw [← hvs.length]; exact Nat.le_refl _)] at hus
    (repeat' ((( (fail_if_success (with_reducible show PySem.wpAny _ _ (PySem.exec (PySem.Stmt.For _ _ _ _ _) _) _ _ _)); (fail_if_success (with_reducible show PySem.wpAny _ _ (PySem.exec (PySem.Stmt.While _ _ _ _) _) _ _ _)); first | (k_unfold; (try dsimp only)) | (first | ((with_reducible show PySem.wpAny _ _ (PySem.execs _ _) _ _ _); k_fold) | walk1 | (dsimp only; walk1)) | fail "no step"))))
    exact Done.intro (by assumption) ⟨b, us, k, rfl, (N1 _ (.head _)).2.2, (N1 _ (.head _)).1, hus⟩
example : True := by w_top off; trivial
theorem five {α : Type} : ∀ l : List α, l.length = 5 → ∃ a b c d e, l = [a, b, c, d, e]
  | [], h | [_], h | [_, _], h | [_, _, _], h | [_, _, _, _], h => by simp at h
  | [a, b, c, d, e], _ => ⟨a, b, c, d, e, rfl⟩
  | _ :: _ :: _ :: _ :: _ :: _ :: _, h => by simp at h
section
variable {prog : Program} {w : World} {A : Around} {E : Value → Shared → Prop} {s : Shared} {env : Env} {h₀ : Heap} {target : PySem.Expr} {body : List Stmt} {Q : Flow → Shared → Prop}
noncomputable def TurnG (h₀ : Heap) (L : Addr) (stored : List Str) (m₀ : Str → Option Value) (own : List (Addr × Obj)) (P : LSt → Prop) (s : Shared) (Q : Flow → Shared → Prop) (f : Flow) (s₂ : Shared) : Prop :=
  match f with
  | .ret v => Q (.ret v) s₂
  | .brk => Q .next s₂
  | _ => ∃ h' tk c m, s₂ = { s with heap := h', toks := tk } ∧ Fr h₀ L h' m ∧ News h₀ L h' (own ++ c.led) ∧ (∀ p ∈ c.led, ∀ q ∈ own, p.1 ≠ q.1) ∧ Same0 stored m₀ c m ∧ P c
theorem TurnG.next {L : Addr} {stored : List Str} {m₀ m : Str → Option Value} {own : List (Addr × Obj)} {P : LSt → Prop} {h' : Heap} {tk : Nat} {f : Flow} (hf : f = .next ∨ f = .cont) (c : LSt) (F : Fr h₀ L h' m) (N : News h₀ L h' (own ++ c.led)) (hI : ∀ p ∈ c.led, ∀ q ∈ own, p.1 ≠ q.1)
    (hs : Same0 stored m₀ c m) (hp : P c) : TurnG h₀ L stored m₀ own P s Q f { s with heap := h', toks := tk } := by
  rcases hf with rfl | rfl <;> exact ⟨h', tk, c, m, rfl, F, N, hI, hs, hp⟩
noncomputable def NoCode (o : Obj) : Prop := ∀ vs, o.data = .fields vs → ∀ q t, vs[1]? ≠ some (.str q t)
theorem turnsG (Pr : Obj → Prop) {I : Addr} {fp wr : List Addr} {n : Nat} {Pt Md : Nat → Value → Heap → Prop} {St : Nat → Heap → Prop} {m₀ : Str → Option Value} (ws : List Addr) (stored : List Str) (P : Nat → LSt → Prop) (c₀ : LSt)
    (W : KTurns prog w A target I fp wr n Pt Md St) (hLf : env.locals ∉ fp) (hws : ∀ b ∈ ws, b ∈ fp ∧ h₀.get? b = none) (hwr : ∀ b ∈ wr, b ∈ ws) (hst : St 0 s.heap) (hIo : ∀ i h, St i h → ∀ b ∈ ws, ∃ o, h.get? b = some o ∧ Pr o)
    (hfp : ∀ b ∈ fp, b ∈ ws ∨ (∃ o, h₀.get? b = some o) ∨ ∃ o, ∀ i c, P i c → (b, o) ∈ c.led)
    (F : Fr h₀ env.locals s.heap m₀) (N : News h₀ env.locals s.heap c₀.led) (hn : ∀ p ∈ c₀.led, p.1 ∉ ws) (hs₀ : ∀ p ∈ c₀.nms, m₀ p.1 = some p.2) (hp₀ : P 0 c₀)
    (turn : ∀ i v c (u : Str → Option Value) h tk own, i < n → Pt i v h → P i c → (∀ p ∈ c.led, p.1 ∉ ws) → own.map (·.1) = ws → (∀ q ∈ own, Pr q.2) → Fr h₀ env.locals h (kstB (fun z => if stored.contains z then u z else m₀ z) c.nms) → News h₀ env.locals h (own ++ c.led) →
      wpAny (model prog w) A (assign target env v) (fun _ s₂ => wpAny (model prog w) A (execs body env) (TurnG h₀ env.locals stored m₀ own (P (i + 1)) s Q) E s₂) E { s with heap := h, toks := tk })
    (done : ∀ c (u : Str → Option Value) h tk, P n c → Fr h₀ env.locals h (kstB (fun z => if stored.contains z then u z else m₀ z) c.nms) → News h₀ env.locals h c.led → Q .next { s with heap := h, toks := tk }) :
    TurnsAt prog w A h₀ env target body Q E (.ref I) s := by
  let J : Nat → (Str → Option Value) → List (Addr × Obj) → Prop := fun i m nx => ∃ c, nx = LSt.led c ∧ (∀ p ∈ LSt.led c, p.1 ∉ ws) ∧ Same0 stored m₀ c m ∧ P i c
  refine ⟨I, fp, wr, n, Pt, Md, St, m₀, c₀.led, J, rfl, W, hLf, (fun b hb => (hws b (hwr b hb)).2), (fun p hp hq => hn p hp (hwr _ hq)), hst, F, N, ⟨c₀, rfl, hn, ⟨hs₀, fun _ _ _ => rfl⟩, hp₀⟩, ?_, ?_⟩
  · rintro i v m₁ news₁ h tk own hin hPt ⟨c, rfl, hcw, hs, hP⟩ hoff hown hheld hall hst₁ F₁ N₁
    have hget : ∀ l : List Addr, (∀ b ∈ l, b ∈ ws) → ∃ o2 : List (Addr × Obj), o2.map (·.1) = l ∧ (∀ p ∈ o2, p ∈ own) ∧ ∀ p ∈ o2, Pr p.2 := by
      intro l
      induction l with
      | nil => exact fun _ => ⟨[], rfl, (fun _ h => nomatch h), fun _ h => nomatch h⟩
      | cons b r ih =>
        intro hl
        obtain ⟨o2, e1, e2, e3⟩ := ih fun x hx => hl x (.tail _ hx)
        obtain ⟨o, ho, hPr⟩ := hIo _ _ hst₁ b (hl b (.head _))
        refine ⟨(b, o) :: o2, by rw [← e1]; rfl, fun p hp => ?_, fun p hp => ?_⟩
        · apply mem_split p hp
          · exact hall b (hws b (hl b (.head _))).1 (hws b (hl b (.head _))).2 o ho
          intro hp
          · exact e2 p hp
        · apply mem_split p hp
          · exact hPr
          intro hp
          · exact e3 p hp
    obtain ⟨own2, eo, ho2, hPo⟩ := hget ws fun _ h => h
    refine wpAny_mono (turn i v c m₁ h tk own2 hin hPt hP hcw eo hPo (same0_fr hs F₁) (fun p hp => ?_)) (fun _ s₂ t => wpAny_mono t (fun f s₃ t => ?_) fun _ _ e => e) fun _ _ e => e
    · rcases List.mem_append.mp hp with hp | hp
      · exact N₁ _ (List.mem_append_left _ (ho2 p hp))
      · exact N₁ _ (List.mem_append_right _ hp)
    · have fin : (∃ h' tk' c' m, s₃ = { s with heap := h', toks := tk' } ∧ Fr h₀ env.locals h' m ∧ News h₀ env.locals h' (own2 ++ LSt.led c') ∧ (∀ p ∈ LSt.led c', ∀ q ∈ own2, p.1 ≠ q.1) ∧ Same0 stored m₀ c' m ∧ P (i + 1) c') →
          LoopStepU h₀ env.locals wr own (J (i + 1)) { s with heap := h, toks := tk } .next s₃ := by
        rintro ⟨h', tk', c', m, rfl, F', N', hI', hs', hP'⟩
        have hcw' : ∀ p ∈ LSt.led c', p.1 ∉ ws := by
          intro p hp hq
          rw [← eo] at hq
          obtain ⟨q, hq1, hq2⟩ := List.mem_map.mp hq
          exact hI' p hp q hq1 hq2.symm
        refine ⟨rfl, h', tk', m, c'.led, rfl, F', fun p hp => ?_, (fun p hp hq => hcw' p hp (hwr _ hq)), c', rfl, hcw', hs', hP'⟩
        rcases List.mem_append.mp hp with hp | hp
        · have hp1 : h.get? p.1 = some p.2 := hheld p hp
          rcases hfp p.1 (hown p hp) with e | ⟨o, e⟩ | ⟨o, e⟩
          · rw [← eo] at e
            obtain ⟨q, hq1, hq2⟩ := List.mem_map.mp e
            have h3 : h.get? q.1 = some q.2 := hheld q (ho2 q hq1)
            rw [hq2, hp1] at h3
            have hp' : p = q := Prod.ext hq2.symm (Option.some.inj h3)
            rw [hp']
            exact N' _ (List.mem_append_left _ hq1)
          · have := (N₁ p (List.mem_append_left _ hp)).2.2
            rw [e] at this; cases this
          · have e1 := (N₁ (p.1, o) (List.mem_append_right _ (e i c hP))).1
            have hp' : p = (p.1, o) := Prod.ext rfl (Option.some.inj (hp1.symm.trans e1))
            rw [hp']
            exact N' _ (List.mem_append_right _ (e (i + 1) c' hP'))
        · exact N' p (List.mem_append_right _ hp)
      cases f with
      | ret v => exact .ret t
      | brk => exact .brk t
      | next => exact .next (fin t)
      | cont => exact .cont (fin t)
  · rintro h tk m nx F₁ N₁ _ ⟨c, rfl, _, hs, hP⟩
    exact done c m h tk hP (same0_fr hs F₁) N₁
theorem list_G {ax : Addr} {oax : Obj} {its : List Value} {m₀ : Str → Option Value} (stored : List Str) (P : Nat → LSt → Prop) (c₀ : LSt) (hh : A.handled = none)
    (hcls : oax.cls = .type "list") (hdat : ∃ n, oax.data = .seq its.toArray n) (src : h₀.get? ax = some oax ∨ ∀ i c, P i c → (ax, oax) ∈ c.led)
    (F : Fr h₀ env.locals s.heap m₀) (N : News h₀ env.locals s.heap c₀.led) (hs₀ : ∀ p ∈ c₀.nms, m₀ p.1 = some p.2) (hp₀ : P 0 c₀)
    (turn : ∀ i v c (u : Str → Option Value) h tk I oI, its[i]? = some v → P i c → (∀ p ∈ c.led, p.1 ≠ I) → Fr h₀ env.locals h (kstB (fun z => if stored.contains z then u z else m₀ z) c.nms) → News h₀ env.locals h ((I, oI) :: c.led) →
      wpAny (model prog w) A (assign target env v) (fun _ s₂ => wpAny (model prog w) A (execs body env) (TurnG h₀ env.locals stored m₀ [(I, oI)] (P (i + 1)) s Q) E s₂) E { s with heap := h, toks := tk })
    (done : ∀ c (u : Str → Option Value) h tk, P its.length c → Fr h₀ env.locals h (kstB (fun z => if stored.contains z then u z else m₀ z) c.nms) → News h₀ env.locals h c.led → Q .next { s with heap := h, toks := tk }) :
    wpAny (model prog w) A (pyIter (.ref ax)) (fun it s₂ => TurnsAt prog w A h₀ env target body Q E it s₂) E s := by
  have hax : s.heap.get? ax = some oax ∧ ax ≠ env.locals := by
    rcases src with e | e
    · exact ⟨F.keep _ _ e, fun q => absurd (Nat.lt_of_lt_of_le (Heap.lt_size e) F.above) (q ▸ Nat.lt_irrefl _)⟩
    · exact ⟨(N _ (e 0 c₀ hp₀)).1, (N _ (e 0 c₀ hp₀)).2.1⟩
  have hl : s.heap.IsList ax its.toArray := ⟨oax, hax.1, hcls, hdat⟩
  have hlt : ax < s.heap.objs.size := Heap.lt_size hax.1
  refine wpAny_pyIter_list hl ?_
  have W := KTurns.ofWalks (target := target) (Walks.list (prog := prog) (w := w) hh s.heap.objs.size ax (Nat.ne_of_lt hlt) its.toArray) fun i v s Q E st q => letGo_listiter st.1 q
  refine turnsG (fun _ => True) (s := { s with heap := s.heap.push _ }) [s.heap.objs.size] stored P c₀ W ?_ ?_ (fun b hb => hb) ⟨⟨_, Heap.get?_push_size _ rfl, rfl, rfl⟩, hl.push _⟩ ?_ ?_ (F.push _) (fun p hp => ⟨Heap.get?_push_of_some _ (N p hp).1, (N p hp).2⟩) ?_ hs₀ hp₀ ?_ ?_
  · intro hm
    rcases List.mem_cons.mp hm with e | hm
    · exact absurd F.ns.lt (e ▸ Nat.lt_irrefl _)
    · exact hax.2 (List.mem_singleton.mp hm).symm
  · intro b hb
    apply mem_one b hb
    exact ⟨.head _, next_is_new F⟩
  · intro i h st b hb
    obtain ⟨o, ho, _⟩ := st.1
    apply mem_one b hb
    exact ⟨o, ho, True.intro⟩
  · intro b hb
    rcases List.mem_cons.mp hb with e | hb
    · exact .inl (e ▸ .head _)
    · apply mem_one b hb
      exact .inr (src.imp (fun e => ⟨_, e⟩) fun e => ⟨oax, e⟩)
  · intro p hp e
    exact absurd (Heap.lt_size (N p hp).1) ((List.mem_singleton.mp e) ▸ Nat.lt_irrefl _)
  · intro i v c u h tk own hi hv hP hc ho _ F' N'
    obtain ⟨⟨I, oI⟩, rfl⟩ : ∃ p, own = [p] := by
      rcases own with _ | ⟨p, _ | ⟨q, r⟩⟩
      · cases ho
      · exact ⟨p, rfl⟩
      · simp at ho
    have eI : I = s.heap.objs.size := by simpa using ho
    refine turn i v c u h tk I oI (by simpa using hv) hP (fun p hp e => hc p hp (by rw [e, eI]; exact .head _)) F' N'
  · intro c u h tk hP F' N'
    exact done c u h tk (by simpa using hP) F' N'
theorem zip_G {elts : List PySem.Expr} {kx : Nat} {pos : Pos} {l1 l2 : Addr} {lo1 lo2 : Obj} {xs ys : List Value} {n1 n2 : Nat} {m₀ : Str → Option Value} (stored : List Str) (P : Nat → LSt → Prop) (c₀ : LSt) (hh : A.handled = none)
    (hc1 : lo1.cls = .type "list") (hd1 : lo1.data = .seq xs.toArray n1) (hc2 : lo2.cls = .type "list") (hd2 : lo2.data = .seq ys.toArray n2) (src : ∀ i c, P i c → (l1, lo1) ∈ c.led ∧ (l2, lo2) ∈ c.led)
    (F : Fr h₀ env.locals s.heap m₀) (N : News h₀ env.locals s.heap c₀.led) (hs₀ : ∀ p ∈ c₀.nms, m₀ p.1 = some p.2) (hp₀ : P 0 c₀) (hlen : xs.length = ys.length)
    (turn : ∀ i x y T c (u : Str → Option Value) h tk z1 z2 z3 z4 z5 o1 o2 o3 o4 o5, xs[i]? = some x → ys[i]? = some y → P i c → IsTup h T #[x, y] → (∀ p ∈ c.led, p.1 ≠ z1 ∧ p.1 ≠ z2 ∧ p.1 ≠ z3 ∧ p.1 ≠ z4 ∧ p.1 ≠ z5) → (NoCode o1 ∧ NoCode o2 ∧ NoCode o3 ∧ NoCode o4 ∧ NoCode o5) →
      Fr h₀ env.locals h (kstB (fun z => if stored.contains z then u z else m₀ z) c.nms) → News h₀ env.locals h ([(z1, o1), (z2, o2), (z3, o3), (z4, o4), (z5, o5)] ++ c.led) →
      wpAny (model prog w) A (assign (.Tuple elts kx pos) env (.ref T)) (fun _ s₂ => wpAny (model prog w) A (execs body env) (TurnG h₀ env.locals stored m₀ [(z1, o1), (z2, o2), (z3, o3), (z4, o4), (z5, o5)] (P (i + 1)) s Q) E s₂) E { s with heap := h, toks := tk })
    (done : ∀ c (u : Str → Option Value) h tk, P xs.length c → Fr h₀ env.locals h (kstB (fun z => if stored.contains z then u z else m₀ z) c.nms) → News h₀ env.locals h c.led → Q .next { s with heap := h, toks := tk }) :
    wpAny (model prog w) A (call (.type "zip") [.ref l1, .ref l2]) (fun xv s₁ => wpAny (model prog w) A (pyIter xv) (fun it s₂ => TurnsAt prog w A h₀ env (.Tuple elts kx pos) body Q E it s₂) E s₁) E s := by
  have hm1 := (src 0 c₀ hp₀).1
  have hm2 := (src 0 c₀ hp₀).2
  have hax1 := N _ hm1
  have hax2 := N _ hm2
  have hl1 : s.heap.IsList l1 xs.toArray := ⟨lo1, hax1.1, hc1, n1, hd1⟩
  have hl2 : s.heap.IsList l2 ys.toArray := ⟨lo2, hax2.1, hc2, n2, hd2⟩
  have hlt1 : l1 < s.heap.objs.size := Heap.lt_size hax1.1
  have hlt2 : l2 < s.heap.objs.size := Heap.lt_size hax2.1
  have hLs : env.locals < s.heap.objs.size := F.ns.lt
  have D : ZipApart (s.heap.objs.size + 4) (s.heap.objs.size + 2) (s.heap.objs.size + 3) s.heap.objs.size (s.heap.objs.size + 1) l1 l2 := ktu_apart _ _ _ hlt1 hlt2
  refine call_zip_2 hl1 hl2 fun h' hz hTI hTO hi1 hi2 hsz hk => ?_
  refine wpAny_pyIter_zip hz ?_
  refine turnsG NoCode (s := { s with heap := h' }) [s.heap.objs.size + 4, s.heap.objs.size + 2, s.heap.objs.size + 3, s.heap.objs.size, s.heap.objs.size + 1] stored P c₀ (KTurns.ofWalksU (WalksT.zip2 hh _ _ _ _ _ _ _ D xs.toArray ys.toArray).toU) ?_ ?_ ?_ ?_ ?_ ?_ (F.keeps hk) (N.grown hk) ?_ hs₀ hp₀ ?_ ?_
  · intro hI'
    have hb' : env.locals = s.heap.objs.size + 4 ∨ env.locals = s.heap.objs.size + 2 ∨ env.locals = s.heap.objs.size + 3 ∨ env.locals = s.heap.objs.size ∨ env.locals = s.heap.objs.size + 1 ∨ env.locals = l1 ∨ env.locals = l2 := by simpa using hI'
    have n1 := hax1.2.1
    have n2 := hax2.2.1
    rcases hb' with e | e | e | e | e | e | e
    · exact ktu_ne 4 hLs e
    · exact ktu_ne 2 hLs e
    · exact ktu_ne 3 hLs e
    · exact Nat.ne_of_lt hLs e
    · exact ktu_ne 1 hLs e
    · exact n1 e.symm
    · exact n2 e.symm
  · intro b hb
    have hb' : b = s.heap.objs.size + 4 ∨ b = s.heap.objs.size + 2 ∨ b = s.heap.objs.size + 3 ∨ b = s.heap.objs.size ∨ b = s.heap.objs.size + 1 := by simpa using hb
    rcases hb' with rfl | rfl | rfl | rfl | rfl
    · exact ⟨by simp, ktu_new F (Nat.le_add_right _ _)⟩
    · exact ⟨by simp, ktu_new F (Nat.le_add_right _ _)⟩
    · exact ⟨by simp, ktu_new F (Nat.le_add_right _ _)⟩
    · exact ⟨by simp, ktu_new F (Nat.le_refl _)⟩
    · exact ⟨by simp, ktu_new F (Nat.le_add_right _ _)⟩
  · intro b hb
    have hb' : b = s.heap.objs.size + 4 ∨ b = s.heap.objs.size + 3 ∨ b = s.heap.objs.size ∨ b = s.heap.objs.size + 1 := by simpa using hb
    rcases hb' with rfl | rfl | rfl | rfl <;> simp
  · exact ⟨hz, hTI, ⟨.none, .none, hTO⟩, hi1, hi2, hl1.at fun o e => hk l1 o e, hl2.at fun o e => hk l2 o e⟩
  · rintro i h ⟨hz, hTI, ⟨a, b, hTO⟩, ⟨o1, ho1, _, hd1⟩, ⟨o2, ho2, _, hd2⟩, _⟩ c hb
    have hb' : c = s.heap.objs.size + 4 ∨ c = s.heap.objs.size + 2 ∨ c = s.heap.objs.size + 3 ∨ c = s.heap.objs.size ∨ c = s.heap.objs.size + 1 := by simpa using hb
    rcases hb' with rfl | rfl | rfl | rfl | rfl
    · exact ⟨_, hz, by intro vs e q t e2; cases e; revert e2; simp⟩
    · exact ⟨_, hTI, by intro vs e q t e2; cases e⟩
    · exact ⟨_, hTO, by intro vs e q t e2; cases e⟩
    · exact ⟨_, ho1, by intro vs e q t e2; rw [hd1] at e; cases e; cases e2⟩
    · exact ⟨_, ho2, by intro vs e q t e2; rw [hd2] at e; cases e; cases e2⟩
  · intro b hb
    have hb' : b = s.heap.objs.size + 4 ∨ b = s.heap.objs.size + 2 ∨ b = s.heap.objs.size + 3 ∨ b = s.heap.objs.size ∨ b = s.heap.objs.size + 1 ∨ b = l1 ∨ b = l2 := by simpa using hb
    rcases hb' with rfl | rfl | rfl | rfl | rfl | rfl | rfl
    · exact .inl (by simp)
    · exact .inl (by simp)
    · exact .inl (by simp)
    · exact .inl (by simp)
    · exact .inl (by simp)
    · exact .inr (.inr ⟨lo1, fun i c h => (src i c h).1⟩)
    · exact .inr (.inr ⟨lo2, fun i c h => (src i c h).2⟩)
  · intro p hp hI'
    have hb' : p.1 = s.heap.objs.size + 4 ∨ p.1 = s.heap.objs.size + 2 ∨ p.1 = s.heap.objs.size + 3 ∨ p.1 = s.heap.objs.size ∨ p.1 = s.heap.objs.size + 1 := by simpa using hI'
    have hlp := Heap.lt_size (N p hp).1
    rcases hb' with e | e | e | e | e
    · exact ktu_ne 4 hlp e
    · exact ktu_ne 2 hlp e
    · exact ktu_ne 3 hlp e
    · exact Nat.ne_of_lt hlp e
    · exact ktu_ne 1 hlp e
  · rintro i v c u h tk own hi ⟨T, vals, rfl, ⟨x, y, hx, hy, rfl⟩, hT⟩ hP hc ho hPo F' N'
    obtain ⟨z1, o1, z2, o2, z3, o3, z4, o4, z5, o5, rfl⟩ : ∃ z1 o1 z2 o2 z3 o3 z4 o4 z5 o5, own = [(z1, o1), (z2, o2), (z3, o3), (z4, o4), (z5, o5)] := by
      have hl5 : own.length = 5 := by have := congrArg List.length ho; simpa using this
      obtain ⟨a, b, c, d, e, h5⟩ := five own hl5
      exact ⟨a.1, a.2, b.1, b.2, c.1, c.2, d.1, d.2, e.1, e.2, h5⟩
    refine turn i x y T c u h tk z1 z2 z3 z4 z5 o1 o2 o3 o4 o5 (by simpa using hx) (by simpa using hy) hP hT (fun p hp => ?_) ⟨hPo _ (.head _), hPo _ mem1, hPo _ mem2, hPo _ mem3, hPo _ mem4⟩ F' N'
    have h1 := hc p hp
    rw [← ho] at h1
    simp only [List.map_cons, List.map_nil, List.mem_cons, List.not_mem_nil, or_false, not_or] at h1
    exact h1
  · intro c u h tk hP F' N'
    exact done c u h tk (by simpa [hlen] using hP) F' N'
end
example : True := by w_top off; trivial
open Builtin Builtin.Str PySem.StrLaws in
theorem occ_count (l : List Nat) (c limit : Nat) : ∀ (k a : Nat) (st : Array Nat × Nat), st.2 ≤ a → st.1.size + k ≤ limit → a + k = l.length + 1 →
    (forIn (List.range' a k) st (occBody (tx l) ⟨#[c]⟩ (tx l).length limit)).run.fst.size = st.fst.size + (l.drop a).count c
  | 0, a, st, _, _, h3 => by
    rw [List.drop_of_length_le (by omega)]; simp
  | k + 1, a, st, h1, h2, h3 => by
    rw [List.range'_succ, List.forIn_cons]
    unfold occBody
    by_cases hc : l[a]? = some c
    · have h4 := (subAt_one (tx l) c a).mpr (by simpa [tx] using hc)
      have hlt : a < l.length := (List.getElem?_eq_some_iff.mp hc).1
      rw [if_pos ⟨⟨⟨by omega, h1⟩, h4.1⟩, h4.2⟩]
      have ih := occ_count l c limit k (a + 1) (st.fst.push a, a + (⟨#[c]⟩ : Str).length) (Nat.le_refl _) (by simp only [Array.size_push]; omega) (by omega)
      refine ih.trans ?_
      have e : l.drop a = c :: l.drop (a + 1) := by
        rw [List.drop_eq_getElem_cons hlt]
        rw [List.getElem?_eq_getElem hlt] at hc
        rw [Option.some.inj hc]
      rw [e, List.count_cons_self]
      simp only [Array.size_push]; omega
    · have h4 : ¬ (a + (⟨#[c]⟩ : Str).length ≤ (tx l).length ∧ subAt (tx l) ⟨#[c]⟩ a = true) := fun h => hc (by simpa [tx] using (subAt_one (tx l) c a).mp h)
      rw [if_neg fun h => h4 ⟨h.1.2, h.2⟩]
      have ih := occ_count l c limit k (a + 1) (st.fst, st.snd) (Nat.le_trans h1 (Nat.le_succ _)) (by show st.1.size + k ≤ limit; omega) (by omega)
      refine ih.trans ?_
      congr 1
      by_cases hlt : a < l.length
      · have e : l.drop a = l[a] :: l.drop (a + 1) := List.drop_eq_getElem_cons hlt
        rw [e, List.count_cons_of_ne]
        intro e2
        exact hc (by rw [List.getElem?_eq_getElem hlt]; exact congrArg some e2)
      · rw [List.drop_of_length_le (by omega), List.drop_of_length_le (by omega)]
noncomputable def cntc (c : Nat) (l : List Nat) : Int := (l.count c : Int)
theorem cntc_range (c : Nat) (l : List Nat) : 0 ≤ cntc c l ∧ cntc c l ≤ l.length := by
  have := List.count_le_length (a := c) (l := l)
  unfold cntc; omega
theorem txt_count (l : List Nat) (c : Nat) : Txt.count (tx l) ⟨#[c]⟩ = cntc c l := by
  unfold Txt.count cntc
  rw [StrLaws.occ_eq, Array.length_toList]
  have e : (tx l).length + 1 - 0 = l.length + 1 := by simp [Str.length]
  rw [e, occ_count l c _ (l.length + 1) 0 (#[], 0) (Nat.le_refl _) (by simp [Str.length]) (by omega)]
  simp
section
variable {prog : Program} {w : World} {A : Around} {E : Value → Shared → Prop} {s : Shared} {Q : Value → Shared → Prop}
theorem cut_pure {M : Model} {c : Sem Value} {h₀ : Heap} {L : Addr} {m : Str → Option Value} {news : List (Addr × Obj)} {Q : Value → Shared → Prop} (P : Value → Prop) (_F : Fr h₀ L s.heap m) (_N : News h₀ L s.heap news)
    (h1 : wpAny M A c (fun v s' => P v ∧ ∃ h' tk, s' = { s with heap := h', toks := tk } ∧ Fr h₀ L h' m ∧ News h₀ L h' news) E s)
    (h2 : ∀ v h' tk, P v → Fr h₀ L h' m → News h₀ L h' news → Q v { s with heap := h', toks := tk }) : wpAny M A c Q E s :=
  wpAny_mono h1 (fun _ _ ⟨hp, h', tk, e, F', N'⟩ => e ▸ h2 _ h' tk hp F' N') fun _ _ e => e
theorem my_len {D : Addr} {vs : List Value} (hl : s.heap.IsList D vs.toArray) (hz : vs.length ≤ 100000) (h : ∀ t k, Q (.int (vs.length : Nat) t) { s with toks := k }) :
    wpAny (model prog w) A (call (.builtin "len") [.ref D]) Q E s :=
  PyProof.Rows.len_list hl (by simp only [List.size_toArray]; omega) (by simpa using h _ _)
theorem my_count {l : List Nat} {x y : Str} {t u : Tok} (c : Nat) (hx : x = tx l) (hy : y = ⟨#[c]⟩) (h : 0 ≤ cntc c l → cntc c l ≤ l.length → Q (.int (cntc c l) s.toks) { s with toks := s.toks + 1 }) :
    wpAny (model prog w) A (call (.builtin "str.count") [.str x t, .str y u]) Q E s := by
  subst hx hy
  refine SC.count ?_
  rw [txt_count]
  exact h (cntc_range c l).1 (cntc_range c l).2
theorem my_pow3 {b : Int} {t u : Tok} {k : Nat} (hk : Bd k b) (hk2 : k ≤ 100000) (h : Q (.int (b ^ 3) s.toks) { s with toks := s.toks + 1 }) :
    wpAny (model prog w) A (binaryOp .Pow (.int b t) (.int 3 u)) Q E s :=
  pow_int (by decide) (by have := hk.bits; omega) h
end
example : True := by w_top off; trivial
noncomputable def starAt (l : List Nat) (k : Int) : Bool := Txt.slice (tx l) (some (k - 1)) (some (k + 1)) == Str.ofString "**"
noncomputable def starsOf : List Nat → Int
  | a :: b :: r => (if a = 42 ∧ b = 42 then 1 else 0) + starsOf (b :: r)
  | _ => 0
theorem slice_tx {l : List Nat} {a b : Nat} (hab : a ≤ b) (hb : b ≤ l.length) : Txt.slice (tx l) (some (a : Int)) (some (b : Int)) = tx ((l.drop a).take (b - a)) := by
  have h := StrLaws.sliced_plain (tx l) (a := a) (b := b) hab (by simpa [Str.length] using hb)
  have hi := StrLaws.strSliceIndices_plain (a := a) (b := b) (len := (tx l).length) hab (by simpa [Str.length] using hb)
  unfold Txt.slice
  split
  · rename_i hc
    rw [hi] at hc
    simp only [List.length_map, List.length_range, tx_length, beq_self_eq_true, Bool.true_and, beq_iff_eq] at hc
    have ha : a = 0 := by omega
    subst ha
    rw [List.drop_zero, List.take_of_length_le (by omega)]
  · rw [h]
theorem tx_inj {a b : List Nat} (h : tx a = tx b) : a = b := by
  have := congrArg (fun s : Str => s.cps.toList) h
  simpa [tx] using this
theorem starAt_nat {l : List Nat} {i : Nat} (h : i + 1 < l.length) : starAt l (1 + (i : Int)) = decide (l[i]? = some 42 ∧ l[i + 1]? = some 42) := by
  unfold starAt
  have e1 : (1 + (i : Int)) - 1 = (i : Nat) := by omega
  have e2 : (1 + (i : Int)) + 1 = ((i + 2 : Nat) : Int) := by omega
  have e3 : Str.ofString "**" = tx [42, 42] := by decide +kernel
  rw [e1, e2, e3, slice_tx (by omega) (by omega)]
  have e4 : (l.drop i).take (i + 2 - i) = [l[i], l[i + 1]] := by
    rw [List.drop_eq_getElem_cons (by omega : i < l.length), List.drop_eq_getElem_cons (by omega : i + 1 < l.length)]
    rw [show i + 2 - i = 2 by omega]; rfl
  rw [e4, List.getElem?_eq_getElem (by omega : i < l.length), List.getElem?_eq_getElem h]
  by_cases hh : l[i] = 42 ∧ l[i + 1] = 42
  · rw [hh.1, hh.2]; simp
  · rw [show decide (some l[i] = some 42 ∧ some l[i + 1] = some 42) = false by simpa using hh]
    rw [beq_eq_false_iff_ne]
    intro e
    have := tx_inj e
    simp at this
    exact hh this
theorem fold_filter {α : Type} (p : α → Bool) : ∀ (ks acc : List α), ks.foldl (fun lk k => if p k = true then lk ++ [k] else lk) acc = acc ++ ks.filter p
  | [], acc => by simp
  | k :: r, acc => by
    rw [List.foldl_cons, fold_filter p r, List.filter_cons]
    split <;> simp
theorem stars_count : ∀ l : List Nat, (((List.range (l.length - 1)).countP fun i => decide (l[i]? = some 42 ∧ l[i + 1]? = some 42) : Nat) : Int) = starsOf l
  | [] => by simp [starsOf]
  | [_] => by simp [starsOf]
  | a :: b :: r => by
    have ih := stars_count (b :: r)
    rw [starsOf, ← ih]
    have e : (a :: b :: r).length - 1 = (b :: r).length - 1 + 1 := by simp
    rw [e, List.range_succ_eq_map, List.countP_cons, List.countP_map]
    have e2 : ((fun i => decide ((a :: b :: r)[i]? = some 42 ∧ (a :: b :: r)[i + 1]? = some 42)) ∘ Nat.succ) = fun i => decide ((b :: r)[i]? = some 42 ∧ (b :: r)[i + 1]? = some 42) := by
      funext i; simp
    rw [e2]
    have e3 : decide ((a :: b :: r)[0]? = some 42 ∧ (a :: b :: r)[0 + 1]? = some 42) = decide (a = 42 ∧ b = 42) := by simp
    rw [e3]
    by_cases h : a = 42 ∧ b = 42
    · rw [if_pos (by simpa using h), if_pos h]; omega
    · rw [if_neg (by simpa using h), if_neg h]; omega
theorem stars_len (l : List Nat) : (((rangeKs 1 ((l.length : Int) - 1).toNat).foldl (fun lk k => if starAt l k = true then lk ++ [k] else lk) []).length : Int) = starsOf l := by
  rw [fold_filter, List.nil_append, ← stars_count, ← List.countP_eq_length_filter]
  unfold rangeKs
  rw [List.countP_map, show ((l.length : Int) - 1).toNat = l.length - 1 by omega]
  congr 1
  refine List.countP_congr fun i hi => ?_
  have := List.mem_range.mp hi
  show starAt l (1 + (i : Int)) = true ↔ _
  rw [starAt_nat (by omega)]
theorem stars_range : ∀ l : List Nat, 0 ≤ starsOf l ∧ starsOf l ≤ l.length
  | [] => by simp [starsOf]
  | [_] => by simp [starsOf]
  | a :: b :: r => by
    have ih := stars_range (b :: r)
    rw [starsOf]
    simp only [List.length_cons] at ih ⊢
    split <;> omega
example : True := by w_top off; trivial
section
variable {prog : Program} {w : World} {A : Around} {E : Value → Shared → Prop} {s : Shared} {h₀ : Heap} {L : Addr} {m : Str → Option Value} {news : List (Addr × Obj)} {lo hi : Option Int} {vl vu vk : Value}
theorem pick_len (ns : List Int) (lo hi' st : Option Int) : (pickNums ns lo hi' st).length ≤ ns.length := by
  have hi : IntsAre (ns.map fun x => Value.int x 0) ns := by
    induction ns with
    | nil => exact .nil
    | cons a r ih => exact .cons _ _ ih
  have h1 := (hi.pick lo hi' st).length
  have h2 := slicePick_size_le (ns.map fun x => Value.int x 0).toArray lo hi' st
  have h3 := hi.length
  simp only [Array.length_toList, List.size_toArray] at h1 h2
  omega
theorem my_slice3 {value slice : PySem.Expr} {l : Addr} {vs : List Value} {ns : List Int} {st : Option Int} {ops : List Value} {Q : Value → Shared → Prop} (F : Fr h₀ L s.heap m) (N : News h₀ L s.heap news) (hl : s.heap.IsList l vs.toArray) (pl : IsPart vl lo) (pu : IsPart vu hi) (pk : IsPart vk st) (h0 : st ≠ some 0) (hi' : IntsAre vs ns) (hn : ns.length ≤ 100000)
    (h : ∀ D zs h', Fr h₀ L h' m → News h₀ L h' ((D, W.listOf (List.toArray zs) 0) :: news) → (∀ p ∈ news, p.1 < D) → IntsAre zs (pickNums ns lo hi st) → (pickNums ns lo hi st).length ≤ 100000 → Q (.ref D) { s with heap := h' })
    (hs : subscripted slice false (.ref l) (.ref s.heap.objs.size) = operate ops (getItem (.ref l) (.ref s.heap.objs.size))) (ht : ∀ r, letTemporaryGo value (.ref l) r = pure ()) :
    wpAny (model prog w) A (subscriptTail value slice (.ref l) (.ref s.heap.objs.size)) Q E { s with heap := s.heap.push { cls := .type "slice", data := .fields #[vl, vu, vk] } } :=
  kmk_slice3_lit F N hl pl pu pk h0 rfl (fun D h' F' N' l1 => h D _ h' F' N' l1 (hi'.pick lo hi st) (Nat.le_trans (pick_len ns lo hi st) hn)) hs ht (by simp only [sizeLine_eq, List.size_toArray, hi'.length]; omega)
end
local macro_rules | `(tactic| walk_at "subscriptTail Name Slice ref ref") => `(tactic| (k_here; (with_reducible show wpAny _ _ (subscriptTail _ (PySem.Expr.Slice _ _ (some _) _) (Value.ref _) (Value.ref _)) _ _ _); k_dflt (refine' my_slice3 ?F ?N ?l ?p ?q ?k ?o ?i ?n ?_ ?s ?t; fail "m m_fn"; (case l => kmk_list); (case p => kmk_part); (case q => kmk_part); (case k => kmk_part); (case o => decide); (case i => assumption); (case n => omega); (case s => with_unfolding_all rfl); (case t => kmk_pure)); intro D' zs' h' F' N' l1 hI' hL'; (try k_lt l1); (try k_sweep)))
theorem dealt_spec (w : World) (a b : Addr) (vs : List Value) (ns : List Int) (kb : Nat) (t1 t2 t3 t4 : Tok) (s : Shared) (I : Inv w s.heap) (ha : s.heap.IsList a vs.toArray) (hvs : IntsAre vs ns) (hn : ns.length ≤ 63)
    (hb : s.heap.get? b = some (W.listOf #[.int 37 t1, .int 76 t2, .int 2 t3, .int 5 t4] kb)) :
    PureN 30 w 115 [.ref a, .ref b] s (fun r h => ∃ b us xs k, r = .ref b ∧ s.heap.get? b = none ∧ h.get? b = some (W.listOf us.toArray k) ∧ IntsAre us xs ∧ xs.length = 4) := by
  unfold PureN
  have X := Inv.X I
  revert X
  k_fill
  intro X dp un fr gd E hdp hun
  (refine wpAny_call ?_)
  obtain ⟨p, loose, mean, mg, mb, T⟩ := Inv.T I
  k_dflt (refine' pure_def_cells (binds := [(Str.ofString "script", .ref a), (Str.ofString "starts", .ref b)]) X T ?ho ?hcd ?hroom ?hbind ?hkind ?hnd ?_ ?c2 ?c3 ?c4; (case ho => k_is); (case hcd => k_is); (case hroom => (show dp < _; omega)); (case hbind => exact BindsTo.of_eq rfl); (case hkind => exact rfl); (case hnd => decide +kernel); (case c2 => exact rfl); (case c3 => exact rfl); (case c4 => exact rfl))
  intro h₁ tk0 cells F N Y
  k_cells Y
  (try dsimp only)
  (try k_fold)
  have hbl : s.heap.IsList b #[.int 37 t1, .int 76 t2, .int 2 t3, .int 5 t4] := ⟨_, hb, rfl, _, rfl⟩
  have hb2 : s.heap.IsList b [Value.int 37 t1, Value.int 76 t2, Value.int 2 t3, Value.int 5 t4].toArray := ⟨_, hb, rfl, _, rfl⟩
  have hb3 : IntsAre [Value.int 37 t1, Value.int 76 t2, Value.int 2 t3, Value.int 5 t4] [37, 76, 2, 5] := .cons _ _ (.cons _ _ (.cons _ _ (.cons _ _ .nil)))
  (repeat' ((( (fail_if_success (with_reducible show PySem.wpAny _ _ (PySem.exec (PySem.Stmt.For _ _ _ _ _) _) _ _ _)); (fail_if_success (with_reducible show PySem.wpAny _ _ (PySem.exec (PySem.Stmt.While _ _ _ _) _) _ _ _)); first | (k_unfold; (try dsimp only)) | (first | ((with_reducible show PySem.wpAny _ _ (PySem.execs _ _) _ _ _); k_fold) | walk1 | (dsimp only; walk1)) | fail "no step"))))
  rename IntsAre _ (List.map _ _) => hI9
  rename Fr _ _ _ _ => F9
  rename News _ _ _ _ => N9
  refine Done.intro F9 ⟨_, _, _, _, rfl, (N9 _ (.head _)).2.2, by exact (N9 _ (.head _)).1, hI9, ?_⟩
  rw [List.length_map]
  decide +kernel
example : True := by w_top off; trivial
noncomputable def mStep (m : Int) (l : List Nat) : Int := if bareB l then m else m + (3 * cntc 39 l + 2)
noncomputable def qStep (q : Int) (l : List Nat) : Int := if bareB l then q + cntc 34 l else q + cntc 34 l + 2 * cntc 39 l
noncomputable def nStep (n : Int) (l : List Nat) : Int := if bareB l then n + ((l.length : Int) - starsOf l) else n + ((l.length : Int) - starsOf l) + (4 * cntc 39 l + 2)
noncomputable def riseOf (m B : Int) : Int := (m + 1) * (B - 1) - (B - 3)
noncomputable def top1 (bw : Bool) (m B : Int) : Int := if bw then 0 else B ^ 3 * (riseOf m B * (B - 1))
noncomputable def top2 (bw : Bool) (m q B : Int) : Int := if bw then 0 else B ^ 3 * (q * (B - 3) * (B - 1) + 2 * riseOf m B)
noncomputable def top3 (bw : Bool) (m n B : Int) : Int := if bw then B ^ 3 * n else B ^ 3 * (n * (B - 3) * (B - 1) + 4 * riseOf m B + 2 * (B - 3))
noncomputable def botOf (bw : Bool) (B : Int) : Int := if bw then B - 1 else (B - 3) * (B - 1) * (B - 1)
noncomputable def bareW (ws : List (List Nat)) : Bool := decide (ws.length = 1) && bareB (ws.headD [])
theorem Bd.three {k : Nat} {x : Int} (h : Bd k x) : Bd (k + k + k) (x ^ 3) := by
  rw [show x ^ 3 = x * x * x by rw [Int.pow_succ, Int.pow_succ, Int.pow_succ, Int.pow_zero, Int.one_mul]]
  exact (h.mul h).mul h
local macro_rules | `(tactic| walk_at "binaryOp Pow int int") => `(tactic| (refine my_pow3 (by assumption) (by omega) ?_))
local macro_rules | `(tactic| walk_at "binaryOp Mult int int") => `(tactic| ((refine' my_mul ?hk ?hl ?hkl ?_; (case hk => (repeat' ((with_reducible show Bd _ _); first | assumption | (refine' Bd.mul ?_ ?_) | (refine' Bd.sub ?_ ?_) | (refine' Bd.add ?_ ?_)))); (case hl => (repeat' ((with_reducible show Bd _ _); first | assumption | ((rename (∀ k, k ∈ _ → Bd 20000 k) => ha9); exact ha9 _ (by assumption)) | (refine' Bd.mul ?_ ?_) | (refine' Bd.sub ?_ ?_) | (refine' Bd.add ?_ ?_)))); (case hkl => exact Nat.le_of_ble_eq_true rfl))))
local macro_rules | `(tactic| walk_at "call builtin:len") => `(tactic| (k_here; (with_reducible show wpAny _ _ (call (Value.builtin "len") [Value.ref _]) _ _ _); k_dflt (refine' my_len ?l ?z ?_; (case l => first | assumption | kmk_list); (case z => omega)); intro t' k'))
local macro_rules | `(tactic| walk_at "call builtin:str.count") => `(tactic| (first | (refine my_count 39 rfl (by decide +kernel) ?_; intro c0 c1) | (refine my_count 34 rfl (by decide +kernel) ?_; intro c0 c1)))
local macro_rules | `(tactic| walk_at "eval ListComp") => `(tactic| (k_here; (with_reducible show wpAny _ _ (eval (PySem.Expr.ListComp _ [⟨_, _, _ :: _, _⟩] _ _) _) _ _ _); k_dflt (refine LCt.ListComp_T (F₀ := by k_asm) (by with_unfolding_all rfl) (by decide) (by rfl) (by decide) (by rfl) ?_)))
theorem tops_spec (w : World) (a : Addr) (vs : List Value) (ws : List (List Nat)) (wd : Nat) (B : Int) (tb : Tok) (s : Shared) (I : Inv w s.heap) (ha : s.heap.IsList a vs.toArray) (hvs : TxAre vs ws) (hn : ws.length ≤ 100) (hne : ws ≠ [])
    (hok : ∀ l ∈ ws, ∀ c ∈ l, okC c = true) (hl : ∀ l ∈ ws, l.length ≤ 100) (hB : B = 2 ^ wd) (hw1 : 2000 ≤ wd) (hw2 : wd ≤ 2200) :
    PureN 30 w 151 [.ref a, .int B tb] s (fun r h => ∃ D b oD u1 u2 u3 u4 k nD, r = .ref D ∧ s.heap.get? D = none ∧ s.heap.get? b = none ∧ b ≠ D ∧ h.get? D = some oD ∧ oD.cls = .type "tuple" ∧ oD.data = .seq #[.ref b, .int (botOf (bareW ws) B) u4] nD ∧
      h.get? b = some (W.listOf #[.int (top1 (bareW ws) (ws.foldl mStep 0) B) u1, .int (top2 (bareW ws) (ws.foldl mStep 0) (ws.foldl qStep 0) B) u2, .int (top3 (bareW ws) (ws.foldl mStep 0) (ws.foldl nStep ((ws.length : Int) - 1)) B) u3] k)) := by
  unfold PureN
  have X := Inv.X I
  revert X
  k_fill
  intro X dp un fr gd E hdp hun
  (refine wpAny_call ?_)
  obtain ⟨p, loose, mean, mg, mb, T⟩ := Inv.T I
  k_dflt (refine' pure_def_cells (binds := [(Str.ofString "words", .ref a), (Str.ofString "base", .int B tb)]) X T ?ho ?hcd ?hroom ?hbind ?hkind ?hnd ?_ ?c2 ?c3 ?c4; (case ho => k_is); (case hcd => k_is); (case hroom => (show dp < _; omega)); (case hbind => exact BindsTo.of_eq rfl); (case hkind => exact rfl); (case hnd => decide +kernel); (case c2 => exact rfl); (case c3 => exact rfl); (case c4 => exact rfl))
  intro h₁ tk0 cells F N Y
  k_cells Y
  (try dsimp only)
  show wpAny _ _ _ _ _ _
  k_fold
  have hvl : vs.length = ws.length := paired_len hvs
  obtain ⟨l0, t0, ws', vs', rfl, rfl, hvs'⟩ : ∃ l0 t0 ws' vs', vs = Value.str (tx l0) t0 :: vs' ∧ ws = l0 :: ws' ∧ TxAre vs' ws' := by
    cases hvs with
    | nil => exact absurd rfl hne
    | cons hd r => obtain ⟨t, rfl⟩ := hd; exact ⟨_, _, _, _, rfl, rfl, r⟩
  have hFl : (s.heap.IsList a (Value.str (tx l0) t0 :: vs').toArray) := ha
  repeat ((fail_if_success (with_reducible show PySem.wpAny _ _ (PySem.eval (PySem.Expr.BoolOp _ _ _) _) _ _ _)); (first | ((with_reducible show PySem.wpAny _ _ (PySem.execs _ _) _ _ _); k_fold) | walk1 | (dsimp only; walk1)))
  have ok0 : ∀ c ∈ l0, okC c = true := hok l0 (.head _)
  have hl0 : l0.length ≤ 100 := hl l0 (.head _)
  refine cut_pure (fun v => v = .bool (decide (ws'.length = 0) && bareB l0)) F N ?_ ?_
  · (repeat' ((( (fail_if_success (with_reducible show PySem.wpAny _ _ (PySem.exec (PySem.Stmt.For _ _ _ _ _) _) _ _ _)); (fail_if_success (with_reducible show PySem.wpAny _ _ (PySem.exec (PySem.Stmt.While _ _ _ _) _) _ _ _)); first | (k_unfold; (try dsimp only)) | (first | ((with_reducible show PySem.wpAny _ _ (PySem.execs _ _) _ _ _); k_fold) | walk1 | (dsimp only; walk1)) | fail "no step"))))
    all_goals (first | assumption | skip)
    · rename ((_ : Nat) : Int) = 1 => e1
      have e2 : ws'.length = 0 := by rw [← paired_len hvs']; simp only [List.length_cons] at e1; omega
      simp [e2]
    · rename ((_ : Nat) : Int) ≠ 1 => e1
      have e2 : ¬ ws'.length = 0 := by rw [← paired_len hvs']; intro e3; exact e1 (by simp [e3])
      have e4 : ¬ vs'.length = 0 := by rw [paired_len hvs']; exact e2
      simp [e2]
      omega
  · rintro v h2 tk2 rfl F2 N2
    clear F N
    rename_i ow ob dw db
    (repeat' ((( (fail_if_success (with_reducible show PySem.wpAny _ _ (PySem.exec (PySem.Stmt.For _ _ _ _ _) _) _ _ _)); (fail_if_success (with_reducible show PySem.wpAny _ _ (PySem.exec (PySem.Stmt.While _ _ _ _) _) _ _ _)); first | (k_unfold; (try dsimp only)) | (first | ((with_reducible show PySem.wpAny _ _ (PySem.execs _ _) _ _ _); k_fold) | walk1 | (dsimp only; walk1)) | fail "no step"))))
    rename Fr _ _ _ _ => F3
    refine For_turns F3 ?_
    walk1
    obtain ⟨oa, hoa, hc, hd⟩ := ha
    rename News _ _ _ _ => N3
    refine list_G [] (fun i c => ∃ (m q n : Int) (tm tq tn : Tok) (ow2 : Obj) (vw : Option Value), c.nms = [(Str.ofString "marks", .int m tm), (Str.ofString "quotes", .int q tq), (Str.ofString "count", .int n tn)] ∧ c.led = [(s.heap.objs.size + 1 + 1, ow2), (s.heap.objs.size + 1, ob)] ∧ ow2.data = .cell vw ∧
        m = ((l0 :: ws').take i).foldl mStep 0 ∧ q = ((l0 :: ws').take i).foldl qStep 0 ∧ n = ((l0 :: ws').take i).foldl nStep ws'.length ∧ 0 ≤ m ∧ m ≤ 310 * i ∧ 0 ≤ q ∧ q ≤ 310 * i ∧ 0 ≤ n ∧ n ≤ 100 + 510 * i)
      ⟨[(s.heap.objs.size + 1 + 1, ow), (s.heap.objs.size + 1, ob)], [(Str.ofString "marks", .int 0 _), (Str.ofString "quotes", .int 0 _), (Str.ofString "count", .int _ _)]⟩ rfl hc hd (.inl hoa) F3 N3 (by ((repeat (first | exact List.forall_mem_nil _ | refine fm_cons (by with_unfolding_all rfl) ?_)))) ⟨0, 0, _, _, _, _, ow, none, rfl, rfl, dw, rfl, rfl, ?_, by omega, by omega, by omega, by omega, ?_, ?_⟩ ?_ ?_
    · rw [← paired_len hvs']; simp
    · simp
    · have := paired_len hvs'; simp only [List.length_cons] at hn ⊢; omega
    · intro i v z19 u h tk I' oI hv z29 hI F4 N4
      show wpAny _ _ _ _ _ _
      k_fold
      obtain ⟨led, nms⟩ := z19
      obtain ⟨m, q, n, tm, tq, tn, ow2, vw, hnms, hled, dw2, em, eq, en, hm0, hm1, hq0, hq1, hn0, hn1⟩ := z29
      dsimp only at hnms hled F4 N4 hI
      subst hnms hled
      have hne1 : @Ne Nat (s.heap.objs.size + 1 + 1) I' := hI _ (.head _)
      have hne2 : @Ne Nat (s.heap.objs.size + 1) I' := hI _ mem1
      obtain ⟨l, hlw, t, rfl⟩ := paired_at hvs i _ hv
      have hokl := hok l (List.mem_of_getElem? hlw)
      have hll := hl l (List.mem_of_getElem? hlw)
      have hil : i < (l0 :: ws').length := (List.getElem?_eq_some_iff.mp hlw).1
      have hL : (tx l).length ≤ 100 := by rw [tx_length]; exact hll
      clear F3 N3
      repeat ((fail_if_success (with_reducible show LCt.CompSrcT _ _ _ _ _ _ _ _ _ _ _ _ _ _ _)); (first | ((with_reducible show PySem.wpAny _ _ (PySem.execs _ _) _ _ _); k_fold) | walk1 | (dsimp only; walk1)))
      refine LCt.CompSrcT.range (by rfl) (by k_asm) (by k_asm) (by assumption) (small_one (by omega) (by omega) (by omega) (by omega)) (rangeSize_nat _ _) (by rw [sizeLine_eq]; omega) ?_
      intro g'
      refine kci_range (fun lk k => if starAt l k = true then lk ++ [k] else lk) (fun k' t' J oJ C' oC' D' m' ys' l' h' tk' E' hlo' hhi' hI' hC' hx' F' N' off' ne' => ?_) ?_ ?_
      · simp only [LCg.Off3, and_true] at off'
        intro hMark'
        k_fold
        repeat' ((fail_if_success (with_reducible show PySem.W.KCiEl _ _ _ _ _)); (fail_if_success (with_reducible show PySem.W.KCiNo _ _ _ _)); (( (fail_if_success (with_reducible show PySem.wpAny _ _ (PySem.exec (PySem.Stmt.For _ _ _ _ _) _) _ _ _)); (fail_if_success (with_reducible show PySem.wpAny _ _ (PySem.exec (PySem.Stmt.While _ _ _ _) _) _ _ _)); first | (k_unfold; (try dsimp only)) | (first | ((with_reducible show PySem.wpAny _ _ (PySem.execs _ _) _ _ _); k_fold) | walk1 | (dsimp only; walk1)) | fail "no step")))
        · refine kci_el ?_ rfl rfl
          rw [if_pos (by assumption)]
        · refine kci_no ?_ rfl
          rename (_ == _) = false => hno
          rw [if_neg (by unfold starAt; rw [hno]; decide)]
      · walk1
        (repeat' ((( (fail_if_success (with_reducible show PySem.wpAny _ _ (PySem.exec (PySem.Stmt.For _ _ _ _ _) _) _ _ _)); (fail_if_success (with_reducible show PySem.wpAny _ _ (PySem.exec (PySem.Stmt.While _ _ _ _) _) _ _ _)); first | (k_unfold; (try dsimp only)) | (first | ((with_reducible show PySem.wpAny _ _ (PySem.execs _ _) _ _ _); k_fold) | walk1 | (dsimp only; walk1)) | fail "no step"))))
        · rename bareB l = true => hb
          rename IntsAre _ (List.foldl _ _ _) => hI8
          have hst := stars_len l
          have e8 := hI8.length
          rw [tx_length] at e8
          rw [← e8] at hst
          have hsr := stars_range l
          have hcr := cntc_range 34 l
          refine TurnG.next (.inl rfl) ⟨[(s.heap.objs.size + 1 + 1, _), (s.heap.objs.size + 1, ob)], [(Str.ofString "marks", .int m _), (Str.ofString "quotes", .int (q + cntc 34 l) _), (Str.ofString "count", .int (n + (((tx l).length : Int) - (List.length _ : Int))) _)]⟩ (by assumption) (by ((refine cb_drop (by assumption) ?_; repeat (first | exact List.forall_mem_nil _ | refine fm_cons (by k_mem) ?_)))) (by intro p hp r hr; rw [List.mem_singleton.mp hr]; rcases List.mem_cons.mp hp with rfl | hp; exact hne1; rw [List.mem_singleton.mp hp]; exact hne2) (by ((refine ⟨?n9, ?m9⟩; (case n9 => (repeat (first | exact List.forall_mem_nil _ | refine fm_cons (by with_unfolding_all rfl) ?_))); (case m9 => intro z h2 h3; (((try dsimp only [kstB]); (repeat (first | refine st_if (st_ne (by assumption) (by rfl)) ?_ | refine st_if (by assumption) ?_ | refine st_if (by rename (∀ p, p ∈ _ → _ ≠ _) => h9; exact h9 _ (.head _)) ?_ | refine st_if (by rename (∀ p, p ∈ _ → _ ≠ _) => h9; exact h9 _ mem1) ?_ | refine st_if (by rename (∀ p, p ∈ _ → _ ≠ _) => h9; exact h9 _ mem2) ?_ | refine st_if (by rename (∀ p, p ∈ _ → _ ≠ _) => h9; exact h9 _ mem3) ?_)); first | exact st_bot (by assumption) | ((repeat (first | refine st_ifr (st_ne (by assumption) (by rfl)) ?_ | refine st_ifr (by assumption) ?_ | refine st_ifr (by rename (∀ p, p ∈ _ → _ ≠ _) => h9; exact h9 _ (.head _)) ?_ | refine st_ifr (by rename (∀ p, p ∈ _ → _ ≠ _) => h9; exact h9 _ mem1) ?_ | refine st_ifr (by rename (∀ p, p ∈ _ → _ ≠ _) => h9; exact h9 _ mem2) ?_ | refine st_ifr (by rename (∀ p, p ∈ _ → _ ≠ _) => h9; exact h9 _ mem3) ?_)); exact rfl))))))) ⟨_, _, _, _, _, _, _, _, rfl, rfl, by assumption, ?_, ?_, ?_, ?_, ?_, ?_, ?_, ?_, ?_⟩
          all_goals (try (rw [take_snoc hlw, List.foldl_append, List.foldl_cons, List.foldl_nil]))
          · rw [← em, mStep, if_pos hb]
          · rw [← eq, qStep, if_pos hb]
          · rw [← en, nStep, if_pos hb, hst, tx_length]
          · exact hm0
          · push_cast; omega
          · omega
          · push_cast; omega
          · rw [hst, tx_length]; omega
          · rw [hst, tx_length]; push_cast; omega
        · rename bareB l = false => hb
          rename IntsAre _ (List.foldl _ _ _) => hI8
          have hst := stars_len l
          have e8 := hI8.length
          rw [tx_length] at e8
          rw [← e8] at hst
          have hsr := stars_range l
          have hcr := cntc_range 34 l
          have hcs := cntc_range 39 l
          have hbn : ¬ bareB l = true := by rw [hb]; decide
          refine TurnG.next (.inl rfl) ⟨[(s.heap.objs.size + 1 + 1, _), (s.heap.objs.size + 1, ob)], [(Str.ofString "marks", .int (m + (3 * cntc 39 l + 2)) _), (Str.ofString "quotes", .int (q + cntc 34 l + 2 * cntc 39 l) _), (Str.ofString "count", .int (n + (((tx l).length : Int) - (List.length _ : Int)) + (4 * cntc 39 l + 2)) _)]⟩ (by assumption) (by ((refine cb_drop (by assumption) ?_; repeat (first | exact List.forall_mem_nil _ | refine fm_cons (by k_mem) ?_)))) (by intro p hp r hr; rw [List.mem_singleton.mp hr]; rcases List.mem_cons.mp hp with rfl | hp; exact hne1; rw [List.mem_singleton.mp hp]; exact hne2) (by ((refine ⟨?n9, ?m9⟩; (case n9 => (repeat (first | exact List.forall_mem_nil _ | refine fm_cons (by with_unfolding_all rfl) ?_))); (case m9 => intro z h2 h3; (((try dsimp only [kstB]); (repeat (first | refine st_if (st_ne (by assumption) (by rfl)) ?_ | refine st_if (by assumption) ?_ | refine st_if (by rename (∀ p, p ∈ _ → _ ≠ _) => h9; exact h9 _ (.head _)) ?_ | refine st_if (by rename (∀ p, p ∈ _ → _ ≠ _) => h9; exact h9 _ mem1) ?_ | refine st_if (by rename (∀ p, p ∈ _ → _ ≠ _) => h9; exact h9 _ mem2) ?_ | refine st_if (by rename (∀ p, p ∈ _ → _ ≠ _) => h9; exact h9 _ mem3) ?_)); first | exact st_bot (by assumption) | ((repeat (first | refine st_ifr (st_ne (by assumption) (by rfl)) ?_ | refine st_ifr (by assumption) ?_ | refine st_ifr (by rename (∀ p, p ∈ _ → _ ≠ _) => h9; exact h9 _ (.head _)) ?_ | refine st_ifr (by rename (∀ p, p ∈ _ → _ ≠ _) => h9; exact h9 _ mem1) ?_ | refine st_ifr (by rename (∀ p, p ∈ _ → _ ≠ _) => h9; exact h9 _ mem2) ?_ | refine st_ifr (by rename (∀ p, p ∈ _ → _ ≠ _) => h9; exact h9 _ mem3) ?_)); exact rfl))))))) ⟨_, _, _, _, _, _, _, _, rfl, rfl, by assumption, ?_, ?_, ?_, ?_, ?_, ?_, ?_, ?_, ?_⟩
          all_goals (try (rw [take_snoc hlw, List.foldl_append, List.foldl_cons, List.foldl_nil]))
          · rw [← em, mStep, if_neg hbn]
          · rw [← eq, qStep, if_neg hbn]
          · rw [← en, nStep, if_neg hbn, hst, tx_length]
          · omega
          · push_cast; omega
          · omega
          · push_cast; omega
          · rw [hst, tx_length]; omega
          · rw [hst, tx_length]; push_cast; omega
      · intro lk k
        dsimp only
        split <;> simp
    · rintro ⟨led, nms⟩ u h tk ⟨m, q, n, tm, tq, tn, ow2, vw, hnms, hled, dw2, em, eq, en, hm0, hm1, hq0, hq1, hn0, hn1⟩ F4 N4
      dsimp only at hnms hled F4 N4
      subst hnms hled
      have hlen2 : (Value.str (tx l0) t0 :: vs').length ≤ 100 := by rw [hvl]; exact hn
      rw [hvl] at em eq en
      rw [List.take_length] at em eq en
      have hBd : Bd 2201 B := by rw [hB]; exact (Bd.pow wd).mono (by omega)
      have hmB : Bd 20 m := Bd.small (by omega) (Nat.le_refl _)
      have hqB : Bd 20 q := Bd.small (by omega) (Nat.le_refl _)
      have hnB : Bd 20 n := Bd.small (by omega) (Nat.le_refl _)
      have b1 : Bd 20 1 := Bd.small (by decide) (Nat.le_refl _)
      have b2 : Bd 20 2 := Bd.small (by decide) (Nat.le_refl _)
      have b3 : Bd 20 3 := Bd.small (by decide) (Nat.le_refl _)
      have b4 : Bd 20 4 := Bd.small (by decide) (Nat.le_refl _)
      have hB3 := hBd.three
      have hall : ∀ k, k ∈ [((m + 1) * (B - 1) - (B - 3)) * (B - 1), q * (B - 3) * (B - 1) + 2 * ((m + 1) * (B - 1) - (B - 3)), n * (B - 3) * (B - 1) + 4 * ((m + 1) * (B - 1) - (B - 3)) + 2 * (B - 3)] → Bd 20000 k := by
        have hr := ((hmB.add b1).mul (hBd.sub b1)).sub (hBd.sub b3)
        intro k hk
        apply mem_split k hk
        · exact (hr.mul (hBd.sub b1)).mono (by decide)
        intro hk
        apply mem_split k hk
        · exact (((hqB.mul (hBd.sub b3)).mul (hBd.sub b1)).add (b2.mul hr)).mono (by decide)
        intro hk
        apply mem_one k hk
        exact ((((hnB.mul (hBd.sub b3)).mul (hBd.sub b1)).add (b4.mul hr)).add (b2.mul (hBd.sub b3))).mono (by decide)
      clear F3 N3
      (repeat' ((( (fail_if_success (with_reducible show PySem.wpAny _ _ (PySem.exec (PySem.Stmt.For _ _ _ _ _) _) _ _ _)); (fail_if_success (with_reducible show PySem.wpAny _ _ (PySem.exec (PySem.Stmt.While _ _ _ _) _) _ _ _)); first | (k_unfold; (try dsimp only)) | (first | ((with_reducible show PySem.wpAny _ _ (PySem.execs _ _) _ _ _); k_fold) | walk1 | (dsimp only; walk1)) | fail "no step"))))
      all_goals (
        have el : (((l0 :: ws').length : Nat) : Int) - 1 = (ws'.length : Int) := by simp
        refine Done.intro (by assumption) ?_
        rename News _ _ _ _ => nE
        rename (_ < _ ∧ _) => l19
        rename (decide _ && bareB l0) = _ => hb9
        have hbw : bareW (l0 :: ws') = (decide (ws'.length = 0) && bareB l0) := by unfold bareW; simp
        rw [el, ← em, ← eq, ← en, hbw, hb9])
      · exact ⟨_, _, _, _, _, _, _, _, _, rfl, (nE _ (.head _)).2.2, (nE _ mem1).2.2, Nat.ne_of_lt l19.1, (nE _ (.head _)).1, rfl, rfl, (nE _ mem1).1⟩
      · rename IntsAre _ (List.map _ _) => hI9
        cases hI9 with
        | cons _ u1 r1 => cases r1 with
          | cons _ u2 r2 => cases r2 with
            | cons _ u3 r3 => cases r3 with
              | nil => exact ⟨_, _, _, _, _, _, _, _, _, rfl, (nE _ (.head _)).2.2, (nE _ mem1).2.2, Nat.ne_of_lt l19.1, (nE _ (.head _)).1, rfl, rfl, (nE _ mem1).1⟩
example : True := by w_top off; trivial
section
variable {w : World} {A : Around} {E : Value → Shared → Prop} {Q : Value → Shared → Prop} {s : Shared} {h₀ : Heap} {L : Addr} {m : Str → Option Value} {news : List (Addr × Obj)}
theorem ne_fresh {p b : Addr} {o : Obj} (N : News h₀ L s.heap news) (hm : (p, o) ∈ news) (hb : s.heap.get? b = none) : @Ne Nat p b := by
  intro e
  have := (N _ hm).1
  rw [show (p, o).1 = b from e, hb] at this; cases this
noncomputable def OffAll (D : Addr) : List (Addr × Obj) → Prop
  | [] => True
  | p :: r => @Ne Nat p.1 D ∧ OffAll D r
theorem OffAll.get {D p : Addr} {o : Obj} {news : List (Addr × Obj)} (h : OffAll D news) (hm : (p, o) ∈ news) : @Ne Nat p D := by
  induction news with
  | nil => cases hm
  | cons q r ih => cases hm with
    | head => exact h.1
    | tail _ hm => exact ih h.2 hm
theorem off_fresh {b : Addr} : ∀ {news : List (Addr × Obj)}, News h₀ L s.heap news → s.heap.get? b = none → OffAll b news
  | [], _, _ => True.intro
  | p :: _, N, hb => ⟨ne_fresh N (p := p.1) (o := p.2) (.head _) hb, off_fresh (fun q hq => N q (.tail _ hq)) hb⟩
theorem use_dealt {a b : Addr} {vs : List Value} {ns : List Int} {kb : Nat} {t1 t2 t3 t4 : Tok} (I : Inv w h₀) (F : Fr h₀ L s.heap m) (N : News h₀ L s.heap news) (ha : s.heap.IsList a vs.toArray) (hvs : IntsAre vs ns) (hn : ns.length ≤ 63)
    (hb : (b, W.listOf #[Value.int 37 t1, Value.int 76 t2, Value.int 2 t3, Value.int 5 t4] kb) ∈ news)
    (hh : A.handled = none) (hd : A.depth + 30 < recursionLimit) (hu : A.units + 100 + 10 * 30 < cLine)
    (h : ∀ D us xs k h' tk, Fr h₀ L h' m → News h₀ L h' ((D, W.listOf (List.toArray us) k) :: news) → OffAll D news → IntsAre us xs → xs.length = 4 → Q (.ref D) { s with heap := h', toks := tk }) :
    wpAny (model PySem.Challenge.rw_ik0159_01.row.prog w) A (call (.ref 115) [.ref a, .ref b]) Q E s :=
  (dealt_spec w a b vs ns kb t1 t2 t3 t4 s (I.keeps F.keep) ha hvs hn (N.get hb)).use hh hd hu fun v h' tk hk hv => by
    obtain ⟨D, us, xs, k, rfl, hD, hD', hi, hl⟩ := hv
    exact h D us xs k h' tk (F.keeps hk) (news_cons F N hk hD hD') (off_fresh N hD) hi hl
theorem use_words {a : Addr} {vs : List Value} {xs : List Int} (I : Inv w h₀) (F : Fr h₀ L s.heap m) (N : News h₀ L s.heap news) (ha : s.heap.IsList a vs.toArray) (hvs : IntsAre vs xs) (hn : xs.length ≤ 10)
    (hh : A.handled = none) (hd : A.depth + 30 < recursionLimit) (hu : A.units + 100 + 10 * 30 < cLine)
    (h : ∀ D us k h' tk, Fr h₀ L h' m → News h₀ L h' ((D, W.listOf (List.toArray us) k) :: news) → OffAll D news → TxAre us (wordsOf xs) → Q (.ref D) { s with heap := h', toks := tk }) :
    wpAny (model PySem.Challenge.rw_ik0159_01.row.prog w) A (call (.ref 122) [.ref a]) Q E s :=
  (words_spec w a vs xs s (I.keeps F.keep) ha hvs hn).use hh hd hu fun v h' tk hk hv => by
    obtain ⟨D, us, k, rfl, hD, hD', hi⟩ := hv
    exact h D us k h' tk (F.keeps hk) (news_cons F N hk hD hD') (off_fresh N hD) hi
theorem use_translate {st : Addr} {l : List Nat} {t tm ts : Tok} {ks : Nat} (I : Inv w h₀) (F : Fr h₀ L s.heap m) (N : News h₀ L s.heap news) (S : (st, W.listOf #[Value.str (Str.ofString "star") ts] ks) ∈ news) (hok : ∀ c ∈ l, okC c = true) (hl : l.length ≤ 100000)
    (hh : A.handled = none) (hd : A.depth + 30 < recursionLimit) (hu : A.units + 100 + 10 * 30 < cLine)
    (h : ∀ D us k h' tk, Fr h₀ L h' m → News h₀ L h' ((D, W.listOf (List.toArray us) k) :: news) → OffAll D news → SgsAre st us (partsOf l) → Q (.ref D) { s with heap := h', toks := tk }) :
    wpAny (model PySem.Challenge.rw_ik0159_01.row.prog w) A (call (.ref 90) [.str (tx l) t, .ref st, .str (Str.ofString "mark") tm]) Q E s :=
  (translate_spec w st l t tm s (I.keeps F.keep) ⟨_, _, N.get S⟩ hok hl).use hh hd hu fun v h' tk hk hv => by
    obtain ⟨D, us, k, rfl, hD, hD', hi⟩ := hv
    exact h D us k h' tk (F.keeps hk) (news_cons F N hk hD hD') (off_fresh N hD) hi
theorem use_parts {st : Addr} {l : List Nat} {t tm ts : Tok} {ks : Nat} (I : Inv w h₀) (F : Fr h₀ L s.heap m) (N : News h₀ L s.heap news) (S : (st, W.listOf #[Value.str (Str.ofString "star") ts] ks) ∈ news) (hok : ∀ c ∈ l, okC c = true) (hl : l.length ≤ 100000)
    (hh : A.handled = none) (hd : A.depth + 20 < recursionLimit) (hu : A.units + 100 < cLine)
    (h : ∀ D us k h' tk, Fr h₀ L h' m → News h₀ L h' ((D, W.listOf (List.toArray us) k) :: news) → OffAll D news → SgsAre st us (partsOf l) → Q (.ref D) { s with heap := h', toks := tk }) :
    wpAny (model PySem.Challenge.rw_ik0159_01.row.prog w) A (call (.ref 139) [.str (tx l) t, .ref st, .str (Str.ofString "mark") tm]) Q E s :=
  (parts_spec w st l t tm s (I.keeps F.keep) ⟨_, _, N.get S⟩ hok hl).use hh hd hu fun v h' tk hk hv => by
    obtain ⟨D, us, k, rfl, hD, hD', hi⟩ := hv
    exact h D us k h' tk (F.keeps hk) (news_cons F N hk hD hD') (off_fresh N hD) hi
theorem use_quoted {st a : Addr} {vs : List Value} {ps : List Sg} {n ks : Nat} {ts : Tok} (I : Inv w h₀) (F : Fr h₀ L s.heap m) (N : News h₀ L s.heap news) (S : (st, W.listOf #[Value.str (Str.ofString "star") ts] ks) ∈ news) (ha : (a, W.listOf vs.toArray n) ∈ news) (hv : SgsAre st vs ps) (hok : ∀ p ∈ ps, sgOk p = true) (hl : ps.length ≤ 100000)
    (hh : A.handled = none) (hd : A.depth + 20 < recursionLimit) (hu : A.units + 100 < cLine)
    (h : ∀ D us k h' tk, Fr h₀ L h' m → News h₀ L h' ((D, W.listOf (List.toArray us) k) :: news) → OffAll D news → SgsAre st us (quotedSg ps) → Q (.ref D) { s with heap := h', toks := tk }) :
    wpAny (model PySem.Challenge.rw_ik0159_01.row.prog w) A (call (.ref 146) [.ref a]) Q E s :=
  (quoted_spec w st a vs n ps s (I.keeps F.keep) ⟨_, _, N.get S⟩ (N.get ha) hv hok hl).use hh hd hu fun v h' tk hk hv => by
    obtain ⟨D, us, k, rfl, hD, hD', hi⟩ := hv
    exact h D us k h' tk (F.keeps hk) (news_cons F N hk hD hD') (off_fresh N hD) hi
theorem use_quote {l : List Nat} {t : Tok} (I : Inv w h₀) (F : Fr h₀ L s.heap m) (N : News h₀ L s.heap news) (hok : ∀ c ∈ l, okC c = true) (hl : l.length ≤ 100000)
    (hh : A.handled = none) (hd : A.depth + 20 < recursionLimit) (hu : A.units + 100 < cLine) (h : ∀ h' tk t', Fr h₀ L h' m → News h₀ L h' news → Q (.str (tx (quo l)) t') { s with heap := h', toks := tk }) :
    wpAny (model PySem.Challenge.rw_ik0159_01.row.prog w) A (call (.ref 110) [.str (tx l) t]) Q E s :=
  (quote_spec w l t s (I.keeps F.keep) hok (by simp [Str.length]; omega) hl).use hh hd hu fun _ h' tk hk hv => let ⟨_, e⟩ := hv; e ▸ h h' tk _ (F.keeps hk) (N.keeps hk)
theorem use_line {a : Addr} {vs : List Value} {ws : List (List Nat)} (I : Inv w h₀) (F : Fr h₀ L s.heap m) (N : News h₀ L s.heap news) (ha : s.heap.IsList a vs.toArray) (hvs : TxAre vs ws) (hok : ∀ l ∈ ws, ∀ c ∈ l, okC c = true) (hl : ∀ l ∈ ws, l.length ≤ 1000) (hn : ws.length ≤ 1000) (hq : ∀ l ∈ ws, (quo l).length ≤ 6000)
    (hh : A.handled = none) (hd : A.depth + 30 < recursionLimit) (hu : A.units + 100 + 10 * 30 < cLine) (h : ∀ h' tk t', Fr h₀ L h' m → News h₀ L h' news → Q (.str (tx (lineOf ws)) t') { s with heap := h', toks := tk }) :
    wpAny (model PySem.Challenge.rw_ik0159_01.row.prog w) A (call (.ref 132) [.ref a]) Q E s :=
  (line_spec w ws a vs s (I.keeps F.keep) ha hvs hok hl hn hq).use hh hd hu fun _ h' tk hk hv => let ⟨_, e⟩ := hv; e ▸ h h' tk _ (F.keeps hk) (N.keeps hk)
theorem use_join {a : Addr} {vs : List Value} {ws : List (List Nat)} (I : Inv w h₀) (F : Fr h₀ L s.heap m) (N : News h₀ L s.heap ((97, tabObj #[]) :: news)) (hr : ∀ p ∈ news, p.1 ≠ 97) (G : AllBare s.gens) (ha : s.heap.IsList a vs.toArray) (hvs : TxAre vs ws) (hok : ∀ l ∈ ws, ∀ c ∈ l, okC c = true) (hl : ∀ l ∈ ws, l.length ≤ 1000) (hn : ws.length ≤ 1000) (hq : ∀ l ∈ ws, (quo l).length ≤ 6000)
    (hh : A.handled = none) (hd : A.depth + 60 < recursionLimit) (hu : A.units + 800 < cLine) (h : ∀ h' g' d' tk t' p97, AllBare g' → (∀ b o, b ≠ 97 → s.heap.get? b = some o → h'.get? b = some o) → Fr h₀ L h' m → News h₀ L h' ((97, tabObj p97) :: news) → Q (.str (tx (lineOf ws)) t') ⟨h', g', d', tk, s.os⟩) :
    wpAny (model PySem.Challenge.rw_ik0159_01.row.prog w) A (call (.ref 102) [.ref a]) Q E s := by
  obtain ⟨hd', dp, fr, gd, un⟩ := A
  dsimp only at hh hd hu
  subst hh
  have h97 := N _ (.head _)
  refine wpAny_mono (join_spec w ws a vs s (I.keeps F.keep) G h97.1 ha hvs hok hl hn hq dp un fr gd E hd hu) (fun v s' z => ?_) fun _ _ e => e
  obtain ⟨⟨t', rfl⟩, hg, ho, hk, ps, hP⟩ := z
  obtain ⟨h', g', d', tk, o'⟩ := s'
  dsimp only at hg ho hk hP
  subst ho
  refine h h' g' d' tk t' ps hg hk (fr_but F h97.2.2 h97.2.1 hk) (fun p hp => ?_)
  apply mem_split p hp
  · exact ⟨hP, h97.2⟩
  intro hp
  · exact ⟨hk _ _ (hr p hp) (N p (.tail _ hp)).1, (N p (.tail _ hp)).2⟩
theorem use_tops {a : Addr} {vs : List Value} {ws : List (List Nat)} {wd : Nat} {B : Int} {tb : Tok} (I : Inv w h₀) (F : Fr h₀ L s.heap m) (N : News h₀ L s.heap news) (ha : s.heap.IsList a vs.toArray) (hvs : TxAre vs ws) (hn : ws.length ≤ 100) (hne : ws ≠ [])
    (hok : ∀ l ∈ ws, ∀ c ∈ l, okC c = true) (hl : ∀ l ∈ ws, l.length ≤ 100) (hB : B = 2 ^ wd) (hw1 : 2000 ≤ wd) (hw2 : wd ≤ 2200)
    (hh : A.handled = none) (hd : A.depth + 30 < recursionLimit) (hu : A.units + 100 + 10 * 30 < cLine)
    (h : ∀ D b oD u1 u2 u3 u4 k nD h' tk, Fr h₀ L h' m → News h₀ L h' ((D, oD) :: (b, W.listOf #[Value.int (top1 (bareW ws) (ws.foldl mStep 0) B) u1, Value.int (top2 (bareW ws) (ws.foldl mStep 0) (ws.foldl qStep 0) B) u2, Value.int (top3 (bareW ws) (ws.foldl mStep 0) (ws.foldl nStep ((ws.length : Int) - 1)) B) u3] k) :: news) →
      OffAll D news → OffAll b news → @Ne Nat b D → oD.cls = .type "tuple" → oD.data = .seq #[.ref b, .int (botOf (bareW ws) B) u4] nD → Q (.ref D) { s with heap := h', toks := tk }) :
    wpAny (model PySem.Challenge.rw_ik0159_01.row.prog w) A (call (.ref 151) [.ref a, .int B tb]) Q E s :=
  (tops_spec w a vs ws wd B tb s (I.keeps F.keep) ha hvs hn hne hok hl hB hw1 hw2).use hh hd hu fun v h' tk hk hv => by
    obtain ⟨D, b, oD, u1, u2, u3, u4, k, nD, rfl, hD, hb, hbD, gD, hc, hd2, gb⟩ := hv
    refine h D b oD u1 u2 u3 u4 k nD h' tk (F.keeps hk) ?_ (off_fresh N hD) (off_fresh N hb) hbD hc hd2
    have N1 := news_cons F N hk hb gb
    intro p hp
    apply mem_split p hp
    · exact news_cons F N hk hD gD _ (.head _)
    intro hp
    · exact N1 p hp
end
example : True := by w_top off; trivial
theorem quo_len (l : List Nat) : (quo l).length ≤ 5 * l.length + 2 := by
  have := esc_len l
  unfold quo
  split
  · omega
  · simp only [List.length_cons, List.length_append, List.length_nil]; omega
theorem esc_ok {l : List Nat} (h : ∀ c ∈ l, okC c = true) : ∀ c ∈ esc l, okC c = true := by
  intro c hc
  obtain ⟨d, hd, hc⟩ := List.mem_flatMap.mp hc
  split at hc
  · simp only [List.mem_cons, List.not_mem_nil, or_false] at hc
    rcases hc with rfl | rfl | rfl | rfl | rfl <;> decide
  · rw [List.mem_singleton.mp hc]; exact h d hd
theorem quo_ok {l : List Nat} (h : ∀ c ∈ l, okC c = true) : ∀ c ∈ quo l, okC c = true := by
  unfold quo
  split
  · exact h
  · intro c hc
    rcases List.mem_cons.mp hc with rfl | hc
    · decide
    rcases List.mem_append.mp hc with hc | hc
    · exact esc_ok h c hc
    · rw [List.mem_singleton.mp hc]; decide
theorem gluel_len (sep : List Nat) (K : Nat) : ∀ ls : List (List Nat), (∀ l ∈ ls, l.length ≤ K) → (gluel sep ls).length ≤ ls.length * (K + sep.length)
  | [], _ => by simp [gluel]
  | [a], h => by have := h a (.head _); simp only [gluel, List.length_cons, List.length_nil]; omega
  | a :: b :: r, h => by
    have h1 := h a (.head _)
    have ih := gluel_len sep K (b :: r) fun l hl => h l (.tail _ hl)
    simp only [gluel, List.length_append, List.length_cons] at ih ⊢
    rw [Nat.add_mul (r.length + 1) 1, Nat.one_mul]; omega
theorem gluel_ok {sep : List Nat} (hs : ∀ c ∈ sep, okC c = true) : ∀ ls : List (List Nat), (∀ l ∈ ls, ∀ c ∈ l, okC c = true) → ∀ c ∈ gluel sep ls, okC c = true
  | [], _ => by intro c h; cases h
  | [a], h => h a (.head _)
  | a :: b :: r, h => by
    intro c hc
    rw [gluel] at hc
    rcases List.mem_append.mp hc with hc | hc
    · rcases List.mem_append.mp hc with hc | hc
      · exact h a (.head _) c hc
      · exact hs c hc
    · exact gluel_ok hs (b :: r) (fun l hl => h l (.tail _ hl)) c hc
theorem line_ok {ws : List (List Nat)} (h : ∀ l ∈ ws, ∀ c ∈ l, okC c = true) : ∀ c ∈ lineOf ws, okC c = true := by
  refine gluel_ok (by decide) _ fun l hl => ?_
  obtain ⟨w, hw, rfl⟩ := List.mem_map.mp hl
  exact quo_ok (h w hw)
theorem line_len {ws : List (List Nat)} (h : ∀ l ∈ ws, l.length ≤ 6) (hn : ws.length ≤ 7) : (lineOf ws).length ≤ 231 := by
  have := gluel_len [32] 32 (ws.map quo) (by
    intro l hl
    obtain ⟨w, hw, rfl⟩ := List.mem_map.mp hl
    have := quo_len w
    have := h w hw
    omega)
  simp only [List.length_map, List.length_cons, List.length_nil] at this
  unfold lineOf; omega
theorem flat_places : ∀ l : List Int, (l.flatMap places).length = 2 * l.length
  | [] => rfl
  | a :: r => by simp [flat_places r, places]; omega
theorem words_ne (xs : List Int) : wordsOf xs ≠ [] := foldw_ne _ (by simp)
theorem words_n {xs : List Int} (h : xs.length ≤ 3) : (wordsOf xs).length ≤ 7 := by
  have := foldw_len (xs.flatMap places) [[]]
  rw [flat_places] at this
  simp only [List.length_cons, List.length_nil] at this
  unfold wordsOf; omega
theorem words_l {xs : List Int} (h : xs.length ≤ 3) : ∀ l ∈ wordsOf xs, l.length ≤ 6 := by
  intro l hl
  have := foldw_max (xs.flatMap places) (ws := [[]]) (K := 0) (by simp) l hl
  rw [flat_places] at this
  omega
theorem sign_ok8 : ∀ p, p < 8 → okC (signOf p) = true := by decide
theorem sign_ok (p : Nat) : okC (signOf p) = true := by
  by_cases h : p < 8
  · exact sign_ok8 p h
  · unfold signOf
    rw [List.getD_eq_getElem?_getD, List.getElem?_eq_none (by simp; omega)]; decide
theorem foldw_ok : ∀ (ps : List Int) {ws : List (List Nat)}, (∀ l ∈ ws, ∀ c ∈ l, okC c = true) → ∀ l ∈ ps.foldl wstep ws, ∀ c ∈ l, okC c = true
  | [], _, h => h
  | p :: r, ws, h => foldw_ok r (by
    intro l hl
    unfold wstep at hl
    split at hl
    · rcases List.mem_append.mp hl with hl | hl
      · exact h l hl
      · rw [List.mem_singleton.mp hl]; intro c hc; cases hc
    · rcases List.mem_append.mp hl with hl | hl
      · exact h l (List.dropLast_subset _ hl)
      · rw [List.mem_singleton.mp hl]
        intro c hc
        rcases List.mem_append.mp hc with hc | hc
        · rcases hw : ws.getLast? with _ | z
          · simp [List.getLastD_eq_getLast?, hw] at hc
          · rw [List.getLastD_eq_getLast?, hw] at hc
            exact h z (List.mem_of_getLast? hw) c hc
        · rw [List.mem_singleton.mp hc]; exact sign_ok _)
theorem words_ok (xs : List Int) : ∀ l ∈ wordsOf xs, ∀ c ∈ l, okC c = true := foldw_ok _ (by
  intro l hl
  rw [List.mem_singleton.mp hl]
  intro c hc; cases hc)
structure WordsAre (ws : List (List Nat)) : Prop where
  ne : ws ≠ []
  n : ws.length ≤ 7
  l : ∀ l ∈ ws, l.length ≤ 6
  ok : ∀ l ∈ ws, ∀ c ∈ l, okC c = true
theorem words_are {xs : List Int} (h : xs.length ≤ 3) : WordsAre (wordsOf xs) := ⟨words_ne xs, words_n h, words_l h, words_ok xs⟩
theorem WordsAre.l1000 {ws : List (List Nat)} (h : WordsAre ws) : ∀ l ∈ ws, l.length ≤ 1000 := fun l hl => Nat.le_trans (h.l l hl) (by decide)
theorem WordsAre.l100 {ws : List (List Nat)} (h : WordsAre ws) : ∀ l ∈ ws, l.length ≤ 100 := fun l hl => Nat.le_trans (h.l l hl) (by decide)
theorem WordsAre.q {ws : List (List Nat)} (h : WordsAre ws) : ∀ l ∈ ws, (quo l).length ≤ 6000 := fun l hl => by have := h.l l hl; have := quo_len l; omega
example : True := by w_top off; trivial
open PyProof.Rows.LCg
section
variable {prog : Program} {w : World} {A : Around} {E : Value → Shared → Prop} {s : Shared} {h₀ : Heap} {L : Addr} {m : Str → Option Value} {env : Env}
noncomputable def TupAt (ax : Addr) (its : Array Value) (nw : List (Addr × Obj)) : Prop := False ∨ ∃ o, (ax, o) ∈ nw ∧ o.cls = .type "tuple" ∧ ∃ n, o.data = .seq its n
theorem TupAt.tup {h : Heap} {ax : Addr} {its : Array Value} {nw : List (Addr × Obj)} (x : TupAt ax its nw) (N : News h₀ L h nw) : h.IsTuple ax its := by
  rcases x with x | ⟨o, hm, r⟩
  · exact x.elim
  · exact ⟨o, (N _ hm).1, r⟩
theorem tup_st {ax I : Addr} {its : Array Value} : ∀ i (h h' : Heap) (o : Obj) (nw : List (Addr × Obj)), (h.IsTupleIter I ax i ∧ h.IsTuple ax its) → h.get? I = some o → h'.get? I = some o → (∀ b o, h₀.get? b = some o → h'.get? b = some o) → News h₀ L h' nw → TupAt ax its nw → (h'.IsTupleIter I ax i ∧ h'.IsTuple ax its) :=
  fun i h h' o nw st e e' _ N S => ⟨by obtain ⟨o', q, r⟩ := st.1; rw [e] at q; cases q; exact ⟨o, e', r⟩, S.tup N⟩
noncomputable def TupSrc (prog : Program) (w : World) (A : Around) (h₀ : Heap) (L : Addr) (m : Str → Option Value) (env : Env) (elt : PySem.Expr) (x : Str) (scope : Scope) (cl : List (Str × Addr)) (Fin : Shared → List Value → List (Addr × Obj) → Prop) (xv : Value) (s₁ : Shared) : Prop :=
  ∃ ax its news, xv = .ref ax ∧ A.handled = none ∧ Fr h₀ L s₁.heap m ∧ News h₀ L s₁.heap news ∧ TupAt ax its news ∧ its.size ≤ sizeLine ∧
    ∀ g, CompRest prog w A h₀ L m env elt x scope cl { s₁ with heap := g } (TupAt ax its) (fun i v => its[i]? = some v) (Fin { s₁ with heap := g }) its.size 0 [] news
theorem TupSrc.intro {elt : PySem.Expr} {x : Str} {scope : Scope} {cl : List (Str × Addr)} {Fin : Shared → List Value → List (Addr × Obj) → Prop} {ax : Addr} {its : Array Value} {k : Nat} {news : List (Addr × Obj)} {s₁ : Shared}
    (hh : A.handled = none) (F : Fr h₀ L s₁.heap m) (N : News h₀ L s₁.heap news) (hm : (ax, ({ cls := .type "tuple", data := .seq its k } : Obj)) ∈ news) (hsz : its.size ≤ sizeLine)
    (h : ∀ g, CompRest prog w A h₀ L m env elt x scope cl { s₁ with heap := g } (TupAt ax its) (fun i v => its[i]? = some v) (Fin { s₁ with heap := g }) its.size 0 [] news) :
    TupSrc prog w A h₀ L m env elt x scope cl Fin (.ref ax) s₁ := ⟨ax, its, news, rfl, hh, F, N, .inr ⟨_, hm, rfl, _, rfl⟩, hsz, h⟩
theorem Assign_comp_tup {elt iter : PySem.Expr} {x y : Str} {px py : Pos} {scope : Scope} {cl : List (Str × Addr)} {pos spos : Pos} {Q : Flow → Shared → Prop} (_F₀ : Fr h₀ L s.heap m) (hLe : env.locals = L)
    (hsw : swapsWith (.ListComp elt [⟨.Name x px, iter, [], 0⟩] scope pos) (some (.Name y py)) spos.line env = pure true)
    (hclos : closureFor scope env = pure cl) (hcell : ∀ z ∈ scope.names, z.2 ≠ .cell) (hkind : scope.kind = .function)
    (hnames : ∀ z ∈ scope.names, z.2 = .local → scope.names.lookup z.1 = some .local) (hx : scope.names.lookup x = some .local)
    (hy : env.kindOf y = some .local) (hp : (env.scope.kind == .class || (env.scope.kind == .module && env.locals != env.globals)) = false)
    (h : wpAny (model prog w) A (eval iter env) (TupSrc prog w A h₀ L m env elt x scope cl (fun s₂ => FinA h₀ L m s₂ y Q)) E s)
    (hs : ∀ x, foldedSetIterable iter env x = pure x := by intro _; rfl) :
    wpAny (model prog w) A (exec (.Assign [.Name y py] (.ListComp elt [⟨.Name x px, iter, [], 0⟩] scope pos) spos) env) Q E s := by
  subst hLe
  rw [exec_Assign_Name_used _ _ _ _ hsw]
  refine wpAny_bind (wpAny_standAt (wpAny_bind ?_))
  show wpAny _ A (do let _ ← comprehension (.ListComp elt [⟨.Name x px, iter, [], 0⟩] scope pos) scope env _ (newList []) false (eval iter env) (some (assign (.Name y py) env))) _ _ s
  refine wpAny_bind (wpAny_mono (wpAny_comprehension_free (use := some (assign (.Name y py) env)) (Q := fun _ s' => Q .next s') rfl hs hclos hkind hnames
    (wpAny_mono h (fun xv s₁ h₁ => ?_) fun _ _ e => e)) (fun _ s' hq => wpAny_pure (wpAny_pure hq)) fun _ _ e => e)
  obtain ⟨ax, its, news, rfl, hh, F, N, S, hsz, R⟩ := h₁
  have hl := S.tup N
  have hlt : ax < s₁.heap.objs.size := by obtain ⟨_, e, _⟩ := hl; exact Heap.lt_size e
  refine wpAny_pyIter_tuple hl ?_
  refine block_U (Walks.tuple hh s₁.heap.objs.size ax (Nat.ne_of_lt hlt) its) hsz (fun i h st => by obtain ⟨o, e, _⟩ := st.1; exact ⟨o, e⟩) tup_st hcell hkind hx ⟨⟨_, Heap.get?_push_size _ rfl, rfl, rfl⟩, hl.at fun o e => Heap.get?_push_of_some _ e⟩ (fun b hb => ?_)
    (F.keeps fun b o e => Heap.get?_push_of_some _ e) (N.grown fun b o e => Heap.get?_push_of_some _ e) (Nat.ne_of_lt F.ns.lt) (next_is_new F) (fun p hp => Nat.ne_of_lt (Heap.lt_size (N p hp).1)) S (R _) ?_
  · show b < (s₁.heap.push _).objs.size
    rw [Heap.size_push]
    apply mem_split b hb
    · exact Nat.lt_succ_self _
    intro hb
    · apply mem_one b hb
      exact Nat.lt_succ_of_lt hlt
  · intro D C h' tk m' ys news' F' N' o1 hn hC₀ hD₀ hCL hDL hCD offC fin
    show wpAny _ A (assign (.Name y py) env (.ref D)) _ _ _
    refine wpAny_assign_Name (wpAny_storeName_local hy F'.ns (fun h₂ hn₂ hs₂ => ?_) hp)
    have hL₀ : h₀.get? env.locals = none := Heap.get?_none_of_le F'.above
    have F₂ : Fr h₀ env.locals h₂ (fun z => if z = y then some (.ref D) else m z) := ⟨hn₂, fun b o e => hs₂.extBut b o (fun q => by rw [q, hL₀] at e; cases e) (F'.keep b o e), F'.above⟩
    refine ⟨m', hn.sameBut hs₂ hCL, fun h'' hs'' => fin D h'' _ (F₂.change hs'' hCL hC₀) (fun p hp => ?_) o1⟩
    have z : h₂.get? p.1 = some p.2 := hs₂.extBut _ _ (N' p hp).2.1 (N' p hp).1
    refine ⟨hs''.extBut _ _ ?_ z, (N' p hp).2⟩
    apply mem_split p hp
    · exact Ne.symm hCD
    intro hp
    · exact offC p hp
end
example : True := by w_top off; trivial
open PySem.SeqAt
theorem wpAny_gen {M : Model} {A : Around} {α : Type} {c : Sem α} {P : α → Shared → Prop} {E : Value → Shared → Prop} {s : Shared} (h : ∀ Q : α → Shared → Prop, (∀ v s', P v s' → Q v s') → wpAny M A c Q E s) : wpAny M A c P E s := h P fun _ _ x => x
section
variable {w : World} {A : Around} {E : Value → Shared → Prop} {Q : Value → Shared → Prop} {s : Shared} {h₀ : Heap} {L : Addr} {m : Str → Option Value}
theorem cut_flow {M : Model} {c : Sem Flow} {news : List (Addr × Obj)} {Q : Flow → Shared → Prop} (P : LSt → Prop) (_F : Fr h₀ L s.heap m) (_N : News h₀ L s.heap news)
    (h1 : wpAny M A c (fun f s' => f = .next ∧ ∃ h' tk cs, s' = { s with heap := h', toks := tk } ∧ Fr h₀ L h' m ∧ News h₀ L h' (LSt.led cs) ∧ P cs) E s)
    (h2 : ∀ h' tk cs, Fr h₀ L h' m → News h₀ L h' (LSt.led cs) → P cs → Q .next { s with heap := h', toks := tk }) : wpAny M A c Q E s :=
  wpAny_mono h1 (fun _ _ ⟨ef, h', tk, cs, e, F', N', hp⟩ => ef ▸ e ▸ h2 h' tk cs F' N' hp) fun _ _ e => e
theorem ints_snoc {vs : List Value} {dl : List Int} {x : Int} (h : IntsAre vs (dl ++ [x])) : ∃ vl t, vs = vl ++ [Value.int x t] ∧ IntsAre vl dl := by
  induction dl generalizing vs with
  | nil => cases h with | cons _ t r => cases r; exact ⟨[], t, rfl, .nil⟩
  | cons d dl ih => cases h with | cons _ t r => obtain ⟨vl, t', e, h⟩ := ih r; exact ⟨Value.int d t :: vl, t', by rw [e]; rfl, .cons _ _ h⟩
theorem ints_inj {vs : List Value} {a b : List Int} (h : IntsAre vs a) (g : IntsAre vs b) : a = b := by
  induction h generalizing b with
  | nil => cases g; rfl
  | cons _ _ r ih => cases g with | cons _ _ q => rw [ih q]
theorem pick_rev (ns : List Int) : pickNums ns none none (some (-1)) = ns.reverse := by
  have hi : IntsAre (ns.map fun x => Value.int x 0) ns := by
    induction ns with
    | nil => exact .nil
    | cons a r ih => exact .cons _ _ ih
  have h1 := hi.pick none none (some (-1))
  rw [krv_pick] at h1
  exact ints_inj h1 (by simpa using ints_rev hi)
theorem count_sgs (y : Str) {st : Addr} {vs : List Value} {ps : List Sg} (h : SgsAre st vs ps) : vs.countP (isStrOf y) = ps.count (.txt y) := by
  induction h with
  | nil => rfl
  | cons hd r ih =>
    rw [List.countP_cons, List.count_cons, ih]
    cases hd with
    | star => simp [isStrOf]
    | txt x t =>
      congr 1
      by_cases h : x = y
      · subst h; simp [isStrOf]
      · have h1 : (x == y) = false := beq_eq_false_iff_ne.mpr h
        simp [isStrOf, h1, h]
theorem my_cnt {prog : Program} {l st : Addr} {vs : List Value} {ps : List Sg} {n : Nat} {y : Str} {u : Tok} (hl : s.heap.get? l = some (W.listOf vs.toArray n)) (S : IsStar s.heap st) (hs : SgsAre st vs ps) (hu : A.units + 100 < cLine)
    (h : Q (.int ((ps.count (.txt y) : Nat) : Int) s.toks) { s with toks := s.toks + 1 }) : wpAny (model prog w) A (call (.builtin "list.count") [.ref l, .str y u]) Q E s := by
  refine call_meets PySem.F.slot_list_count ⟨_, hl, rfl⟩ PySem.F.entry_list_count (PySem.F.args_list_count_2 _ _) (list_countAt l vs.toArray n none #[] (.str y u) (isStrOf y)) ⟨hl, fun v hv => ?_, ?_⟩
  · obtain ⟨i, hi, rfl⟩ := List.getElem_of_mem (by simpa using hv : v ∈ vs)
    obtain ⟨p, _, hp⟩ := paired_at hs i _ (List.getElem?_eq_getElem hi)
    generalize vs[i] = v at hp
    cases hp with
    | star =>
      obtain ⟨t', n', e'⟩ := S
      exact EqAt.list_str y u ⟨_, e', rfl, _, rfl⟩ (by have := units_in1 (A := A); omega)
    | txt x t => exact (eq_isStrOf y u (StrsAre.cons x t .nil) _ (.head _)).at _ _
  · rw [show vs.toArray.toList = vs from rfl, count_sgs y hs]
    exact h
theorem use_dm {a b : Int} {n len : Nat} {ta tb : Tok} {p47 p54 : Array Value} {rest : List (Addr × Obj)} (I : Inv w h₀) (F : Fr h₀ L s.heap m) (N : News h₀ L s.heap ((47, tabObj p47) :: (54, tabObj p54) :: rest)) (hr : ∀ p ∈ rest, p.1 ≠ 47 ∧ p.1 ≠ 54)
    (k47 : TabOk s.heap 33 4 (Str.ofString "_int2digits.<locals>.inner") p47) (k54 : TabOk s.heap 48 4 (Str.ofString "_digits2int.<locals>.inner") p54)
    (ha : 0 ≤ a) (hn0 : 2 ≤ n) (hn : n ≤ 7998) (hb0 : 2 ^ (n - 1) ≤ b) (hb1 : b < 2 ^ n) (hlen : len ≤ 10) (hL : (Builtin.Int.intBits a + n - 1) / n = len)
    (hh : A.handled = none) (hd : A.depth + 100 < recursionLimit) (hu : A.units + 1200 < cLine)
    (h : ∀ D t u p47' p54' h' tk, (∀ b o, b ≠ 47 → b ≠ 54 → s.heap.get? b = some o → h'.get? b = some o) → TabOk h' 33 4 (Str.ofString "_int2digits.<locals>.inner") p47' → TabOk h' 48 4 (Str.ofString "_digits2int.<locals>.inner") p54' →
      Fr h₀ L h' m → News h₀ L h' ((D, pairObj (a / b) (a % b) t u) :: (47, tabObj p47') :: (54, tabObj p54') :: rest) → s.heap.get? D = none → Q (.ref D) { s with heap := h', toks := tk }) :
    wpAny (model PySem.Challenge.rw_ik0159_01.row.prog w) A (call (.ref 66) [.int a ta, .int b tb]) Q E s := by
  obtain ⟨hd', dp, fr, gd, un⟩ := A
  dsimp only at hh hd hu
  subst hh
  have h47 := N _ (.head _)
  have h54 := N _ mem1
  refine wpAny_mono (dm_spec w a b n len ta tb p47 p54 s (I.keeps F.keep) h47.1 h54.1 k47 k54 ha hn0 hn hb0 hb1 hlen hL dp un fr gd E hd hu) (fun v s' z => ?_) fun _ _ e => e
  obtain ⟨h', tk, q47, q54, rfl, hk, g47, g54, t47, t54, D, t, u, rfl, hD, gD⟩ := z
  have F' : Fr h₀ L h' m := ⟨F.ns.at' fun o e => hk _ o h47.2.1.symm h54.2.1.symm e, fun b o e => hk b o (fun q => by rw [q, h47.2.2] at e; cases e) (fun q => by rw [q, h54.2.2] at e; cases e) (F.keep b o e), F.above⟩
  refine h D t u q47 q54 h' tk hk t47 t54 F' (fun p hp => ?_) hD
  rcases List.mem_cons.mp hp with rfl | hp
  · refine ⟨gD, fun e => ?_, ?_⟩
    · obtain ⟨o', e', r⟩ := F.ns
      have h2 : s.heap.get? L = some o' := r.choose_spec.1
      rw [← e] at h2
      exact absurd (hD.symm.trans h2) (by simp)
    · cases q : h₀.get? D with
      | none => rfl
      | some o' => have := F.keep _ _ q; rw [hD] at this; cases this
  apply mem_split p hp
  · exact ⟨g47, h47.2⟩
  intro hp
  apply mem_split p hp
  · exact ⟨g54, h54.2⟩
  intro hp
  · exact ⟨hk _ _ (hr p hp).1 (hr p hp).2 (N p (.tail _ (.tail _ hp))).1, (N p (.tail _ (.tail _ hp))).2⟩
noncomputable def PinAt (h₀ : Heap) (line col : Int) (qual : Str) (p : Array Value) (c : Addr) (o : Obj) : Prop := ∀ h'' : Heap, (∀ b ob, h₀.get? b = some ob → h''.get? b = some ob) → h''.get? c = some o → TabOk h'' line col qual p
theorem PinAt.ok {h : Heap} {line col : Int} {qual : Str} {p : Array Value} {c : Addr} {o : Obj} (x : PinAt h₀ line col qual p c o) (F : Fr h₀ L h m) (hc : h.get? c = some o) : TabOk h line col qual p := x h F.keep hc
theorem PinAt.nil {line col : Int} {qual : Str} {c : Addr} {o : Obj} : PinAt h₀ line col qual #[] c o := fun _ _ _ => .inl rfl
theorem pin2 {h : Heap} {P P2 d0 : Addr} {line col : Int} {qual : Str} {ps q2 : Array Value} {od : Obj} (T : TabOk h line col qual ps) (F : Fr h₀ L h m) (hP : h.get? P = some (tabObj ps)) (h2 : h.get? P2 = some (tabObj q2)) (z2 : ∀ q t, q2[1]? ≠ some (.str q t))
    (hd : h.get? d0 = some od ∧ d0 ≠ L ∧ h₀.get? d0 = none) (hd1 : d0 ≠ P) (hd2 : d0 ≠ P2) :
    ∃ cx ox, (h.get? cx = some ox ∧ cx ≠ L ∧ h₀.get? cx = none) ∧ cx ≠ P ∧ cx ≠ P2 ∧ PinAt h₀ line col qual ps cx ox ∧ ∀ b ob, h.get? b = some ob → NoCode ob → b ≠ d0 → cx ≠ b := by
  have z1 := T.second
  rcases T with rfl | ⟨c', oc, vs', t', rfl, e, hdd, hv'⟩
  · exact ⟨d0, od, hd, hd1, hd2, .nil, fun _ _ _ _ z => z.symm⟩
  · cases q : h₀.get? c' with
    | some o' =>
      have := F.keep _ _ q
      rw [e] at this; cases this
      exact ⟨d0, od, hd, hd1, hd2, fun h'' hk'' _ => .inr ⟨c', oc, vs', t', rfl, hk'' _ _ q, hdd, hv'⟩, fun _ _ _ _ z => z.symm⟩
    | none =>
      refine ⟨c', oc, ⟨e, fun e9 => ?_, q⟩, fun e9 => ?_, fun e9 => ?_, fun h'' _ hc' => .inr ⟨c', oc, vs', t', rfl, hc', hdd, hv'⟩, fun b ob hb1 hb2 _ e9 => ?_⟩
      · obtain ⟨o', es, ep, e', hd', r⟩ := F.ns
        rw [e9] at e
        rw [e] at e'; cases e'
        rw [hdd] at hd'; cases hd'
      · rw [e9, hP] at e; cases e
        injection hdd with hdd
        subst hdd
        exact z1 _ _ hv'
      · rw [e9, h2] at e; cases e
        injection hdd with hdd
        subst hdd
        exact z2 _ _ hv'
      · rw [← e9, e] at hb1; cases hb1
        exact hb2 _ hdd _ _ hv'
theorem noCode_seq {o : Obj} {a : Array Value} {n : Nat} (h : o.data = .seq a n) : NoCode o := by
  intro vs e; rw [h] at e; cases e
theorem reads_ints {h : Heap} : ∀ {vs : List Value} {ns : List Int}, IntsAre vs ns → ReadsAll h vs (ns.map PyData.int) []
  | _, _, .nil => .nil
  | _, _, .cons x t r => by simpa using ReadsAll.cons (Reads.int (h := h) x t) (reads_ints (h := h) r)
theorem canLay_ints : ∀ ns : List Int, PyData.canLayAll0 (ns.map PyData.int) = true
  | [] => by simp [PyData.canLayAll0]
  | n :: r => by simp only [List.map_cons, PyData.canLayAll0, Bool.and_eq_true]; exact ⟨by simp [PyData.canLay0], canLay_ints r⟩
theorem depth_ints : ∀ ns : List Int, PyData.depthAll (ns.map PyData.int) ≤ 1
  | [] => by simp [PyData.depthAll]
  | n :: r => by
    have := depth_ints r
    simp only [List.map_cons, PyData.depthAll, PyData.depth]; omega
theorem shaped_ints (ns : List Int) : SeqAt.shaped (.list (ns.map PyData.int)) = true := by
  have h1 := depth_ints ns
  have h2 : PyData.depth (.list (ns.map PyData.int)) ≤ 64 := by simp only [PyData.depth]; omega
  show (PyData.canLay0 (.list (ns.map PyData.int)) && decide (PyData.depth (.list (ns.map PyData.int)) ≤ 64)) = true
  rw [Bool.and_eq_true]
  exact ⟨by simp only [PyData.canLay0]; exact canLay_ints ns, decide_eq_true h2⟩
theorem eqvAll_ints : ∀ ps qs : List Int, PyData.eqvAll (ps.map PyData.int) (qs.map PyData.int) = decide (ps = qs)
  | [], [] => by simp [PyData.eqvAll]
  | [], _ :: _ => by simp [PyData.eqvAll]
  | _ :: _, [] => by simp [PyData.eqvAll]
  | p :: ps, q :: qs => by
    have e : PyData.eqv (.int p) (.int q) = decide (p = q) := by simp [PyData.eqv]; try rfl
    simp only [List.map_cons, PyData.eqvAll, e, eqvAll_ints ps qs, List.cons.injEq, Bool.decide_and]
theorem ne_ints {prog : Program} {a b : Addr} {oa ob : Obj} {vs ws : List Value} {n k : Nat} {ps qs : List Int} (ha : s.heap.get? a = some oa) (ca : oa.cls = .type "list") (da : oa.data = .seq vs.toArray n) (hb : s.heap.get? b = some ob) (cb : ob.cls = .type "list") (db : ob.data = .seq ws.toArray k) (hi : IntsAre vs ps) (hj : IntsAre ws qs) (hu : A.units + 64 < cLine)
    (h : Q (.bool (!decide (ps = qs))) s) : wpAny (model prog w) A (compareOp .NotEq (.ref a) (.ref b)) Q E s :=
  ne_dataH (Reads.list ha ca da (by simpa using reads_ints hi)) (Reads.list hb cb db (by simpa using reads_ints hj)) (shaped_ints ps) (shaped_ints qs) hu (by rw [PyData.eqv, eqvAll_ints]; exact h)
end
example : True := by w_top off; trivial
noncomputable def trim (ds : List Int) : List Int := (ds.reverse.dropWhile (· == 0)).reverse
theorem trim_nil : trim [] = [] := rfl
theorem trim_zero (ds : List Int) : trim (ds ++ [0]) = trim ds := by simp [trim]
theorem trim_last {ds : List Int} {x : Int} (h : x ≠ 0) : trim (ds ++ [x]) = ds ++ [x] := by simp [trim, h]
structure ZipOk (wd n : Nat) (bot top : Int) (A : List Int) : Prop where
  len : A.length = 3
  rng : ∀ d ∈ A, 0 ≤ d ∧ d < 2 ^ wd
  top0 : 0 ≤ top
  topB : Bd 12000 top
  told : top / bot = dval wd A.reverse
  tlen : (Builtin.Int.intBits top + n - 1) / n ≤ 10
  dig : ∀ ds : List Int, ds.length = (Builtin.Int.intBits (top / bot) + wd - 1) / wd → (∀ d ∈ ds, 0 ≤ d ∧ d < 2 ^ wd) → dval wd ds = top / bot → ds = trim A.reverse
  dlen : (Builtin.Int.intBits (top / bot) + wd - 1) / wd ≤ 10
structure BotOk (n : Nat) (bot : Int) : Prop where
  n2 : 2 ≤ n
  n8 : n ≤ 7998
  lo : 2 ^ (n - 1) ≤ bot
  hi : bot < 2 ^ n
noncomputable abbrev zled (sn c0 c1 c2 bT : Addr) (v0 v1 v2 : List Value) (t0 t1 t2 : Int) (u0 u1 u2 : Tok) (ks kT : Nat) (p97 : Array Value) : List (Addr × Obj) :=
  [(sn, W.listOf #[Value.ref c0, Value.ref c1, Value.ref c2] ks), (bT, W.listOf #[Value.int t0 u0, Value.int t1 u1, Value.int t2 u2] kT), (c0, LCg.lst v0), (c1, LCg.lst v1), (c2, LCg.lst v2), (97, tabObj p97)]
local macro_rules | `(tactic| walk_at "binaryOp Mult int int") => `(tactic| (refine my_mul (by assumption) (by assumption) (by exact Nat.le_of_ble_eq_true rfl) ?_))
theorem law_D (w : World) {name qual : Str} {params : Arguments} {body : List Stmt} {scope : Scope} {dV kV doc pm cdv ct oc : Value} {an od : Option Addr} {osl : Array (Option Value)}
    (hK : (hd.heap_1 w.params).lookup 156 = some ⟨oc, od, .func (fnOf name qual params body scope dV kV doc pm an cdv ct), osl⟩)
    (B h : Heap) (L : Addr) (u : Str → Option Value) (g : Array GenState) (d : Drawn) (tk : Nat) (os : OsState)
    (dp un : Nat) (fr : Option (List Env)) (gd : Option (List Code)) (hdp : dp + 200 < recursionLimit) (hun : un + 3000 < cLine)
    (I2 : Inv w B) (Q : Flow → Shared → Prop)
    (wd n : Nat) (bot t0 t1 t2 : Int) (A0 A1 A2 : List Int) (v0 v1 v2 : List Value) (sn c0 c1 c2 bT : Addr) (u0 u1 u2 tw tb : Tok) (ks kT : Nat) (p97 : Array Value)
    (hw1 : 2100 ≤ wd) (hw2 : wd ≤ 2199) (hb : BotOk n bot) (z0 : ZipOk wd n bot t0 A0) (z1 : ZipOk wd n bot t1 A1) (z2 : ZipOk wd n bot t2 A2)
    (i0 : IntsAre v0 A0) (i1 : IntsAre v1 A1) (i2 : IntsAre v2 A2)
    (hne : ∀ p ∈ zled sn c0 c1 c2 bT v0 v1 v2 t0 t1 t2 u0 u1 u2 ks kT p97, @Ne Nat p.1 47 ∧ @Ne Nat p.1 54)
    (F : Fr B L h (kstB u [(Str.ofString "seen", .ref sn), (Str.ofString "tops", .ref bT), (Str.ofString "bottom", .int bot tb), (Str.ofString "width", .int wd tw)]))
    (N : News B L h ((47, tabObj #[]) :: (54, tabObj #[]) :: zled sn c0 c1 c2 bT v0 v1 v2 t0 t1 t2 u0 u1 u2 ks kT p97))
    (hQ : ∀ h' tk p47 p54 m', Fr B L h' m' → News B L h' [(47, tabObj p47), (54, tabObj p54), (97, tabObj p97)] → Q (.ret (.bool true)) ⟨h', g, d, tk, os⟩) :
    wpAny (model PySem.Challenge.rw_ik0159_01.row.prog w) ((Ar dp un fr gd).deeper (envOfC qual scope L 156 cdv)) (execs (body.drop 12) (envOfC qual scope L 156 cdv)) Q (fun _ _ => False) ⟨h, g, d, tk, os⟩ := by
  have X := Inv.X I2
  obtain ⟨p2, loose2, mean2, mg2, mb2, T2⟩ := Inv.T I2
  revert X
  k_fill
  intro X
  k_dflt (refine' lookup_eq hK ?h2 ?_; (case h2 => k_is))
  intro hK2
  cases hK2
  clear hK
  show wpAny _ _ (execs [_, _] _) _ _ _
  walk1
  refine For_turns F ?_
  repeat ((fail_if_success (with_reducible show PySem.wpAny _ _ (PySem.call (Value.type _) _) _ _ _)); (first | ((with_reducible show PySem.wpAny _ _ (PySem.execs _ _) _ _ _); k_fold) | walk1 | (dsimp only; walk1)))
  have hn0 := hne _ (.head _)
  have hn1 := hne _ mem1
  have hn2 := hne _ mem2
  have hn3 := hne _ mem3
  have hn4 := hne _ mem4
  have hn5 := hne _ mem5
  dsimp only at hn0 hn1 hn2 hn3 hn4 hn5
  have hsn := N _ mem2
  refine zip_G (xs := [Value.ref c0, Value.ref c1, Value.ref c2]) (ys := [Value.int t0 u0, Value.int t1 u1, Value.int t2 u2]) [Str.ofString "counts", Str.ofString "top", Str.ofString "told", Str.ofString "left", Str.ofString "digits"]
    (fun i c => ∃ (p47 p54 : Array Value) (c47 c54 : Addr) (o47 o54 : Obj), c.nms = [] ∧ c.led = (47, tabObj p47) :: (54, tabObj p54) :: (c47, o47) :: (c54, o54) :: zled sn c0 c1 c2 bT v0 v1 v2 t0 t1 t2 u0 u1 u2 ks kT p97 ∧ (@Ne Nat c47 47 ∧ @Ne Nat c47 54) ∧ (@Ne Nat c54 47 ∧ @Ne Nat c54 54) ∧
      PinAt B 33 4 (Str.ofString "_int2digits.<locals>.inner") p47 c47 o47 ∧ PinAt B 48 4 (Str.ofString "_digits2int.<locals>.inner") p54 c54 o54)
    ⟨(47, tabObj #[]) :: (54, tabObj #[]) :: (sn, W.listOf #[Value.ref c0, Value.ref c1, Value.ref c2] ks) :: (sn, W.listOf #[Value.ref c0, Value.ref c1, Value.ref c2] ks) :: zled sn c0 c1 c2 bT v0 v1 v2 t0 t1 t2 u0 u1 u2 ks kT p97, []⟩ (by rfl) rfl rfl rfl rfl (by
      rintro i ⟨led, nms⟩ ⟨p47, p54, c47, c54, o47, o54, hnms, hled, _⟩
      dsimp only at hled ⊢
      subst hled
      exact ⟨by k_mem, by k_mem⟩) F (by
      intro p hp
      apply mem_split p hp
      · exact N _ (.head _)
      intro hp
      apply mem_split p hp
      · exact N _ mem1
      intro hp
      apply mem_split p hp
      · exact hsn
      intro hp
      apply mem_split p hp
      · exact hsn
      intro hp
      · exact N _ (.tail _ (.tail _ hp))) (fun _ h => nomatch h) ⟨#[], #[], sn, sn, _, _, rfl, rfl, hn0, hn0, .nil, .nil⟩ rfl ?_ ?_
  · rintro i x y T ⟨led, nms⟩ uu h2 tk2 y1 y2 y3 y4 y5 o1 o2 o3 o4 o5 hx hy ⟨p47, p54, c47, c54, o47, o54, hnms, hled, hc47, hc54, hp47, hp54⟩ hT hoff hnc F2 N2
    dsimp only at hnms hled F2 N2 hoff
    subst hnms hled
    obtain ⟨C, vC, A, top, ut, rfl, rfl, hC, hA, hz⟩ : ∃ C vC A top ut, x = Value.ref C ∧ y = Value.int top ut ∧ (C, LCg.lst vC) ∈ zled sn c0 c1 c2 bT v0 v1 v2 t0 t1 t2 u0 u1 u2 ks kT p97 ∧ IntsAre vC A ∧ ZipOk wd n bot top A := by
      rcases i with _ | _ | _ | i
      · cases hx; cases hy; exact ⟨_, _, _, _, _, rfl, rfl, by k_mem, i0, z0⟩
      · cases hx; cases hy; exact ⟨_, _, _, _, _, rfl, rfl, by k_mem, i1, z1⟩
      · cases hx; cases hy; exact ⟨_, _, _, _, _, rfl, rfl, by k_mem, i2, z2⟩
      · cases hx
    clear hx hy
    have hCn := hne _ hC
    dsimp only at hCn
    have hsn2 := N2 _ (List.mem_append_right _ mem4)
    obtain ⟨R, N3, hR, hRm⟩ : ∃ R : List (Addr × Obj), News B (envOfC (Str.ofString "law") default L 156 (Value.ref 155)).locals h2 ((47, tabObj p47) :: (54, tabObj p54) :: (C, LCg.lst vC) :: R) ∧ (∀ p ∈ R, @Ne Nat p.1 47 ∧ @Ne Nat p.1 54) ∧
        ((c47, o47) ∈ R ∧ (c54, o54) ∈ R ∧ (sn, W.listOf #[Value.ref c0, Value.ref c1, Value.ref c2] ks) ∈ R ∧ ∀ p ∈ [(y1, o1), (y2, o2), (y3, o3), (y4, o4), (y5, o5)] ++ zled sn c0 c1 c2 bT v0 v1 v2 t0 t1 t2 u0 u1 u2 ks kT p97, p ∈ R) := by
      have h47 := hoff _ (.head _)
      have h54 := hoff _ mem1
      refine ⟨(c47, o47) :: (c54, o54) :: ([(y1, o1), (y2, o2), (y3, o3), (y4, o4), (y5, o5)] ++ zled sn c0 c1 c2 bT v0 v1 v2 t0 t1 t2 u0 u1 u2 ks kT p97), ?_, ?_, .head _, .tail _ (.head _), by k_mem, fun p hp => .tail _ (.tail _ hp)⟩
      · intro p hp
        apply mem_split p hp
        · exact N2 _ (List.mem_append_right _ (.head _))
        intro hp
        apply mem_split p hp
        · exact N2 _ (List.mem_append_right _ mem1)
        intro hp
        apply mem_split p hp
        · exact N2 _ (List.mem_append_right _ (.tail _ (.tail _ (.tail _ (.tail _ hC)))))
        intro hp
        apply mem_split p hp
        · exact N2 _ (List.mem_append_right _ mem2)
        intro hp
        apply mem_split p hp
        · exact N2 _ (List.mem_append_right _ mem3)
        intro hp
        rcases List.mem_append.mp hp with hp | hp
        · exact N2 _ (List.mem_append_left _ hp)
        · exact N2 _ (List.mem_append_right _ (.tail _ (.tail _ (.tail _ (.tail _ hp)))))
      · intro p hp
        apply mem_split p hp
        · exact hc47
        intro hp
        apply mem_split p hp
        · exact hc54
        intro hp
        rcases List.mem_append.mp hp with hp | hp
        · simp only [List.mem_cons, List.not_mem_nil, or_false] at hp
          rcases hp with rfl | rfl | rfl | rfl | rfl
          · exact ⟨h47.1.symm, h54.1.symm⟩
          · exact ⟨h47.2.1.symm, h54.2.1.symm⟩
          · exact ⟨h47.2.2.1.symm, h54.2.2.1.symm⟩
          · exact ⟨h47.2.2.2.1.symm, h54.2.2.2.1.symm⟩
          · exact ⟨h47.2.2.2.2.symm, h54.2.2.2.2.symm⟩
        · exact hne p hp
    clear N2 N hC hsn hn0 hn1 hn2 hn3 hn4 hn5
    repeat ((fail_if_success (with_reducible show PySem.wpAny _ _ (PySem.call (Value.ref 66) _) _ _ _)); (first | ((with_reducible show PySem.wpAny _ _ (PySem.execs _ _) _ _ _); k_fold) | walk1 | (dsimp only; walk1)))
    rename News _ _ _ _ => N4
    rename Fr _ _ _ _ => F4
    obtain ⟨hRc47, hRc54, hRsn, hRall⟩ := hRm
    clear N3
    have k47 := hp47.ok F4 (N4 _ (.tail _ (.tail _ (.tail _ hRc47)))).1
    have k54 := hp54.ok F4 (N4 _ (.tail _ (.tail _ (.tail _ hRc54)))).1
    refine use_dm I2 F4 N4 (by
      intro p hp
      apply mem_split p hp
      · exact hCn
      intro hp
      · exact hR p hp) k47 k54 hz.top0 hb.n2 hb.n8 hb.lo hb.hi hz.tlen rfl rfl (by show (Ar _ _ _ _).depth + 1 + 100 < _; dsimp only [Ar]; omega) (by fail "m units64") ?_
    intro D1 tq tr p47a p54a h5 tk5 hk5 t47 t54 F5 N5 hD1
    clear N4 F4 k47 k54
    obtain ⟨ca, oa, hca, hca1, hca2, pina, _⟩ := pin2 t47 F5 (N5 _ mem1).1 (N5 _ mem2).1 t54.second (N5 _ (.tail _ (.tail _ (.tail _ (.tail _ hRsn))))) (hR _ hRsn).1 (hR _ hRsn).2
    have hbp : 0 < bot := Int.lt_of_lt_of_le (Int.pow_pos (by decide)) hb.lo
    have hr0 : 0 ≤ top % bot := Int.emod_nonneg _ (by omega)
    have hr1 : top % bot < bot := Int.emod_lt_of_pos _ hbp
    have hqr : top % bot = top - top / bot * bot := by have := Int.mul_ediv_add_emod top bot; rw [Int.mul_comm] at this; omega
    have hbq : Bd 12000 (top / bot) := hz.topB.div hz.top0 (by omega)
    have hbb : Bd 8000 bot := (Bd.of_lt (by omega) hb.hi).mono (by have := hb.n8; omega)
    have htold := hz.told
    have hdig := hz.dig
    have hdl := hz.dlen
    have hA3 := hz.len
    have hArg := hz.rng
    have hvC : vC.length = 3 := by rw [hA.length, hA3]
    have hq0 : 0 ≤ top / bot := Int.ediv_nonneg hz.top0 (by omega)
    obtain ⟨cb, ob, hcb, hcb1, hcb2, pinb, _⟩ := pin2 t54 F5 (N5 _ mem2).1 (N5 _ mem1).1 t47.second (N5 _ (.tail _ (.tail _ (.tail _ (.tail _ hRsn))))) (hR _ hRsn).2 (hR _ hRsn).1
    obtain ⟨R2, N6, hR2, hR2c, hR2b, hR2sn, hR2all⟩ : ∃ R2 : List (Addr × Obj), News B L h5 ((D1, pairObj (top / bot) (top % bot) tq tr) :: (47, tabObj p47a) :: (54, tabObj p54a) :: (C, LCg.lst vC) :: R2) ∧ (∀ p ∈ R2, @Ne Nat p.1 47 ∧ @Ne Nat p.1 54) ∧ (ca, oa) ∈ R2 ∧ (cb, ob) ∈ R2 ∧ (sn, W.listOf #[Value.ref c0, Value.ref c1, Value.ref c2] ks) ∈ R2 ∧ ∀ p ∈ [(y1, o1), (y2, o2), (y3, o3), (y4, o4), (y5, o5)] ++ zled sn c0 c1 c2 bT v0 v1 v2 t0 t1 t2 u0 u1 u2 ks kT p97, p ∈ R2 := by
      refine ⟨(ca, oa) :: (cb, ob) :: R, ?_, ?_, .head _, .tail _ (.head _), .tail _ (.tail _ hRsn), fun p hp => .tail _ (.tail _ (hRall p hp))⟩
      · intro p hp
        apply mem_split p hp
        · exact N5 _ (.head _)
        intro hp
        apply mem_split p hp
        · exact N5 _ mem1
        intro hp
        apply mem_split p hp
        · exact N5 _ mem2
        intro hp
        apply mem_split p hp
        · exact N5 _ mem3
        intro hp
        apply mem_split p hp
        · exact hca
        intro hp
        apply mem_split p hp
        · exact hcb
        intro hp
        · exact N5 _ (.tail _ (.tail _ (.tail _ (.tail _ hp))))
      · intro p hp
        apply mem_split p hp
        · exact ⟨hca1, hca2⟩
        intro hp
        apply mem_split p hp
        · exact ⟨hcb2, hcb1⟩
        intro hp
        · exact hR p hp
    clear N5 hR hRc47 hRc54 hRsn hRall hz hp47 hp54 t47
    generalize top / bot = q at *
    generalize top % bot = r at *
    unfold pairObj at N6
    repeat' ((fail_if_success (with_reducible show PySem.wpAny _ _ (PySem.call (Value.ref 59) _) _ _ _)); first | (k_unfold; (try dsimp only)) | (first | ((with_reducible show PySem.wpAny _ _ (PySem.execs _ _) _ _ _); k_fold) | walk1 | (dsimp only; walk1)))
    · exact absurd hqr (by assumption)
    rename News _ _ _ _ => N8
    rename Fr _ _ _ _ => F8
    rename IntsAre _ (pickNums _ _ _ _) => hrev
    rw [pick_rev] at hrev
    rename_i D2 zs _ hL9 l9 h6
    have m54 : @Ne Nat D2 54 := Nat.ne_of_gt l9.2.2.1
    have m47 : @Ne Nat D2 47 := Nat.ne_of_gt l9.2.1
    have mC : @Ne Nat C D2 := Nat.ne_of_lt l9.2.2.2.1
    have mR : ∀ p ∈ R2, @Ne Nat p.1 D2 := fun p hp => Nat.ne_of_lt (kst_ltOf l9.2.2.2.2 p hp)
    have N9 : News B L h6 ((54, tabObj p54a) :: (D2, W.listOf zs.toArray 0) :: (47, tabObj p47a) :: (C, LCg.lst vC) :: R2) := by
      intro p hp
      apply mem_split p hp
      · exact N8 _ (by k_mem)
      intro hp
      apply mem_split p hp
      · exact N8 _ (by k_mem)
      intro hp
      apply mem_split p hp
      · exact N8 _ (by k_mem)
      intro hp
      · exact N8 _ (.tail _ (.tail _ (.tail _ (.tail _ hp))))
    have t54' : TabOk h6 48 4 (Str.ofString "_digits2int.<locals>.inner") p54a := pinb.ok F8 (N9 _ (.tail _ (.tail _ (.tail _ (.tail _ hR2b))))).1
    refine use_digits I2 F8 N9 (by
      intro p hp
      apply mem_split p hp
      · exact m54
      intro hp
      apply mem_split p hp
      · exact (by decide : (47 : Nat) ≠ 54)
      intro hp
      apply mem_split p hp
      · exact hCn.2
      intro hp
      · exact (hR2 p hp).2) t54' (N9 _ mem1).1 hrev (by rw [List.length_reverse]; omega) (by omega) (fun x hx => hArg x (List.mem_reverse.mp hx)) rfl (by show (Ar _ _ _ _).depth + 1 + 60 < _; dsimp only [Ar]; omega) (by fail "m units64") ?_
    intro t9 p54b h7 tk7 hk7 t54b F9 N10
    clear N8 N9 F8 t54'
    rw [← htold]
    (repeat' ((( (fail_if_success (with_reducible show PySem.wpAny _ _ (PySem.exec (PySem.Stmt.For _ _ _ _ _) _) _ _ _)); (fail_if_success (with_reducible show PySem.wpAny _ _ (PySem.exec (PySem.Stmt.While _ _ _ _) _) _ _ _)); first | (k_unfold; (try dsimp only)) | (first | ((with_reducible show PySem.wpAny _ _ (PySem.execs _ _) _ _ _); k_fold) | walk1 | (dsimp only; walk1)) | fail "no step"))))
    · exact absurd rfl (by assumption)
    have pinb2 := pin2 t54b F9 (N10 _ (.head _)).1 (N10 _ mem2).1 (TabOk.second (pina.ok F9 (N10 _ (.tail _ (.tail _ (.tail _ (.tail _ hR2c))))).1)) (N10 _ (.tail _ (.tail _ (.tail _ (.tail _ hR2sn))))) (hR2 _ hR2sn).2 (hR2 _ hR2sn).1
    obtain ⟨cc, oc, hcc, hcc1, hcc2, pinc, hccl⟩ := pinb2
    have hccD : @Ne Nat cc D2 := hccl D2 _ (N10 _ mem1).1 (noCode_seq rfl) (mR _ hR2sn).symm
    have N11 : News B L h7 ((D2, W.listOf zs.toArray 0) :: (47, tabObj p47a) :: (54, tabObj p54b) :: (cc, oc) :: R2) := by
      intro p hp
      apply mem_split p hp
      · exact N10 _ (by k_mem)
      intro hp
      apply mem_split p hp
      · exact N10 _ (by k_mem)
      intro hp
      apply mem_split p hp
      · exact N10 _ (by k_mem)
      intro hp
      apply mem_split p hp
      · exact hcc
      intro hp
      · exact N10 _ (.tail _ (.tail _ (.tail _ (.tail _ hp))))
    clear N10 hk5 hk7
    refine cut_flow (fun cs => ∃ (vs' : List Value) (kk : Nat), cs.led = (D2, W.listOf vs'.toArray kk) :: (47, tabObj p47a) :: (54, tabObj p54b) :: (cc, oc) :: R2 ∧ IntsAre vs' (trim A.reverse)) F9 N11 ?_ ?_
    · refine while_st [] (fun (k : Nat) c => ∃ (vs' : List Value) (ds' : List Int) (kk : Nat), k = ds'.length ∧ c.nms = [] ∧ c.led = (D2, W.listOf vs'.toArray kk) :: (47, tabObj p47a) :: (54, tabObj p54b) :: (cc, oc) :: R2 ∧ IntsAre vs' ds' ∧ trim ds' = trim A.reverse ∧ ds'.length ≤ 3)
        ⟨(D2, W.listOf zs.toArray 0) :: (47, tabObj p47a) :: (54, tabObj p54b) :: (cc, oc) :: R2, []⟩ A.reverse.length F9 N11 (fun _ h => nomatch h) ⟨zs, A.reverse, 0, rfl, rfl, rfl, hrev, rfl, by rw [List.length_reverse]; omega⟩ ?_
      intro k z19 uu2 h8 tk8 z29 F12 N12
      show wpAny _ _ _ _ _ _
      k_fold
      obtain ⟨led, nms⟩ := z19
      obtain ⟨vs', ds', kk, rfl, hnms, hled, hi', htr, hl3⟩ := z29
      dsimp only at hnms hled F12 N12
      subst hnms hled
      repeat' ((fail_if_success (with_reducible show PySem.wpAny _ _ (PySem.compareOp _ _ _) _ _ _)); first | (k_unfold; (try dsimp only)) | (first | ((with_reducible show PySem.wpAny _ _ (PySem.execs _ _) _ _ _); k_fold) | walk1 | (dsimp only; walk1)))
      rename News _ _ _ _ => N13
      rename Fr _ _ _ _ => F13
      refine ne_ints (ws := []) (qs := []) (N13.get (by k_mem)) rfl rfl (N13.get (.head _)) rfl rfl hi' .nil (by fail "m units64") ?_
      have hdrop : ∀ {h' : Heap} {x : Addr × Obj} {l : List (Addr × Obj)}, News B L h' (x :: l) → News B L h' l := fun N p hp => N p (.tail _ hp)
      rcases List.eq_nil_or_concat ds' with rfl | ⟨dl, x, hdl⟩
      · cases hi'
        rw [show (!decide (([] : List Int) = [])) = false by rfl]
        repeat' ((fail_if_success (with_reducible show _ ∧ _)); (fail_if_success (with_reducible show WPost _ _ _ _ _ _ _ _ _ _)); first | (k_unfold; (try dsimp only)) | (first | ((with_reducible show PySem.wpAny _ _ (PySem.execs _ _) _ _ _); k_fold) | walk1 | (dsimp only; walk1)))
        refine ⟨rfl, _, _, ⟨_, []⟩, rfl, F13, hdrop N13, [], kk, rfl, ?_⟩
        rw [← htr]; exact .nil
      · rw [List.concat_eq_append] at hdl
        subst hdl
        obtain ⟨vl, t, rfl, hvl⟩ := ints_snoc hi'
        rw [show (!decide (dl ++ [x] = [])) = true by simp]
        have hvl3 : vl.length ≤ 3 := by rw [hvl.length]; simp at hl3; omega
        repeat' ((fail_if_success (with_reducible show _ ∧ _)); (fail_if_success (with_reducible show WPost _ _ _ _ _ _ _ _ _ _)); first | (k_unfold; (try dsimp only)) | (first | ((with_reducible show PySem.wpAny _ _ (PySem.execs _ _) _ _ _); k_fold) | walk1 | (dsimp only; walk1)))
        · rename x = 0 => hx0
          subst hx0
          refine kl_pop (its := (vl ++ [Value.int 0 t]).toArray) F13 (hdrop N13) (by simpa using kpa_last (Value.int 0 t) vl) (Upd.head (by
            intro p hp
            apply mem_split p hp
            · exact m47.symm
            intro hp
            apply mem_split p hp
            · exact m54.symm
            intro hp
            apply mem_split p hp
            · exact hccD
            intro hp
            · exact mR p hp)) (by simp only [sizeLine_eq, List.size_toArray, List.length_append, List.length_cons, List.length_nil]; omega) ?_
          intro h9 F14 N14
          repeat' ((fail_if_success (with_reducible show _ ∧ _)); (fail_if_success (with_reducible show WPost _ _ _ _ _ _ _ _ _ _)); first | (k_unfold; (try dsimp only)) | (first | ((with_reducible show PySem.wpAny _ _ (PySem.execs _ _) _ _ _); k_fold) | walk1 | (dsimp only; walk1)))
          refine WPost.next (.inl rfl) ⟨(D2, W.listOf vl.toArray (kk + 1)) :: (47, tabObj p47a) :: (54, tabObj p54b) :: (cc, oc) :: R2, []⟩ dl.length F14 N14 (by ((refine ⟨?n9, ?m9⟩; (case n9 => (repeat (first | exact List.forall_mem_nil _ | refine fm_cons (by with_unfolding_all rfl) ?_))); (case m9 => intro z h2 h3; (((try dsimp only [kstB]); (repeat (first | refine st_if (st_ne (by assumption) (by rfl)) ?_ | refine st_if (by assumption) ?_ | refine st_if (by rename (∀ p, p ∈ _ → _ ≠ _) => h9; exact h9 _ (.head _)) ?_ | refine st_if (by rename (∀ p, p ∈ _ → _ ≠ _) => h9; exact h9 _ mem1) ?_ | refine st_if (by rename (∀ p, p ∈ _ → _ ≠ _) => h9; exact h9 _ mem2) ?_ | refine st_if (by rename (∀ p, p ∈ _ → _ ≠ _) => h9; exact h9 _ mem3) ?_)); first | exact st_bot (by assumption) | ((repeat (first | refine st_ifr (st_ne (by assumption) (by rfl)) ?_ | refine st_ifr (by assumption) ?_ | refine st_ifr (by rename (∀ p, p ∈ _ → _ ≠ _) => h9; exact h9 _ (.head _)) ?_ | refine st_ifr (by rename (∀ p, p ∈ _ → _ ≠ _) => h9; exact h9 _ mem1) ?_ | refine st_ifr (by rename (∀ p, p ∈ _ → _ ≠ _) => h9; exact h9 _ mem2) ?_ | refine st_ifr (by rename (∀ p, p ∈ _ → _ ≠ _) => h9; exact h9 _ mem3) ?_)); exact rfl))))))) (by simp) ⟨vl, dl, kk + 1, rfl, rfl, rfl, hvl, by rw [← htr, trim_zero], by simp at hl3; omega⟩
        · rename x ≠ 0 => hx0
          refine ⟨rfl, _, _, ⟨_, []⟩, rfl, F13, hdrop N13, vl ++ [Value.int x t], kk, rfl, ?_⟩
          rw [← htr, trim_last hx0]
          exact hi'
    · rintro h8 tk8 ⟨led, nms⟩ F12 N12 ⟨vs', kk, hled, hi'⟩
      dsimp only at hled N12
      subst hled
      repeat' ((fail_if_success (with_reducible show PySem.wpAny _ _ (PySem.call (Value.ref 52) _) _ _ _)); first | (k_unfold; (try dsimp only)) | (first | ((with_reducible show PySem.wpAny _ _ (PySem.execs _ _) _ _ _); k_fold) | walk1 | (dsimp only; walk1)))
      have N13 : News B L h8 ((47, tabObj p47a) :: (D2, W.listOf vs'.toArray kk) :: (54, tabObj p54b) :: (cc, oc) :: R2) := by
        intro p hp
        apply mem_split p hp
        · exact N12 _ (by k_mem)
        intro hp
        apply mem_split p hp
        · exact N12 _ (by k_mem)
        intro hp
        · exact N12 _ (.tail _ (.tail _ hp))
      refine use_i2d I2 F12 N13 (by
        intro p hp
        apply mem_split p hp
        · exact m47
        intro hp
        apply mem_split p hp
        · exact (by decide : (54 : Nat) ≠ 47)
        intro hp
        apply mem_split p hp
        · exact hcc2
        intro hp
        · exact (hR2 p hp).1) (pina.ok F12 (N13 _ (.tail _ (.tail _ (.tail _ (.tail _ hR2c))))).1) hq0 (by omega) hdl (by omega) rfl rfl (by show (Ar _ _ _ _).depth + 1 + 60 < _; dsimp only [Ar]; omega) (by fail "m units64") ?_
      intro D3 oD ws3 ku ds3 p47c h9 tk9 hc3 hd3 hi3 hlen3 hrg3 hval3 hk9 t47c F14 N14 hD3
      have hds := hdig ds3 hlen3 hrg3 hval3
      subst hds
      clear N12 N13 F12
      have hsnR : (sn, W.listOf #[Value.ref c0, Value.ref c1, Value.ref c2] ks) ∈ (D3, oD) :: (47, tabObj p47c) :: (D2, W.listOf vs'.toArray kk) :: (54, tabObj p54b) :: (cc, oc) :: R2 := .tail _ (.tail _ (.tail _ (.tail _ (.tail _ hR2sn))))
      obtain ⟨cd, od, hcd, hcd1, hcd2, pind, hcdl⟩ := pin2 t47c F14 (N14 _ mem1).1 (N14 _ mem3).1 (TabOk.second (pinc.ok F14 (N14 _ mem4).1)) (N14 _ hsnR) (hR2 _ hR2sn).1 (hR2 _ hR2sn).2
      repeat' ((fail_if_success (with_reducible show PySem.wpAny _ _ (PySem.compareOp _ _ _) _ _ _)); first | (k_unfold; (try dsimp only)) | (first | ((with_reducible show PySem.wpAny _ _ (PySem.execs _ _) _ _ _); k_fold) | walk1 | (dsimp only; walk1)))
      refine ne_ints (N14.get (.head _)) hc3 hd3 (N14.get mem2) rfl rfl hi3 hi' (by fail "m units64") ?_
      rw [show (!decide (trim A.reverse = trim A.reverse)) = false by simp]
      (repeat' ((( (fail_if_success (with_reducible show PySem.wpAny _ _ (PySem.exec (PySem.Stmt.For _ _ _ _ _) _) _ _ _)); (fail_if_success (with_reducible show PySem.wpAny _ _ (PySem.exec (PySem.Stmt.While _ _ _ _) _) _ _ _)); first | (k_unfold; (try dsimp only)) | (first | ((with_reducible show PySem.wpAny _ _ (PySem.execs _ _) _ _ _); k_fold) | walk1 | (dsimp only; walk1)) | fail "no step"))))
      have hys : ∀ {a : Addr}, a ≠ y1 ∧ a ≠ y2 ∧ a ≠ y3 ∧ a ≠ y4 ∧ a ≠ y5 → ∀ r ∈ [(y1, o1), (y2, o2), (y3, o3), (y4, o4), (y5, o5)], a ≠ r.1 := by
        intro a ha r hr
        simp only [List.mem_cons, List.not_mem_nil, or_false] at hr
        rcases hr with rfl | rfl | rfl | rfl | rfl
        · exact ha.1
        · exact ha.2.1
        · exact ha.2.2.1
        · exact ha.2.2.2.1
        · exact ha.2.2.2.2
      have hoS := hoff _ mem4
      have hyc : ∀ r ∈ [(y1, o1), (y2, o2), (y3, o3), (y4, o4), (y5, o5)], NoCode r.2 ∧ r.1 ≠ sn := by
        intro r hr
        have h1 := (hys hoS r hr).symm
        simp only [List.mem_cons, List.not_mem_nil, or_false] at hr
        rcases hr with rfl | rfl | rfl | rfl | rfl
        · exact ⟨hnc.1, h1⟩
        · exact ⟨hnc.2.1, h1⟩
        · exact ⟨hnc.2.2.1, h1⟩
        · exact ⟨hnc.2.2.2.1, h1⟩
        · exact ⟨hnc.2.2.2.2, h1⟩
      refine TurnG.next (.inl rfl) ⟨(47, tabObj p47c) :: (54, tabObj p54b) :: (cd, od) :: (cc, oc) :: zled sn c0 c1 c2 bT v0 v1 v2 t0 t1 t2 u0 u1 u2 ks kT p97, []⟩ F14 ?_ ?_ (by ((refine ⟨?n9, ?m9⟩; (case n9 => (repeat (first | exact List.forall_mem_nil _ | refine fm_cons (by with_unfolding_all rfl) ?_))); (case m9 => intro z h2 h3; (((try dsimp only [kstB]); (repeat (first | refine st_if (st_ne (by assumption) (by rfl)) ?_ | refine st_if (by assumption) ?_ | refine st_if (by rename (∀ p, p ∈ _ → _ ≠ _) => h9; exact h9 _ (.head _)) ?_ | refine st_if (by rename (∀ p, p ∈ _ → _ ≠ _) => h9; exact h9 _ mem1) ?_ | refine st_if (by rename (∀ p, p ∈ _ → _ ≠ _) => h9; exact h9 _ mem2) ?_ | refine st_if (by rename (∀ p, p ∈ _ → _ ≠ _) => h9; exact h9 _ mem3) ?_)); first | exact st_bot (by assumption) | ((repeat (first | refine st_ifr (st_ne (by assumption) (by rfl)) ?_ | refine st_ifr (by assumption) ?_ | refine st_ifr (by rename (∀ p, p ∈ _ → _ ≠ _) => h9; exact h9 _ (.head _)) ?_ | refine st_ifr (by rename (∀ p, p ∈ _ → _ ≠ _) => h9; exact h9 _ mem1) ?_ | refine st_ifr (by rename (∀ p, p ∈ _ → _ ≠ _) => h9; exact h9 _ mem2) ?_ | refine st_ifr (by rename (∀ p, p ∈ _ → _ ≠ _) => h9; exact h9 _ mem3) ?_)); exact rfl))))))) ⟨p47c, p54b, cd, cc, od, oc, rfl, rfl, ⟨hcd1, hcd2⟩, ⟨hcc2, hcc1⟩, pind, pinc⟩
      · intro p hp
        rcases List.mem_append.mp hp with hp | hp
        · exact N14 _ (.tail _ (.tail _ (.tail _ (.tail _ (.tail _ (hR2all p (List.mem_append_left _ hp)))))))
        apply mem_split p hp
        · exact N14 _ (by k_mem)
        intro hp
        apply mem_split p hp
        · exact N14 _ (by k_mem)
        intro hp
        apply mem_split p hp
        · exact hcd
        intro hp
        apply mem_split p hp
        · exact N14 _ (by k_mem)
        intro hp
        · exact N14 _ (.tail _ (.tail _ (.tail _ (.tail _ (.tail _ (hR2all p (List.mem_append_right _ hp)))))))
      · intro p hp r hr
        apply mem_split p hp
        · exact hys (hoff _ (.head _)) r hr
        intro hp
        apply mem_split p hp
        · exact hys (hoff _ mem1) r hr
        intro hp
        have hrm := hR2all r (List.mem_append_left _ hr)
        apply mem_split p hp
        · exact hcdl r.1 r.2 (N14 r (.tail _ (.tail _ (.tail _ (.tail _ (.tail _ hrm)))))).1 (hyc r hr).1 (hyc r hr).2
        intro hp
        apply mem_split p hp
        · exact hccl r.1 r.2 (N11 r (.tail _ (.tail _ (.tail _ (.tail _ hrm))))).1 (hyc r hr).1 (hyc r hr).2
        intro hp
        · exact hys (hoff _ (.tail _ (.tail _ (.tail _ (.tail _ hp))))) r hr
  · rintro ⟨led, nms⟩ uu h2 tk2 ⟨p47, p54, c47, c54, o47, o54, hnms, hled, hc47, hc54, hp47, hp54⟩ F2 N2
    dsimp only at hnms hled F2 N2
    subst hnms hled
    (repeat' ((( (fail_if_success (with_reducible show PySem.wpAny _ _ (PySem.exec (PySem.Stmt.For _ _ _ _ _) _) _ _ _)); (fail_if_success (with_reducible show PySem.wpAny _ _ (PySem.exec (PySem.Stmt.While _ _ _ _) _) _ _ _)); first | (k_unfold; (try dsimp only)) | (first | ((with_reducible show PySem.wpAny _ _ (PySem.execs _ _) _ _ _); k_fold) | walk1 | (dsimp only; walk1)) | fail "no step"))))
    refine hQ h2 tk2 p47 p54 _ F2 ?_
    intro p hp
    apply mem_split p hp
    · exact N2 _ (.head _)
    intro hp
    apply mem_split p hp
    · exact N2 _ mem1
    intro hp
    · apply mem_one p hp
      exact N2 _ (by k_mem)
example : True := by w_top off; trivial
theorem bare_quo (l : List Nat) : bareB (quo l) = bareB l := by
  unfold quo
  split
  · rfl
  · rename_i h
    have h2 : bareB l = false := by simpa using h
    rw [h2]
    simp [bareB]
theorem bare_line {ws : List (List Nat)} (hne : ws ≠ []) : bareB (lineOf ws) = bareW ws := by
  match ws, hne with
  | [l], _ => simp [lineOf, gluel, bareW, bare_quo]
  | a :: b :: r, _ =>
    have h1 : bareW (a :: b :: r) = false := by simp [bareW]
    rw [h1]
    have : 32 ∈ lineOf (a :: b :: r) := by simp [lineOf, gluel]
    simp only [bareB, Bool.and_eq_false_iff]
    right
    rw [List.all_eq_false]
    exact ⟨32, this, by decide⟩
theorem parts_append (a b : List Nat) : partsOf (a ++ b) = b.foldl stepP (partsOf a) := by unfold partsOf; rw [List.foldl_append]
theorem fold_plain : ∀ (b : List Nat) (ps : List Sg), 42 ∉ b → b.foldl stepP ps = ps ++ b.map sg1
  | [], ps, _ => by simp
  | c :: r, ps, h => by
    have hc : ¬ c = 42 := fun e => h (e ▸ .head _)
    rw [List.foldl_cons, fold_plain r _ fun e => h (.tail _ e), stepP, if_neg hc]
    simp
noncomputable def escP (ps : List Sg) : List Sg := ps.flatMap q1
theorem sg1_39 : sg1 39 = .txt (tx [39]) := by decide
theorem sg1_34 : sg1 34 = .txt (tx [34]) := by decide
theorem sg1_inj39 {c : Nat} : sg1 c = .txt (tx [39]) ↔ c = 39 := by
  constructor
  · intro h
    unfold sg1 at h
    split at h
    · exact absurd h (by decide)
    split at h
    · exact absurd h (by decide)
    · injection h with h
      have : [c] = [39] := tx_inj h
      simpa using this
  · rintro rfl; decide
theorem q1_sg1 (c : Nat) : q1 (sg1 c) = if c = 39 then [sg1 39, sg1 34, sg1 39, sg1 34, sg1 39] else [sg1 c] := by
  unfold q1
  by_cases h : c = 39
  · rw [if_pos (sg1_inj39.mpr h), if_pos h, sg1_39, sg1_34]
  · rw [if_neg (fun e => h (sg1_inj39.mp e)), if_neg h]
theorem q1_star : q1 .star = [.star] := by unfold q1; rw [if_neg (by simp)]
theorem esc_last (ps : List Sg) : (escP ps).getLast? = some .star ↔ ps.getLast? = some .star := by
  rcases List.eq_nil_or_concat ps with rfl | ⟨a, x, rfl⟩
  · simp [escP]
  · rw [List.concat_eq_append]
    unfold escP
    rw [List.flatMap_append]
    simp only [List.flatMap_cons, List.flatMap_nil, List.append_nil, List.getLast?_append, List.getLast?_singleton, Option.or_some]
    by_cases h : x = .txt (tx [39])
    · subst h
      simp [q1]
    · simp only [q1, if_neg h]
      simp
theorem esc_fold : ∀ (b : List Nat) (ps : List Sg), (esc b).foldl stepP (sg1 39 :: escP ps) = sg1 39 :: escP (b.foldl stepP ps)
  | [], ps => by simp [esc]
  | c :: r, ps => by
    have e : esc (c :: r) = (if c = 39 then [39, 34, 39, 34, 39] else [c]) ++ esc r := by simp [esc]
    rw [e, List.foldl_append, List.foldl_cons]
    have key : (if c = 39 then [39, 34, 39, 34, 39] else [c]).foldl stepP (sg1 39 :: escP ps) = sg1 39 :: escP (stepP ps c) := by
      by_cases h39 : c = 39
      · subst h39
        rw [if_pos rfl, fold_plain _ _ (by decide)]
        rw [show stepP ps 39 = ps ++ [sg1 39] by unfold stepP; rw [if_neg (by decide)]]
        unfold escP
        rw [List.flatMap_append]
        simp [q1_sg1]
      · rw [if_neg h39]
        by_cases h42 : c = 42
        · subst h42
          simp only [List.foldl_cons, List.foldl_nil]
          unfold stepP
          rw [if_pos rfl, if_pos rfl]
          have hl : (sg1 39 :: escP ps).getLast? = some .star ↔ ps.getLast? = some .star := by
            refine Iff.trans ?_ (esc_last ps)
            rw [sg1_39]
            cases escP ps with
            | nil => simp
            | cons x t => simp
          by_cases hs : ps.getLast? = some .star
          · rw [if_pos hs, if_pos (hl.mpr hs)]
          · rw [if_neg hs, if_neg (fun z => hs (hl.mp z))]
            unfold escP
            rw [List.flatMap_append]
            simp [q1_star]
        · simp only [List.foldl_cons, List.foldl_nil]
          unfold stepP
          rw [if_neg h42, if_neg h42]
          unfold escP
          rw [List.flatMap_append]
          simp [q1_sg1, h39]
    rw [key]
    exact esc_fold r _
theorem parts_quo (l : List Nat) : partsOf (quo l) = if bareB l then partsOf l else quotedSg (partsOf l) := by
  unfold quo
  split
  · rfl
  · have e : (39 :: (esc l ++ [39])) = [39] ++ (esc l ++ [39]) := rfl
    rw [e, parts_append, List.foldl_append]
    have e1 : partsOf [39] = sg1 39 :: escP [] := by decide
    rw [e1, esc_fold]
    rw [fold_plain _ _ (by decide)]
    simp only [List.map_cons, List.map_nil]
    rw [sg1_39]
    rfl
example : True := by w_top off; trivial
theorem sg1_inj34 {c : Nat} : sg1 c = .txt (tx [34]) ↔ c = 34 := by
  constructor
  · intro h
    unfold sg1 at h
    split at h
    · exact absurd h (by decide)
    split at h
    · exact absurd h (by decide)
    · injection h with h
      have : [c] = [34] := tx_inj h
      simpa using this
  · rintro rfl; decide
theorem fold_count {t : Sg} {c : Nat} (ht : t ≠ .star) (hc : c ≠ 42) (hi : ∀ x, sg1 x = t ↔ x = c) : ∀ (l : List Nat) (ps : List Sg), (l.foldl stepP ps).count t = ps.count t + l.count c
  | [], ps => by simp
  | x :: r, ps => by
    rw [List.foldl_cons, fold_count ht hc hi r]
    by_cases h42 : x = 42
    · subst h42
      have e : (stepP ps 42).count t = ps.count t := by
        unfold stepP
        rw [if_pos rfl]
        split
        · rfl
        · rw [List.count_append, List.count_singleton]
          have : (Sg.star == t) = false := beq_eq_false_iff_ne.mpr (Ne.symm ht)
          simp [this]
      rw [e, List.count_cons_of_ne (Ne.symm hc)]
    · have e : (stepP ps x).count t = ps.count t + (if x = c then 1 else 0) := by
        unfold stepP
        rw [if_neg h42, List.count_append, List.count_singleton]
        congr 1
        by_cases h : x = c
        · rw [if_pos h, (hi x).mpr h]; simp
        · have : (sg1 x == t) = false := beq_eq_false_iff_ne.mpr fun e => h ((hi x).mp e)
          rw [if_neg h, this]; simp
      rw [e, List.count_cons]
      by_cases h : x = c
      · subst h; simp; omega
      · have : (x == c) = false := beq_eq_false_iff_ne.mpr h
        simp [h]
theorem count39 (l : List Nat) : (partsOf l).count (.txt (tx [39])) = l.count 39 := by
  have := fold_count (t := .txt (tx [39])) (c := 39) (by decide) (by decide) (fun x => sg1_inj39) l []
  simpa [partsOf] using this
theorem count34 (l : List Nat) : (partsOf l).count (.txt (tx [34])) = l.count 34 := by
  have := fold_count (t := .txt (tx [34])) (c := 34) (by decide) (by decide) (fun x => sg1_inj34) l []
  simpa [partsOf] using this
noncomputable def sf : Bool → List Nat → Int
  | _, [] => 0
  | b, c :: r => (if c = 42 ∧ b = true then 1 else 0) + sf (c == 42) r
theorem sf_stars : ∀ l : List Nat, sf false l = starsOf l
  | [] => rfl
  | [a] => by simp [sf, starsOf]
  | a :: b :: r => by
    have ih := sf_stars (b :: r)
    rw [starsOf, ← ih]
    simp only [sf]
    by_cases h : a = 42
    · by_cases h2 : b = 42 <;> simp [h, h2]
    · by_cases h2 : b = 42 <;> simp [h, h2]
theorem sf_sep {c : Nat} (hc : c ≠ 42) (y : List Nat) : ∀ (x : List Nat) (b : Bool), sf b (x ++ c :: y) = sf b x + sf false y
  | [], b => by
    have : (c == 42) = false := beq_eq_false_iff_ne.mpr hc
    simp [sf, hc, this]
  | a :: r, b => by
    simp only [List.cons_append, sf]
    rw [sf_sep hc y r]; omega
theorem sg1_star (c : Nat) : sg1 c ≠ .star := by unfold sg1; simp
theorem fold_len : ∀ (l : List Nat) (ps : List Sg) (b : Bool), (ps.getLast? = some .star ↔ b = true) → ((l.foldl stepP ps).length : Int) = ps.length + l.length - sf b l
  | [], ps, b, _ => by simp [sf]
  | x :: r, ps, b, hb => by
    rw [List.foldl_cons]
    by_cases h42 : x = 42
    · subst h42
      have h1 : (stepP ps 42).getLast? = some .star ↔ ((42 : Nat) == 42) = true := by
        unfold stepP
        rw [if_pos rfl]
        split
        · rename_i h; simp [h]
        · simp
      rw [fold_len r _ _ h1]
      by_cases hs : ps.getLast? = some .star
      · have e : stepP ps 42 = ps := by unfold stepP; rw [if_pos rfl, if_pos hs]
        rw [e]
        have hb' := hb.mp hs
        subst hb'
        simp only [sf, List.length_cons]
        simp; omega
      · have e : stepP ps 42 = ps ++ [.star] := by unfold stepP; rw [if_pos rfl, if_neg hs]
        rw [e]
        have hb' : b = false := by cases b with | false => rfl | true => exact absurd (hb.mpr rfl) hs
        subst hb'
        simp only [sf, List.length_cons, List.length_append, List.length_nil]
        simp; omega
    · have h1 : (stepP ps x).getLast? = some .star ↔ (x == 42) = true := by
        unfold stepP
        rw [if_neg h42]
        simp [h42, sg1_star]
      rw [fold_len r _ _ h1]
      have e : stepP ps x = ps ++ [sg1 x] := by unfold stepP; rw [if_neg h42]
      rw [e]
      simp only [sf, List.length_cons, List.length_append, List.length_nil]
      simp [h42]; omega
theorem parts_length (l : List Nat) : ((partsOf l).length : Int) = l.length - starsOf l := by
  have := fold_len l [] false (by simp)
  rw [← sf_stars]
  simpa [partsOf] using this
theorem sf_esc : ∀ (l : List Nat) (b : Bool), sf b (esc l) = sf b l
  | [], _ => rfl
  | c :: r, b => by
    have e : esc (c :: r) = (if c = 39 then [39, 34, 39, 34, 39] else [c]) ++ esc r := by simp [esc]
    rw [e]
    by_cases h : c = 39
    · subst h
      rw [if_pos rfl]
      simp only [List.cons_append, List.nil_append, sf]
      have := sf_esc r false
      simp [this]
    · rw [if_neg h]
      simp only [List.cons_append, List.nil_append, sf]
      rw [sf_esc r]
theorem esc_count39 : ∀ l : List Nat, cntc 39 (esc l) = 3 * cntc 39 l
  | [] => by simp [esc, cntc]
  | c :: r => by
    have e : esc (c :: r) = (if c = 39 then [39, 34, 39, 34, 39] else [c]) ++ esc r := by simp [esc]
    have ih := esc_count39 r
    unfold cntc at *
    rw [e, List.count_append]
    by_cases h : c = 39
    · subst h; simp; omega
    · rw [if_neg h, List.count_cons_of_ne h, List.count_cons_of_ne h]; simp; omega
theorem esc_count34 : ∀ l : List Nat, cntc 34 (esc l) = cntc 34 l + 2 * cntc 39 l
  | [] => by simp [esc, cntc]
  | c :: r => by
    have e : esc (c :: r) = (if c = 39 then [39, 34, 39, 34, 39] else [c]) ++ esc r := by simp [esc]
    have ih := esc_count34 r
    unfold cntc at *
    rw [e, List.count_append]
    by_cases h : c = 39
    · subst h; simp; omega
    · rw [if_neg h, List.count_cons_of_ne h]
      by_cases h2 : c = 34
      · subst h2; simp; omega
      · rw [List.count_cons_of_ne h2, List.count_cons_of_ne h2]; simp; omega
theorem esc_length : ∀ l : List Nat, ((esc l).length : Int) = l.length + 4 * cntc 39 l
  | [] => by simp [esc, cntc]
  | c :: r => by
    have e : esc (c :: r) = (if c = 39 then [39, 34, 39, 34, 39] else [c]) ++ esc r := by simp [esc]
    have ih := esc_length r
    unfold cntc at *
    rw [e, List.length_append]
    by_cases h : c = 39
    · subst h; simp; omega
    · rw [if_neg h, List.count_cons_of_ne h]; simp; omega
theorem bare_count {l : List Nat} (h : bareB l = true) (c : Nat) (hc : c ≠ 97) (hc2 : c ≠ 37) : cntc c l = 0 := by
  unfold cntc
  rw [List.count_eq_zero.mpr]
  · rfl
  · intro hm
    simp only [bareB, Bool.and_eq_true, List.all_eq_true] at h
    have := h.2 c hm
    simp [hc, hc2] at this
theorem mStep_quo (m : Int) (l : List Nat) : mStep m l = m + cntc 39 (quo l) := by
  unfold mStep quo
  by_cases h : bareB l = true
  · rw [if_pos h, if_pos h, bare_count h 39 (by decide) (by decide)]; omega
  · rw [if_neg h, if_neg h]
    have e := esc_count39 l
    unfold cntc at *
    rw [List.count_cons_self, List.count_append, List.count_singleton_self]; push_cast; omega
theorem qStep_quo (q : Int) (l : List Nat) : qStep q l = q + cntc 34 (quo l) := by
  unfold qStep quo
  by_cases h : bareB l = true
  · rw [if_pos h, if_pos h]
  · rw [if_neg h, if_neg h]
    have e := esc_count34 l
    unfold cntc at *
    rw [List.count_cons_of_ne (by decide), List.count_append]
    simp; omega
theorem nStep_quo (n : Int) (l : List Nat) : nStep n l = n + ((quo l).length - starsOf (quo l)) := by
  unfold nStep quo
  by_cases h : bareB l = true
  · rw [if_pos h, if_pos h]
  · rw [if_neg h, if_neg h]
    have e := esc_length l
    have e2 : starsOf (39 :: (esc l ++ [39])) = starsOf l := by
      rw [← sf_stars, ← sf_stars]
      have h1 := sf_sep (c := 39) (by decide) (esc l ++ [39]) [] false
      have h2 := sf_sep (c := 39) (by decide) [] (esc l) false
      simp only [List.nil_append] at h1
      rw [h1, h2, sf_esc]; simp [sf]
    rw [e2]
    simp only [List.length_cons, List.length_append, List.length_nil]
    push_cast; omega
theorem line_count (c : Nat) (hc : c ≠ 32) : ∀ ws : List (List Nat), cntc c (lineOf ws) = (ws.map fun l => cntc c (quo l)).sum
  | [] => by simp [lineOf, gluel, cntc]
  | [a] => by simp [lineOf, gluel, cntc]
  | a :: b :: r => by
    have ih := line_count c hc (b :: r)
    unfold lineOf at *
    rw [List.map_cons, List.map_cons, gluel]
    rw [List.map_cons] at ih
    unfold cntc at *
    rw [List.count_append, List.count_append, List.map_cons, List.sum_cons, ← ih]
    have : List.count c [32] = 0 := by simp [Ne.symm hc]
    rw [this]; push_cast; omega
theorem line_stars : ∀ ws : List (List Nat), ws ≠ [] → ((lineOf ws).length : Int) - starsOf (lineOf ws) = (ws.map fun l => ((quo l).length : Int) - starsOf (quo l)).sum + (ws.length - 1)
  | [a], _ => by simp [lineOf, gluel]
  | a :: b :: r, _ => by
    have ih := line_stars (b :: r) (by simp)
    unfold lineOf at *
    rw [List.map_cons, List.map_cons, gluel]
    rw [List.map_cons] at ih
    rw [List.map_cons, List.sum_cons]
    have h1 : starsOf (quo a ++ [32] ++ gluel [32] (quo b :: r.map quo)) = starsOf (quo a) + starsOf (gluel [32] (quo b :: r.map quo)) := by
      rw [← sf_stars, ← sf_stars, ← sf_stars, List.append_assoc]
      exact sf_sep (by decide) _ _ _
    rw [h1]
    simp only [List.length_append, List.length_cons, List.length_nil] at ih ⊢
    push_cast at ih ⊢
    omega
theorem fold_sum {f : Int → List Nat → Int} {g : List Nat → Int} (h : ∀ m l, f m l = m + g l) : ∀ (ws : List (List Nat)) (m : Int), ws.foldl f m = m + (ws.map g).sum
  | [], m => by simp
  | w :: r, m => by rw [List.foldl_cons, fold_sum h r, h, List.map_cons, List.sum_cons]; omega
theorem marks_line (ws : List (List Nat)) : ws.foldl mStep 0 = cntc 39 (lineOf ws) := by
  rw [fold_sum mStep_quo, line_count 39 (by decide)]; omega
theorem quotes_line (ws : List (List Nat)) : ws.foldl qStep 0 = cntc 34 (lineOf ws) := by
  rw [fold_sum qStep_quo, line_count 34 (by decide)]; omega
theorem count_line {ws : List (List Nat)} (h : ws ≠ []) : ws.foldl nStep ((ws.length : Int) - 1) = (lineOf ws).length - starsOf (lineOf ws) := by
  rw [fold_sum nStep_quo, line_stars ws h]; omega
theorem q_count39 : ∀ ps : List Sg, ((ps.flatMap q1).count (.txt (tx [39])) : Int) = 3 * ps.count (.txt (tx [39]))
  | [] => by simp
  | p :: r => by
    have ih := q_count39 r
    rw [List.flatMap_cons, List.count_append, List.count_cons]
    by_cases h : p = .txt (tx [39])
    · subst h
      have : (q1 (.txt (tx [39]))).count (.txt (tx [39])) = 3 := by decide
      rw [this]; simp; omega
    · have h1 : (p == .txt (tx [39])) = false := beq_eq_false_iff_ne.mpr h
      have : (q1 p).count (.txt (tx [39])) = 0 := by simp [q1, h, h1]
      rw [this, h1]; simp; omega
theorem q_count34 : ∀ ps : List Sg, ((ps.flatMap q1).count (.txt (tx [34])) : Int) = ps.count (.txt (tx [34])) + 2 * ps.count (.txt (tx [39]))
  | [] => by simp
  | p :: r => by
    have ih := q_count34 r
    rw [List.flatMap_cons, List.count_append, List.count_cons, List.count_cons]
    by_cases h : p = .txt (tx [39])
    · subst h
      have : (q1 (.txt (tx [39]))).count (.txt (tx [34])) = 2 := by decide
      have h2 : ((Sg.txt (tx [39])) == .txt (tx [34])) = false := by decide
      rw [this, h2]; simp; omega
    · have h1 : (p == .txt (tx [39])) = false := beq_eq_false_iff_ne.mpr h
      have : (q1 p).count (.txt (tx [34])) = if p == .txt (tx [34]) then 1 else 0 := by simp only [q1, if_neg h, List.count_singleton]
      rw [this, h1]; simp; omega
theorem q_length : ∀ ps : List Sg, ((ps.flatMap q1).length : Int) = ps.length + 4 * ps.count (.txt (tx [39]))
  | [] => by simp
  | p :: r => by
    have ih := q_length r
    rw [List.flatMap_cons, List.length_append, List.count_cons]
    by_cases h : p = .txt (tx [39])
    · subst h
      have : (q1 (.txt (tx [39]))).length = 5 := by decide
      rw [this]; simp only [beq_self_eq_true, if_true, List.length_cons]; push_cast; omega
    · have h1 : (p == .txt (tx [39])) = false := beq_eq_false_iff_ne.mpr h
      have : (q1 p).length = 1 := by simp [q1, h]
      rw [this, h1]; simp only [Bool.false_eq_true, if_false, List.length_cons]; push_cast; omega
theorem quoted39 (ps : List Sg) : ((quotedSg ps).count (.txt (tx [39])) : Int) = 3 * ps.count (.txt (tx [39])) + 2 := by
  unfold quotedSg
  rw [List.count_cons_self, List.count_append, List.count_singleton_self]
  have := q_count39 ps
  push_cast; omega
theorem quoted34 (ps : List Sg) : ((quotedSg ps).count (.txt (tx [34])) : Int) = ps.count (.txt (tx [34])) + 2 * ps.count (.txt (tx [39])) := by
  unfold quotedSg
  rw [List.count_cons_of_ne (by decide), List.count_append]
  have := q_count34 ps
  have h2 : List.count (Sg.txt (tx [34])) [Sg.txt (tx [39])] = 0 := by decide
  rw [h2]; push_cast; omega
theorem quotedLen (ps : List Sg) : ((quotedSg ps).length : Int) = ps.length + 4 * ps.count (.txt (tx [39])) + 2 := by
  unfold quotedSg
  simp only [List.length_cons, List.length_append, List.length_nil]
  have := q_length ps
  push_cast; omega
example : True := by w_top off; trivial
theorem dval_inj (n : Nat) : ∀ (a b : List Int), a.length = b.length → (∀ d ∈ a, 0 ≤ d ∧ d < 2 ^ n) → (∀ d ∈ b, 0 ≤ d ∧ d < 2 ^ n) → dval n a = dval n b → a = b
  | [], [], _, _, _, _ => rfl
  | [], _ :: _, h, _, _, _ => by simp at h
  | _ :: _, [], h, _, _, _ => by simp at h
  | x :: a, y :: b, hl, ha, hb, h => by
    have hx := ha x (.head _)
    have hy := hb y (.head _)
    have e1 : dval n (x :: a) = x + dval n a * 2 ^ n := by
      have := dval_append n [x] a
      simpa [dval] using this
    have e2 : dval n (y :: b) = y + dval n b * 2 ^ n := by
      have := dval_append n [y] b
      simpa [dval] using this
    rw [e1, e2] at h
    have hp : (0 : Int) < 2 ^ n := Int.pow_pos (by decide)
    have h1 : (x + dval n a * 2 ^ n) % 2 ^ n = x := by rw [Int.add_mul_emod_self_right]; exact Int.emod_eq_of_lt hx.1 hx.2
    have h2 : (y + dval n b * 2 ^ n) % 2 ^ n = y := by rw [Int.add_mul_emod_self_right]; exact Int.emod_eq_of_lt hy.1 hy.2
    have exy : x = y := by rw [← h1, ← h2, h]
    subst exy
    have h3 : dval n a * 2 ^ n = dval n b * 2 ^ n := by omega
    have h4 : dval n a = dval n b := Int.eq_of_mul_eq_mul_right (by omega) h3
    rw [dval_inj n a b (by simpa using hl) (fun d hd => ha d (.tail _ hd)) (fun d hd => hb d (.tail _ hd)) h4]
theorem dval_trim (n : Nat) : ∀ ds : List Int, dval n (trim ds) = dval n ds := by
  intro ds
  induction h : ds.length generalizing ds with
  | zero => rw [List.length_eq_zero_iff.mp h]; rfl
  | succ k ih =>
    rcases List.eq_nil_or_concat ds with rfl | ⟨a, x, e⟩
    · simp at h
    · rw [List.concat_eq_append] at e
      subst e
      by_cases hx : x = 0
      · subst hx
        rw [trim_zero, ih a (by simp at h; omega), dval_append]
        simp [dval]
      · rw [trim_last hx]
theorem trim_sub (ds : List Int) : ∀ d ∈ trim ds, d ∈ ds := by
  intro d hd
  unfold trim at hd
  rw [List.mem_reverse] at hd
  exact List.mem_reverse.mp (List.dropWhile_subset _ hd)
theorem trim_end (ds : List Int) : trim ds = [] ∨ ∃ a x, trim ds = a ++ [x] ∧ x ≠ 0 := by
  induction h : ds.length generalizing ds with
  | zero => left; rw [List.length_eq_zero_iff.mp h]; rfl
  | succ k ih =>
    rcases List.eq_nil_or_concat ds with rfl | ⟨a, x, e⟩
    · simp at h
    · rw [List.concat_eq_append] at e
      subst e
      by_cases hx : x = 0
      · subst hx
        rw [trim_zero]
        exact ih a (by simp at h; omega)
      · exact .inr ⟨a, x, trim_last hx, hx⟩
theorem trim_length {n : Nat} (hn : 0 < n) {ds : List Int} (hr : ∀ d ∈ ds, 0 ≤ d ∧ d < 2 ^ n) : (trim ds).length = (Builtin.Int.intBits (dval n ds) + n - 1) / n := by
  have hrt : ∀ d ∈ trim ds, 0 ≤ d ∧ d < 2 ^ n := fun d hd => hr d (trim_sub ds d hd)
  have hv := dval_trim n ds
  rcases trim_end ds with h | ⟨a, x, h, hx⟩
  · rw [h] at hv ⊢
    have h0 : dval n ds = 0 := by rw [← hv]; rfl
    rw [h0]
    have : Builtin.Int.intBits 0 = 0 := by decide
    rw [this, List.length_nil, Nat.zero_add]
    exact (Nat.div_eq_of_lt (by omega)).symm
  · rw [h] at hv hrt ⊢
    rw [dval_append] at hv
    have hx1 : dval n [x] = x := by simp [dval]
    rw [hx1] at hv
    have hxr := hrt x (by simp)
    have har := dval_range n a fun d hd => hrt d (by simp [hd])
    have hx0 : 1 ≤ x := by omega
    have hb := dval_range n (a ++ [x]) hrt
    rw [dval_append, hx1, hv] at hb
    rw [List.length_append, List.length_singleton] at hb ⊢
    have hP : (0 : Int) < 2 ^ (a.length * n) := Int.pow_pos (by decide)
    have hlo : (2 : Int) ^ (a.length * n) ≤ dval n ds := by
      rw [← hv]
      have : 1 * (2 : Int) ^ (a.length * n) ≤ x * 2 ^ (a.length * n) := Int.mul_le_mul_of_nonneg_right hx0 (by omega)
      omega
    have c1 : ((2 ^ (a.length * n) : Nat) : Int) = 2 ^ (a.length * n) := by push_cast; rfl
    have g1 := bits_ge (k := a.length * n) (x := dval n ds) (by omega)
    have g2 := (Bd.of_lt hb.1 hb.2).bits
    rw [Nat.add_mul, Nat.one_mul] at g2
    symm
    rw [Nat.div_eq_iff hn]
    constructor
    · rw [Nat.add_mul]; omega
    · rw [Nat.add_mul]; omega
example : True := by w_top off; trivial
noncomputable def rowsOf (ws : List (List Nat)) : List (List Sg) := [partsOf (lineOf ws), partsOf (quo (lineOf ws)), partsOf (quo (quo (lineOf ws)))]
noncomputable def cntS (y : Str) (ws : List (List Nat)) : List Int := (rowsOf ws).map fun r => ((r.count (.txt y) : Nat) : Int)
noncomputable def lenS (ws : List (List Nat)) : List Int := (rowsOf ws).map fun r => ((r.length : Nat) : Int)
structure PlainOk (ws : List (List Nat)) (wd n : Nat) : Prop where
  d1 : partsOf (quo (lineOf ws)) = if bareW ws then partsOf (lineOf ws) else quotedSg (partsOf (lineOf ws))
  d2 : partsOf (quo (quo (lineOf ws))) = if bareW ws then partsOf (quo (lineOf ws)) else quotedSg (partsOf (quo (lineOf ws)))
  bot : BotOk n (botOf (bareW ws) (2 ^ wd))
  z0 : ZipOk wd n (botOf (bareW ws) (2 ^ wd)) (top1 (bareW ws) (ws.foldl mStep 0) (2 ^ wd)) (cntS (tx [39]) ws)
  z1 : ZipOk wd n (botOf (bareW ws) (2 ^ wd)) (top2 (bareW ws) (ws.foldl mStep 0) (ws.foldl qStep 0) (2 ^ wd)) (cntS (tx [34]) ws)
  z2 : ZipOk wd n (botOf (bareW ws) (2 ^ wd)) (top3 (bareW ws) (ws.foldl mStep 0) (ws.foldl nStep ((ws.length : Int) - 1)) (2 ^ wd)) (lenS ws)
theorem pow2_ge {wd : Nat} (h : 2100 ≤ wd) : (2 : Int) ^ 100 ≤ 2 ^ wd := by
  have : (2 : Nat) ^ 100 ≤ 2 ^ wd := Nat.pow_le_pow_right (by decide) (by omega)
  exact_mod_cast this
theorem zip_of {wd n : Nat} {bot top d0 d1 d2 t0 t1 t2 t3 : Int} (hw1 : 2100 ≤ wd) (hw2 : wd ≤ 2199) (hn : wd ≤ n) (hn2 : n ≤ 3 * wd) (_hlo : 2 ^ (n - 1) ≤ bot) (hhi : bot < 2 ^ n)
    (h0 : 0 ≤ d0) (h1 : 0 ≤ d1) (h2 : 0 ≤ d2) (l0 : d0 < 2 ^ 20) (l1 : d1 < 2 ^ 20) (l2 : d2 < 2 ^ 20)
    (ht : top = (2 ^ wd) ^ 3 * t0) (s0 : 2 ^ wd * t0 = d0 * bot + t1) (s1 : 2 ^ wd * t1 = d1 * bot + t2) (s2 : 2 ^ wd * t2 = d2 * bot + t3) (r0 : 0 ≤ t3) (r1 : t3 < bot) :
    ZipOk wd n bot top [d0, d1, d2] := by
  have hB := pow2_ge hw1
  have hbot : 0 < bot := by omega
  have hv : dval wd [d2, d1, d0] = d2 + (d1 + d0 * 2 ^ wd) * 2 ^ wd := by simp [dval]
  have hr : ∀ d ∈ [d0, d1, d2], 0 ≤ d ∧ d < 2 ^ wd := by
    intro d hd
    simp only [List.mem_cons, List.not_mem_nil, or_false] at hd
    rcases hd with rfl | rfl | rfl <;> exact ⟨by assumption, by omega⟩
  have hr2 : ∀ d ∈ [d2, d1], 0 ≤ d ∧ d < 2 ^ wd := fun d hd => hr d (by
    simp only [List.mem_cons, List.not_mem_nil, or_false] at hd ⊢
    rcases hd with rfl | rfl
    · exact .inr (.inr rfl)
    · exact .inr (.inl rfl))
  have hr3 : ∀ d ∈ [d2, d1, d0], 0 ≤ d ∧ d < 2 ^ wd := fun d hd => hr d (by
    simp only [List.mem_cons, List.not_mem_nil, or_false] at hd ⊢
    rcases hd with rfl | rfl | rfl
    · exact .inr (.inr rfl)
    · exact .inr (.inl rfl)
    · exact .inl rfl)
  have hlow := dval_range wd [d2, d1] hr2
  have hsplit : dval wd [d2, d1, d0] = dval wd [d2, d1] + d0 * 2 ^ (2 * wd) := by
    have := dval_append wd [d2, d1] [d0]
    simpa [dval] using this
  have htold : top = dval wd [d2, d1, d0] * bot + t3 := by
    rw [hv, ht]
    have e : ((2 : Int) ^ wd) ^ 3 * t0 = 2 ^ wd * (2 ^ wd * (2 ^ wd * t0)) := by
      rw [Int.pow_succ, Int.pow_succ, Int.pow_succ, Int.pow_zero]; simp only [Int.one_mul, Int.mul_assoc]
    rw [e, s0]
    generalize (2 : Int) ^ wd = B at *
    have e1 : B * (B * (d0 * bot + t1)) = B * B * (d0 * bot) + B * (B * t1) := by rw [Int.mul_add, Int.mul_add, ← Int.mul_assoc]
    rw [e1, s1]
    have e2 : B * (d1 * bot + t2) = B * (d1 * bot) + B * t2 := by rw [Int.mul_add]
    rw [e2, s2]
    simp only [Int.add_mul, Int.mul_add]
    have e3 : B * B * (d0 * bot) = d0 * B * B * bot := by grind
    have e4 : B * (d1 * bot) = d1 * B * bot := by grind
    omega
  have hdiv : top / bot = dval wd [d2, d1, d0] := by
    rw [htold, Int.add_comm, Int.add_mul_ediv_right _ _ (by omega), Int.ediv_eq_zero_of_lt r0 r1]; omega
  have hnn : 0 ≤ dval wd [d2, d1, d0] := (dval_range wd _ hr3).1
  have hup : dval wd [d2, d1, d0] < 2 ^ (2 * wd + 20) := by
    rw [hsplit, Int.pow_add]
    have hp : (0 : Int) < 2 ^ (2 * wd) := Int.pow_pos (by decide)
    have h1 : (d0 + 1) * 2 ^ (2 * wd) ≤ 2 ^ 20 * 2 ^ (2 * wd) := Int.mul_le_mul_of_nonneg_right (by omega) (Int.le_of_lt hp)
    rw [Int.add_mul, Int.one_mul, Int.mul_comm (2 ^ 20)] at h1
    have h2 := hlow.2
    rw [show [d2, d1].length = 2 from rfl] at h2
    omega
  have hbt := (Bd.of_lt hnn hup).bits
  have hbig : Bd (2 * wd + 20 + n) top := by
    refine Bd.of_lt (by rw [htold]; have := Int.mul_nonneg hnn (Int.le_of_lt hbot); omega) ?_
    rw [Int.pow_add]
    have h1 : (dval wd [d2, d1, d0] + 1) * bot ≤ 2 ^ (2 * wd + 20) * bot := Int.mul_le_mul_of_nonneg_right (by omega) (by omega)
    have h2 : (2 : Int) ^ (2 * wd + 20) * bot ≤ 2 ^ (2 * wd + 20) * 2 ^ n := Int.mul_le_mul_of_nonneg_left (by omega) (Int.le_of_lt (Int.pow_pos (by decide)))
    rw [Int.add_mul, Int.one_mul] at h1
    omega
  have hbb := hbig.bits
  have htrim := trim_length (n := wd) (by omega) hr3
  refine ⟨rfl, hr, by rw [htold]; have := Int.mul_nonneg hnn (Int.le_of_lt hbot); omega, hbig.mono (by omega), hdiv, ?_, ?_, ?_⟩
  · have h3 : 2 * wd + 20 + n + n - 1 < 11 * n := by omega
    have : (Builtin.Int.intBits top + n - 1) / n < 11 := by rw [Nat.div_lt_iff_lt_mul (by omega)]; omega
    omega
  · intro ds hlen hrg hval
    rw [hdiv] at hlen hval
    refine dval_inj wd _ _ ?_ hrg (fun d hd => hr3 d (trim_sub _ d hd)) ?_
    · rw [hlen]; exact htrim.symm
    · rw [hval]; exact (dval_trim wd [d2, d1, d0]).symm
  · rw [hdiv]
    have : (Builtin.Int.intBits (dval wd [d2, d1, d0]) + wd - 1) / wd < 4 := by rw [Nat.div_lt_iff_lt_mul (by omega)]; omega
    omega
theorem step_m (B m : Int) : B * (riseOf m B * (B - 1)) = m * ((B - 3) * (B - 1) * (B - 1)) + riseOf (3 * m + 2) B * (B - 1) := by
  unfold riseOf; grind
theorem step_q (B m q : Int) : B * (q * (B - 3) * (B - 1) + 2 * riseOf m B) = q * ((B - 3) * (B - 1) * (B - 1)) + ((q + 2 * m) * (B - 3) * (B - 1) + 2 * riseOf (3 * m + 2) B) := by
  unfold riseOf; grind
theorem step_n (B m n : Int) : B * (n * (B - 3) * (B - 1) + 4 * riseOf m B + 2 * (B - 3)) = n * ((B - 3) * (B - 1) * (B - 1)) + ((n + 4 * m + 2) * (B - 3) * (B - 1) + 4 * riseOf (3 * m + 2) B + 2 * (B - 3)) := by
  unfold riseOf; grind
theorem rise_range {B m : Int} (hB : 2 ^ 100 ≤ B) (h0 : 0 ≤ m) (h1 : m < 2 ^ 21) : 0 ≤ riseOf m B ∧ riseOf m B < 2 ^ 22 * (B - 1) := by
  unfold riseOf
  have a : 1 * (B - 1) ≤ (m + 1) * (B - 1) := Int.mul_le_mul_of_nonneg_right (by omega) (by omega)
  have b : (m + 1) * (B - 1) ≤ 2 ^ 21 * (B - 1) := Int.mul_le_mul_of_nonneg_right (by omega) (by omega)
  omega
theorem top_lt {B x : Int} (hB : 2 ^ 100 ≤ B) (_h0 : 0 ≤ x) (h1 : x < 2 ^ 22 * (B - 1)) : x * (B - 1) < (B - 3) * (B - 1) * (B - 1) := by
  have a : 2 ^ 22 * (B - 1) ≤ (B - 3) * (B - 1) := Int.mul_le_mul_of_nonneg_right (by omega) (by omega)
  exact Int.mul_lt_mul_of_pos_right (by omega) (by omega)
theorem sum_range {B x q k c : Int} (hB : 2 ^ 100 ≤ B) (h0 : 0 ≤ x) (h1 : x < 2 ^ 22 * (B - 1)) (q0 : 0 ≤ q) (q1 : q < 2 ^ 20) (k0 : 0 ≤ k) (k1 : k ≤ 4) (c0 : 0 ≤ c) (c1 : c ≤ 2) :
    0 ≤ q * (B - 3) * (B - 1) + k * x + c * (B - 3) ∧ q * (B - 3) * (B - 1) + k * x + c * (B - 3) < (B - 3) * (B - 1) * (B - 1) := by
  have hP : 0 ≤ (B - 3) * (B - 1) := Int.mul_nonneg (by omega) (by omega)
  have a : 2 ^ 50 * (B - 1) ≤ (B - 3) * (B - 1) := Int.mul_le_mul_of_nonneg_right (by omega) (by omega)
  have b : (2 : Int) ^ 50 * ((B - 3) * (B - 1)) ≤ (B - 1) * ((B - 3) * (B - 1)) := Int.mul_le_mul_of_nonneg_right (by omega) hP
  have e : (B - 3) * (B - 1) * (B - 1) = (B - 1) * ((B - 3) * (B - 1)) := Int.mul_comm _ _
  have d : q * ((B - 3) * (B - 1)) ≤ 2 ^ 20 * ((B - 3) * (B - 1)) := Int.mul_le_mul_of_nonneg_right (by omega) hP
  have d0 : 0 ≤ q * ((B - 3) * (B - 1)) := Int.mul_nonneg q0 hP
  have f : k * x ≤ 4 * x := Int.mul_le_mul_of_nonneg_right k1 h0
  have f0 : 0 ≤ k * x := Int.mul_nonneg k0 h0
  have g : c * (B - 3) ≤ 2 * (B - 3) := Int.mul_le_mul_of_nonneg_right c1 (by omega)
  have g0 : 0 ≤ c * (B - 3) := Int.mul_nonneg c0 (by omega)
  rw [e, Int.mul_assoc]
  omega
theorem bot_range {wd : Nat} (hw : 2100 ≤ wd) : (2 : Int) ^ (3 * wd - 1) ≤ (2 ^ wd - 3) * (2 ^ wd - 1) * (2 ^ wd - 1) ∧ ((2 : Int) ^ wd - 3) * (2 ^ wd - 1) * (2 ^ wd - 1) < 2 ^ (3 * wd) := by
  have e3 : (2 : Int) ^ (3 * wd) = 2 ^ wd * 2 ^ wd * 2 ^ wd := by
    rw [show 3 * wd = wd + wd + wd by omega, Int.pow_add, Int.pow_add]
  have e4 : 2 * (2 : Int) ^ (3 * wd - 1) = 2 ^ (3 * wd) := by
    rw [show 3 * wd = (3 * wd - 1) + 1 by omega, Int.pow_succ, Nat.add_sub_cancel]; omega
  have hB := pow2_ge hw
  generalize (2 : Int) ^ wd = B at *
  have hBB : 2 ^ 100 * B ≤ B * B := Int.mul_le_mul_of_nonneg_right hB (by omega)
  have hBBB : 2 ^ 100 * (B * B) ≤ B * B * B := by
    have := Int.mul_le_mul_of_nonneg_left hB (show (0 : Int) ≤ B * B by omega)
    rw [Int.mul_comm]; exact this
  have hx : (B - 3) * (B - 1) * (B - 1) = B * B * B - 5 * (B * B) + 7 * B - 3 := by grind
  rw [hx]
  omega
theorem zip_m {wd : Nat} {m : Int} (hw1 : 2100 ≤ wd) (hw2 : wd ≤ 2199) (h0 : 0 ≤ m) (h1 : m ≤ 231) : ZipOk wd (3 * wd) (((2 : Int) ^ wd - 3) * (2 ^ wd - 1) * (2 ^ wd - 1)) ((2 ^ wd) ^ 3 * (riseOf m (2 ^ wd) * (2 ^ wd - 1))) [m, 3 * m + 2, 3 * (3 * m + 2) + 2] := by
  have hr := bot_range hw1
  have hB := pow2_ge hw1
  have hrr := rise_range (m := 3 * (3 * (3 * m + 2) + 2) + 2) hB (by omega) (by omega)
  exact zip_of hw1 hw2 (by omega) (by omega) hr.1 hr.2 (by omega) (by omega) (by omega) (by omega) (by omega) (by omega) rfl (step_m _ _) (step_m _ _) (step_m _ _) (Int.mul_nonneg hrr.1 (by omega)) (top_lt hB hrr.1 hrr.2)
theorem zip_q {wd : Nat} {m q : Int} (hw1 : 2100 ≤ wd) (hw2 : wd ≤ 2199) (h0 : 0 ≤ m) (h1 : m ≤ 231) (q0 : 0 ≤ q) (q1 : q ≤ 231) : ZipOk wd (3 * wd) (((2 : Int) ^ wd - 3) * (2 ^ wd - 1) * (2 ^ wd - 1)) ((2 ^ wd) ^ 3 * (q * (2 ^ wd - 3) * (2 ^ wd - 1) + 2 * riseOf m (2 ^ wd))) [q, q + 2 * m, q + 2 * m + 2 * (3 * m + 2)] := by
  have hr := bot_range hw1
  have hB := pow2_ge hw1
  have hrr := rise_range (m := 3 * (3 * (3 * m + 2) + 2) + 2) hB (by omega) (by omega)
  have hs := sum_range (q := q + 2 * m + 2 * (3 * m + 2) + 2 * (3 * (3 * m + 2) + 2)) (k := 2) (c := 0) hB hrr.1 hrr.2 (by omega) (by omega) (by omega) (by omega) (by omega) (by omega)
  rw [Int.zero_mul, Int.add_zero] at hs
  exact zip_of hw1 hw2 (by omega) (by omega) hr.1 hr.2 (by omega) (by omega) (by omega) (by omega) (by omega) (by omega) rfl (step_q _ _ _) (step_q _ _ _) (step_q _ _ _) hs.1 hs.2
theorem zip_n {wd : Nat} {m k : Int} (hw1 : 2100 ≤ wd) (hw2 : wd ≤ 2199) (h0 : 0 ≤ m) (h1 : m ≤ 231) (k0 : 0 ≤ k) (k1 : k ≤ 231) : ZipOk wd (3 * wd) (((2 : Int) ^ wd - 3) * (2 ^ wd - 1) * (2 ^ wd - 1)) ((2 ^ wd) ^ 3 * (k * (2 ^ wd - 3) * (2 ^ wd - 1) + 4 * riseOf m (2 ^ wd) + 2 * (2 ^ wd - 3))) [k, k + 4 * m + 2, k + 4 * m + 2 + 4 * (3 * m + 2) + 2] := by
  have hr := bot_range hw1
  have hB := pow2_ge hw1
  have hrr := rise_range (m := 3 * (3 * (3 * m + 2) + 2) + 2) hB (by omega) (by omega)
  have hs := sum_range (q := k + 4 * m + 2 + 4 * (3 * m + 2) + 2 + 4 * (3 * (3 * m + 2) + 2) + 2) (k := 4) (c := 2) hB hrr.1 hrr.2 (by omega) (by omega) (by omega) (by omega) (by omega) (by omega)
  exact zip_of hw1 hw2 (by omega) (by omega) hr.1 hr.2 (by omega) (by omega) (by omega) (by omega) (by omega) (by omega) rfl (step_n _ _ _) (step_n _ _ _) (step_n _ _ _) hs.1 hs.2
theorem one_range {wd : Nat} (hw1 : 2100 ≤ wd) : (2 : Int) ^ (wd - 1) ≤ 2 ^ wd - 1 := by
  have e : (2 : Int) ^ wd = 2 * 2 ^ (wd - 1) := by
    conv => lhs; rw [show wd = (wd - 1) + 1 by omega]
    rw [Int.pow_succ]; omega
  have := pow2_ge hw1
  omega
theorem zip_b {wd : Nat} {k : Int} (hw1 : 2100 ≤ wd) (hw2 : wd ≤ 2199) (k0 : 0 ≤ k) (k1 : k ≤ 231) : ZipOk wd wd ((2 : Int) ^ wd - 1) ((2 ^ wd) ^ 3 * k) [k, k, k] := by
  have hB := pow2_ge hw1
  have hs : (2 : Int) ^ wd * k = k * (2 ^ wd - 1) + k := by rw [Int.mul_sub, Int.mul_one, Int.mul_comm]; omega
  exact zip_of hw1 hw2 (by omega) (by omega) (one_range hw1) (by omega) k0 k0 k0 (by omega) (by omega) (by omega) rfl hs hs hs k0 (by omega)
theorem plain_ok {ws : List (List Nat)} (hws : WordsAre ws) {wd : Nat} (hw1 : 2100 ≤ wd) (hw2 : wd ≤ 2199) : ∃ n, PlainOk ws wd n := by
  have e1 := parts_quo (lineOf ws)
  have e2 := parts_quo (quo (lineOf ws))
  rw [bare_quo] at e2
  rw [bare_line hws.ne] at e1 e2
  have m0 := marks_line ws
  have q0 := quotes_line ws
  have n0 := count_line hws.ne
  rw [← parts_length] at n0
  have c39 : cntc 39 (lineOf ws) = ((partsOf (lineOf ws)).count (.txt (tx [39])) : Nat) := by unfold cntc; rw [count39]
  have c34 : cntc 34 (lineOf ws) = ((partsOf (lineOf ws)).count (.txt (tx [34])) : Nat) := by unfold cntc; rw [count34]
  have hl := line_len hws.l hws.n
  have hsr := stars_range (lineOf ws)
  have hpl : (partsOf (lineOf ws)).length ≤ 231 := by have := parts_length (lineOf ws); omega
  have h39 : (((partsOf (lineOf ws)).count (.txt (tx [39])) : Nat) : Int) ≤ 231 := by have := Nat.le_trans (List.count_le_length (a := Sg.txt (tx [39]))) hpl; omega
  have h34 : (((partsOf (lineOf ws)).count (.txt (tx [34])) : Nat) : Int) ≤ 231 := by have := Nat.le_trans (List.count_le_length (a := Sg.txt (tx [34]))) hpl; omega
  have hbl := bare_line hws.ne
  rw [c39] at m0
  rw [c34] at q0
  cases hb : bareW ws with
  | false =>
    have a39 := quoted39 (partsOf (lineOf ws))
    have a34 := quoted34 (partsOf (lineOf ws))
    have aln := quotedLen (partsOf (lineOf ws))
    have b39 := quoted39 (partsOf (quo (lineOf ws)))
    have b34 := quoted34 (partsOf (quo (lineOf ws)))
    have bln := quotedLen (partsOf (quo (lineOf ws)))
    have e1' := e1
    have e2' := e2
    rw [hb] at e1' e2'
    simp only [Bool.false_eq_true, if_false] at e1' e2'
    rw [← e1'] at a39 a34 aln
    rw [← e2'] at b39 b34 bln
    have hr := bot_range hw1
    refine ⟨3 * wd, e1, e2, ?_, ?_, ?_, ?_⟩ <;> rw [hb]
    · exact ⟨by omega, by omega, hr.1, hr.2⟩
    · have := zip_m hw1 hw2 (m := (((partsOf (lineOf ws)).count (.txt (tx [39])) : Nat) : Int)) (by omega) h39
      rw [← a39, ← b39] at this
      rw [m0]
      exact this
    · have := zip_q hw1 hw2 (m := (((partsOf (lineOf ws)).count (.txt (tx [39])) : Nat) : Int)) (q := (((partsOf (lineOf ws)).count (.txt (tx [34])) : Nat) : Int)) (by omega) h39 (by omega) h34
      rw [← a34, ← a39, ← b34] at this
      rw [m0, q0]
      exact this
    · have := zip_n hw1 hw2 (m := (((partsOf (lineOf ws)).count (.txt (tx [39])) : Nat) : Int)) (k := (((partsOf (lineOf ws)).length : Nat) : Int)) (by omega) h39 (by omega) (by omega)
      rw [← a39, ← aln, ← bln] at this
      rw [m0, n0]
      exact this
  | true =>
    have e1' := e1
    have e2' := e2
    rw [hb] at e1' e2' hbl
    simp only [if_true] at e1' e2'
    rw [e1'] at e2'
    have z39 : (((partsOf (lineOf ws)).count (.txt (tx [39])) : Nat) : Int) = 0 := by rw [← c39]; exact bare_count hbl 39 (by decide) (by decide)
    have z34 : (((partsOf (lineOf ws)).count (.txt (tx [34])) : Nat) : Int) = 0 := by rw [← c34]; exact bare_count hbl 34 (by decide) (by decide)
    have hB := pow2_ge hw1
    refine ⟨wd, e1, e2, ?_, ?_, ?_, ?_⟩ <;> rw [hb]
    · exact ⟨by omega, by omega, one_range hw1, by show (2 : Int) ^ wd - 1 < _; omega⟩
    · have := zip_b hw1 hw2 (k := 0) (by omega) (by omega)
      rw [Int.mul_zero] at this
      unfold cntS rowsOf
      rw [e2', e1']
      simp only [List.map_cons, List.map_nil]
      rw [z39]
      exact this
    · have := zip_b hw1 hw2 (k := 0) (by omega) (by omega)
      rw [Int.mul_zero] at this
      unfold cntS rowsOf
      rw [e2', e1']
      simp only [List.map_cons, List.map_nil]
      rw [z34]
      exact this
    · have := zip_b hw1 hw2 (k := (((partsOf (lineOf ws)).length : Nat) : Int)) (by omega) (by omega)
      unfold lenS rowsOf
      rw [e2', e1', n0]
      exact this
example : True := by w_top off; trivial
theorem fr_kst {B h : Heap} {L : Addr} {m : Str → Option Value} (nms : List (Str × Value)) (F : Fr B L h m) (hn : ∀ p ∈ nms, m p.1 = some p.2) : Fr B L h (kstB m nms) := by
  have e : kstB m nms = m := by
    funext y
    exact kstB_eq hn fun _ => rfl
  rw [e]; exact F
theorem my_pow2 {prog : Program} {w : World} {A : Around} {E : Value → Shared → Prop} {Q : Value → Shared → Prop} {s : Shared} {t u : Tok} {wd : Nat} (hw : wd ≤ 2200) (h : Q (.int (2 ^ wd) s.toks) { s with toks := s.toks + 1 }) :
    wpAny (model prog w) A (binaryOp .Pow (.int 2 t) (.int (wd : Int) u)) Q E s :=
  pow_int (by omega) (by have e : Builtin.Int.intBits 2 = 2 := by decide
                         rw [e]; omega) (by rw [Int.toNat_natCast]; exact h)
theorem ne_tab {B h : Heap} {L c P : Addr} {o : Obj} {p : Array Value} {led : List (Addr × Obj)} (N : News B L h led) (hc : (c, o) ∈ led) (hP : (P, tabObj p) ∈ led) (hcl : o.cls = .type "list") : @Ne Nat c P := by
  rintro rfl
  have h1 := (N _ hc).1
  have h2 := (N _ hP).1
  dsimp only at h1 h2
  rw [h1] at h2
  injection h2 with h2
  rw [h2] at hcl
  cases hcl
theorem law_C (w : World) {name qual : Str} {params : Arguments} {body : List Stmt} {scope : Scope} {dV kV doc pm cdv ct oc : Value} {an od : Option Addr} {osl : Array (Option Value)}
    (hK : (hd.heap_1 w.params).lookup 156 = some ⟨oc, od, .func (fnOf name qual params body scope dV kV doc pm an cdv ct), osl⟩)
    {B h : Heap} {L : Addr} {u : Str → Option Value} {g : Array GenState} {d : Drawn} {tk : Nat} {os : OsState}
    {dp un : Nat} {fr : Option (List Env)} {gd : Option (List Code)} (hdp : dp + 200 < recursionLimit) (hun : un + 3000 < cLine)
    (I2 : Inv w B) {Q : Flow → Shared → Prop}
    {wd n : Nat} {bot t0 t1 t2 : Int} {A0 A1 A2 : List Int} (hw1 : 2100 ≤ wd) (hw2 : wd ≤ 2199) (hb : BotOk n bot) (z0 : ZipOk wd n bot t0 A0) (z1 : ZipOk wd n bot t1 A1) (z2 : ZipOk wd n bot t2 A2)
    {v0 v1 v2 : List Value} {sn c0 c1 c2 D bT : Addr} {oD : Obj} {u0 u1 u2 tw tb : Tok} {ks kT : Nat} {p97 : Array Value} {R : List (Addr × Obj)}
    (F : Fr B L h u)
    (N : News B L h ((sn, W.listOf #[Value.ref c0, Value.ref c1, Value.ref c2] ks) :: (c2, LCg.lst v2) :: (c1, LCg.lst v1) :: (c0, LCg.lst v0) :: (D, oD) :: (bT, W.listOf #[Value.int t0 u0, Value.int t1 u1, Value.int t2 u2] kT) :: R))
    (i0 : IntsAre v0 A0) (i1 : IntsAre v1 A1) (i2 : IntsAre v2 A2)
    (hm : ∀ p ∈ [(Str.ofString "seen", .ref sn), (Str.ofString "tops", .ref bT), (Str.ofString "bottom", .int bot tb), (Str.ofString "width", .int wd tw)], u p.1 = some p.2)
    (h97 : (97, tabObj p97) ∈ R) (h54 : (54, tabObj #[]) ∈ R) (h47 : (47, tabObj #[]) ∈ R)
    (hQ : ∀ h' tk p47 p54 m', Fr B L h' m' → News B L h' [(47, tabObj p47), (54, tabObj p54), (97, tabObj p97)] → Q (.ret (.bool true)) ⟨h', g, d, tk, os⟩) :
    wpAny (model PySem.Challenge.rw_ik0159_01.row.prog w) ((Ar dp un fr gd).deeper (envOfC qual scope L 156 cdv)) (execs (body.drop 12) (envOfC qual scope L 156 cdv)) Q (fun _ _ => False) ⟨h, g, d, tk, os⟩ := by
  obtain ⟨led, hled⟩ : ∃ led, led = (sn, W.listOf #[Value.ref c0, Value.ref c1, Value.ref c2] ks) :: (c2, LCg.lst v2) :: (c1, LCg.lst v1) :: (c0, LCg.lst v0) :: (D, oD) :: (bT, W.listOf #[Value.int t0 u0, Value.int t1 u1, Value.int t2 u2] kT) :: R := ⟨_, rfl⟩
  rw [← hled] at N
  have m97 : (97, tabObj p97) ∈ led := by rw [hled]; exact .tail _ (.tail _ (.tail _ (.tail _ (.tail _ (.tail _ h97)))))
  have m54 : (54, tabObj #[]) ∈ led := by rw [hled]; exact .tail _ (.tail _ (.tail _ (.tail _ (.tail _ (.tail _ h54)))))
  have m47 : (47, tabObj #[]) ∈ led := by rw [hled]; exact .tail _ (.tail _ (.tail _ (.tail _ (.tail _ (.tail _ h47)))))
  have ms : (sn, W.listOf #[Value.ref c0, Value.ref c1, Value.ref c2] ks) ∈ led := by rw [hled]; exact .head _
  have m2 : (c2, LCg.lst v2) ∈ led := by rw [hled]; exact .tail _ (.head _)
  have m1 : (c1, LCg.lst v1) ∈ led := by rw [hled]; exact .tail _ mem1
  have m0 : (c0, LCg.lst v0) ∈ led := by rw [hled]; exact .tail _ mem2
  have mb : (bT, W.listOf #[Value.int t0 u0, Value.int t1 u1, Value.int t2 u2] kT) ∈ led := by rw [hled]; exact .tail _ mem4
  refine law_D w hK B h L u g d tk os dp un fr gd hdp hun I2 Q wd n bot t0 t1 t2 A0 A1 A2 v0 v1 v2 sn c0 c1 c2 bT u0 u1 u2 tw tb ks kT p97 hw1 hw2 hb z0 z1 z2 i0 i1 i2 ?_ (fr_kst _ F hm) ?_ hQ
  · intro p hp
    apply mem_split p hp
    · exact ⟨ne_tab N ms m47 rfl, ne_tab N ms m54 rfl⟩
    intro hp
    apply mem_split p hp
    · exact ⟨ne_tab N mb m47 rfl, ne_tab N mb m54 rfl⟩
    intro hp
    apply mem_split p hp
    · exact ⟨ne_tab N m0 m47 rfl, ne_tab N m0 m54 rfl⟩
    intro hp
    apply mem_split p hp
    · exact ⟨ne_tab N m1 m47 rfl, ne_tab N m1 m54 rfl⟩
    intro hp
    apply mem_split p hp
    · exact ⟨ne_tab N m2 m47 rfl, ne_tab N m2 m54 rfl⟩
    intro hp
    · apply mem_one p hp
      exact ⟨(by decide : (97 : Nat) ≠ 47), (by decide : (97 : Nat) ≠ 54)⟩
  · intro p hp
    apply mem_split p hp
    · exact N _ m47
    intro hp
    apply mem_split p hp
    · exact N _ m54
    intro hp
    apply mem_split p hp
    · exact N _ ms
    intro hp
    apply mem_split p hp
    · exact N _ mb
    intro hp
    apply mem_split p hp
    · exact N _ m0
    intro hp
    apply mem_split p hp
    · exact N _ m1
    intro hp
    apply mem_split p hp
    · exact N _ m2
    intro hp
    · apply mem_one p hp
      exact N _ m97
local macro_rules | `(tactic| k_ne) => `(tactic| (refine neN ?_; (try dsimp only); with_reducible first | assumption | exact Ne.symm (by assumption) | exact OffAll.get (by assumption) (by k_dflt (k_mem)) | exact Ne.symm (OffAll.get (by assumption) (by k_dflt (k_mem))) | ((rename (_ ∧ _ ∧ _) ∧ _ => o9); simp only [o9, ne_eq, not_false_eq_true]; done) | ((rename (_ ∧ _ ∧ _) ∧ _ => o9); apply Ne.symm; simp only [o9, ne_eq, not_false_eq_true]; done) | ((rename (_ < _ ∧ _) => l9); apply Nat.ne_of_lt; simp only [l9]; done) | ((rename (_ < _ ∧ _) => l9); apply Nat.ne_of_gt; simp only [l9]; done) | decide | (with_unfolding_all omega)))
local macro_rules | `(tactic| walk_at "call builtin:list.count") => `(tactic| (k_here; (with_reducible show wpAny _ _ (call (Value.builtin "list.count") [Value.ref _, Value.str _ _]) _ _ _); k_dflt (refine' my_cnt ?hl ?S ?hs ?hu ?_; (case hl => exact News.get (by k_asm) (by k_mem)); (case hs => assumption); (case S => exact ⟨_, _, News.get (by k_asm) (by k_mem)⟩); (case hu => fail "m units64"))))
local macro_rules | `(tactic| walk_at "binaryOp Pow int int") => `(tactic| (refine my_pow2 (by omega) ?_))
theorem law_B (w : World) {name qual : Str} {params : Arguments} {body : List Stmt} {scope : Scope} {dV kV doc pm cdv ct oc : Value} {an od : Option Addr} {osl : Array (Option Value)}
    (hK : (hd.heap_1 w.params).lookup 156 = some ⟨oc, od, .func (fnOf name qual params body scope dV kV doc pm an cdv ct), osl⟩)
    (B h : Heap) (L : Addr) (u : Str → Option Value) (g : Array GenState) (d : Drawn) (tk : Nat) (os : OsState)
    (dp un : Nat) (fr : Option (List Env)) (gd : Option (List Code)) (hdp : dp + 200 < recursionLimit) (hun : un + 3000 < cLine)
    (I2 : Inv w B) (Q : Flow → Shared → Prop)
    (ws : List (List Nat)) (us : List Value) (wd n : Nat) (hws : WordsAre ws) (hW : TxAre us ws) (hP : PlainOk ws wd n) (hw1 : 2100 ≤ wd) (hw2 : wd ≤ 2199)
    (dD dR r0 r1 r2 lS bW : Addr) (usD ur0 ur1 ur2 : List Value) (kD k0 k1 k2 kW : Nat) (tS tw : Tok) (p97 : Array Value)
    (hsD : SgsAre lS usD (partsOf (lineOf ws))) (hs0 : SgsAre lS ur0 (partsOf (lineOf ws))) (hs1 : SgsAre lS ur1 (partsOf (quo (lineOf ws)))) (hs2 : SgsAre lS ur2 (partsOf (quo (quo (lineOf ws)))))
    (F : Fr B L h (kstB u [(Str.ofString "due", .ref dD), (Str.ofString "rows", .ref dR), (Str.ofString "width", .int wd tw), (Str.ofString "words", .ref bW)]))
    (N : News B L h [(dD, W.listOf usD.toArray kD), (dR, LCg.lst [Value.ref r0, Value.ref r1, Value.ref r2]), (r0, W.listOf ur0.toArray k0), (r1, W.listOf ur1.toArray k1), (r2, W.listOf ur2.toArray k2), (lS, W.listOf #[Value.str (Str.ofString "star") tS] 0), (bW, W.listOf us.toArray kW), (97, tabObj p97), (54, tabObj #[]), (47, tabObj #[])])
    (hQ : ∀ h' tk p47 p54 m', Fr B L h' m' → News B L h' [(47, tabObj p47), (54, tabObj p54), (97, tabObj p97)] → Q (.ret (.bool true)) ⟨h', g, d, tk, os⟩) :
    wpAny (model PySem.Challenge.rw_ik0159_01.row.prog w) ((Ar dp un fr gd).deeper (envOfC qual scope L 156 cdv)) (execs (body.drop 8) (envOfC qual scope L 156 cdv)) Q (fun _ _ => False) ⟨h, g, d, tk, os⟩ := by
  have X := Inv.X I2
  obtain ⟨p2, loose2, mean2, mg2, mb2, T2⟩ := Inv.T I2
  revert X
  k_fill
  intro X
  k_dflt (refine' lookup_eq hK ?h2 ?_; (case h2 => k_is))
  intro hK2
  cases hK2
  show wpAny _ _ (execs [_, _, _, _, _, _] _) _ _ _
  obtain ⟨l0, t0, ws', vs', rfl, rfl, hW'⟩ : ∃ l0 t0 ws' vs', us = Value.str (tx l0) t0 :: vs' ∧ ws = l0 :: ws' ∧ TxAre vs' ws' := by
    cases hW with
    | nil => exact absurd rfl hws.ne
    | cons hd r => obtain ⟨t, rfl⟩ := hd; exact ⟨_, _, _, _, rfl, rfl, r⟩
  have hn7 := hws.n
  have hvl : (Value.str (tx l0) t0 :: vs').length ≤ 100 := by rw [paired_len hW]; omega
  have ok0 : ∀ c ∈ l0, okC c = true := hws.ok l0 (.head _)
  have hl0 : l0.length ≤ 100 := hws.l100 l0 (.head _)
  repeat ((fail_if_success (with_reducible show PySem.wpAny _ _ (PySem.eval (PySem.Expr.BoolOp _ _ _) _) _ _ _)); (first | ((with_reducible show PySem.wpAny _ _ (PySem.execs _ _) _ _ _); k_fold) | walk1 | (dsimp only; walk1)))
  have hbw : bareW (l0 :: ws') = (decide (ws'.length = 0) && bareB l0) := by unfold bareW; simp
  refine cut_pure (fun v => v = .bool (decide (ws'.length = 0) && bareB l0)) F N ?_ ?_
  · (repeat' ((( (fail_if_success (with_reducible show PySem.wpAny _ _ (PySem.exec (PySem.Stmt.For _ _ _ _ _) _) _ _ _)); (fail_if_success (with_reducible show PySem.wpAny _ _ (PySem.exec (PySem.Stmt.While _ _ _ _) _) _ _ _)); first | (k_unfold; (try dsimp only)) | (first | ((with_reducible show PySem.wpAny _ _ (PySem.execs _ _) _ _ _); k_fold) | walk1 | (dsimp only; walk1)) | fail "no step"))))
    all_goals (first | assumption | skip)
    · rename ((_ : Nat) : Int) = 1 => e1
      have e2 : ws'.length = 0 := by rw [← paired_len hW']; simp only [List.length_cons] at e1; omega
      simp [e2]
    · rename ((_ : Nat) : Int) ≠ 1 => e1
      have e4 : ¬ vs'.length = 0 := by intro e3; exact e1 (by simp [e3])
      have e2 : ¬ ws'.length = 0 := by rw [← paired_len hW']; exact e4
      simp [e2]
      omega
  · rintro v h2 tk2 rfl F2 N2
    clear F N
    rw [← hbw]
    generalize hb : bareW (l0 :: ws') = bw at *
    (repeat' ((( (fail_if_success (with_reducible show PySem.wpAny _ _ (PySem.exec (PySem.Stmt.For _ _ _ _ _) _) _ _ _)); (fail_if_success (with_reducible show PySem.wpAny _ _ (PySem.exec (PySem.Stmt.While _ _ _ _) _) _ _ _)); first | (k_unfold; (try dsimp only)) | (first | ((with_reducible show PySem.wpAny _ _ (PySem.execs _ _) _ _ _); k_fold) | walk1 | (dsimp only; walk1)) | fail "no step"))))
    rename Fr _ _ _ _ => F3
    rename News _ _ _ _ => N3
    refine For_turns F3 ?_
    walk1
    have okL := line_ok hws.ok
    have lenL := line_len hws.l hws.n
    have okQ := quo_ok okL
    have lenQ := quo_len (lineOf (l0 :: ws'))
    have okR := quo_ok okQ
    have lenR := quo_len (quo (lineOf (l0 :: ws')))
    have hd1 := hP.d1
    have hd2 := hP.d2
    rw [hb] at hd1 hd2
    obtain ⟨dueAt, due0, dueS⟩ : ∃ f : Nat → List Sg, f 0 = partsOf (lineOf (l0 :: ws')) ∧ ∀ i, f (i + 1) = if bw then f i else quotedSg (f i) := ⟨fun i => Nat.rec (partsOf (lineOf (l0 :: ws'))) (fun _ x => if bw then x else quotedSg x) i, rfl, fun _ => rfl⟩
    have due1 : dueAt 1 = partsOf (quo (lineOf (l0 :: ws'))) := by rw [dueS, due0, hd1]
    have due2 : dueAt 2 = partsOf (quo (quo (lineOf (l0 :: ws')))) := by rw [dueS, due1, hd2]
    generalize hFX : ([(dR, LCg.lst [Value.ref r0, Value.ref r1, Value.ref r2]), (r0, W.listOf ur0.toArray k0), (r1, W.listOf ur1.toArray k1), (r2, W.listOf ur2.toArray k2), (lS, W.listOf #[Value.str (Str.ofString "star") tS] 0), (bW, W.listOf (Value.str (tx l0) t0 :: vs').toArray kW), (97, tabObj p97), (54, tabObj #[]), (47, tabObj #[])] : List (Addr × Obj)) = R at N3
    have hRd : (dR, LCg.lst [Value.ref r0, Value.ref r1, Value.ref r2]) ∈ R := hFX ▸ .head _
    have hRs : (lS, W.listOf #[Value.str (Str.ofString "star") tS] 0) ∈ R := hFX ▸ by k_mem
    have key : ∀ i v, [Value.ref r0, Value.ref r1, Value.ref r2][i]? = some v → ∃ ri ui ki, v = Value.ref ri ∧ (ri, W.listOf (List.toArray ui) ki) ∈ R ∧ SgsAre lS ui (dueAt i) ∧ (∀ p ∈ dueAt i, sgOk p = true) ∧ (dueAt i).length ≤ 100000 := by
      intro i v hv
      rcases i with _ | _ | _ | i
      · cases hv; exact ⟨r0, ur0, k0, rfl, hFX ▸ by k_mem, by rw [due0]; exact hs0, by rw [due0]; exact parts_ok okL, by rw [due0]; exact Nat.le_trans (parts_len _) (by omega)⟩
      · cases hv; exact ⟨r1, ur1, k1, rfl, hFX ▸ by k_mem, by rw [due1]; exact hs1, by rw [due1]; exact parts_ok okQ, by rw [due1]; exact Nat.le_trans (parts_len _) (by omega)⟩
      · cases hv; exact ⟨r2, ur2, k2, rfl, hFX ▸ by k_mem, by rw [due2]; exact hs2, by rw [due2]; exact parts_ok okR, by rw [due2]; exact Nat.le_trans (parts_len _) (by omega)⟩
      · cases hv
    refine list_G (its := [Value.ref r0, Value.ref r1, Value.ref r2]) [Str.ofString "row"] (fun i c => ∃ (dd : Addr) (usd : List Value) (kd : Nat), c.nms = [(Str.ofString "due", .ref dd)] ∧ c.led = (dd, W.listOf usd.toArray kd) :: R ∧ SgsAre lS usd (dueAt i))
      ⟨(dD, W.listOf usD.toArray kD) :: R, [(Str.ofString "due", .ref dD)]⟩ rfl rfl ⟨_, rfl⟩ (.inr (by
        rintro i ⟨led, nms⟩ ⟨dd, usd, kd, hnms, hled, _⟩
        dsimp only at hled ⊢
        subst hled
        exact .tail _ hRd)) F3 N3 (by ((repeat (first | exact List.forall_mem_nil _ | refine fm_cons (by with_unfolding_all rfl) ?_)))) ⟨dD, usD, kD, rfl, rfl, by rw [due0]; exact hsD⟩ ?_ ?_
    · rintro i v ⟨led, nms⟩ uu h3 tk3 I' oI hv ⟨dd, usd, kd, hnms, hled, hsd⟩ hoff F4 N4
      dsimp only at hnms hled F4 N4 hoff
      subst hnms hled
      obtain ⟨ri, ui, ki, rfl, hri, hsi, hoki, hleni⟩ := key i v hv
      have hddI : @Ne Nat dd I' := hoff _ (.head _)
      have hRI : ∀ p ∈ R, p.1 ≠ I' := fun p hp => hoff p (.tail _ hp)
      have N5 : News B (envOfC (Str.ofString "law") default L 156 (Value.ref 155)).locals h3 ((I', oI) :: (dd, W.listOf usd.toArray kd) :: (ri, W.listOf ui.toArray ki) :: (lS, W.listOf #[Value.str (Str.ofString "star") tS] 0) :: R) := by
        intro p hp
        apply mem_split p hp
        · exact N4 _ (.head _)
        intro hp
        apply mem_split p hp
        · exact N4 _ mem1
        intro hp
        apply mem_split p hp
        · exact N4 _ (.tail _ (.tail _ hri))
        intro hp
        apply mem_split p hp
        · exact N4 _ (.tail _ (.tail _ hRs))
        intro hp
        · exact N4 _ (.tail _ (.tail _ hp))
      clear N4 N3 F3 key
      repeat' ((fail_if_success (with_reducible show PySem.wpAny _ _ (PySem.compareOp _ _ _) _ _ _)); first | (k_unfold; (try dsimp only)) | (first | ((with_reducible show PySem.wpAny _ _ (PySem.execs _ _) _ _ _); k_fold) | walk1 | (dsimp only; walk1)))
      rename News _ _ _ _ => N6
      clear N5
      obtain ⟨as1, ra⟩ := reads_sgl (st := lS) ⟨_, _, N6.get (by k_mem)⟩ (N6.get mem2) hsi
      obtain ⟨bs1, rb⟩ := reads_sgl (st := lS) ⟨_, _, N6.get (by k_mem)⟩ (N6.get mem1) hsd
      refine ne_sgs ra rb hoki hoki (by fail "m units64") ?_
      rw [show (!decide (dueAt i = dueAt i)) = false by simp]
      cases bw
      · repeat' ((fail_if_success (with_reducible show PySem.wpAny _ _ (PySem.call (Value.ref 146) _) _ _ _)); first | (k_unfold; (try dsimp only)) | (first | ((with_reducible show PySem.wpAny _ _ (PySem.execs _ _) _ _ _); k_fold) | walk1 | (dsimp only; walk1)))
        rename News _ _ _ _ => N7
        rename Fr _ _ _ _ => F7
        refine use_quoted I2 F7 N7 (by k_mem) mem1 hsd hoki hleni rfl (by show (Ar _ _ _ _).depth + 1 + 20 < _; dsimp only [Ar]; omega) (by fail "m units64") ?_
        intro D9 us9 k9 h9 tk9 F9 N9 hne9 hs9
        have hDI : @Ne Nat D9 I' := (hne9.get (.head _)).symm
        clear N7 F7
        (repeat' ((( (fail_if_success (with_reducible show PySem.wpAny _ _ (PySem.exec (PySem.Stmt.For _ _ _ _ _) _) _ _ _)); (fail_if_success (with_reducible show PySem.wpAny _ _ (PySem.exec (PySem.Stmt.While _ _ _ _) _) _ _ _)); first | (k_unfold; (try dsimp only)) | (first | ((with_reducible show PySem.wpAny _ _ (PySem.execs _ _) _ _ _); k_fold) | walk1 | (dsimp only; walk1)) | fail "no step"))))
        rename News _ _ _ _ => N10
        rename Fr _ _ _ _ => F10
        refine TurnG.next (.inl rfl) ⟨(D9, W.listOf us9.toArray k9) :: R, [(Str.ofString "due", .ref D9)]⟩ F10 ?_ ?_ (by ((refine ⟨?n9, ?m9⟩; (case n9 => (repeat (first | exact List.forall_mem_nil _ | refine fm_cons (by with_unfolding_all rfl) ?_))); (case m9 => intro z h2 h3; (((try dsimp only [kstB]); (repeat (first | refine st_if (st_ne (by assumption) (by rfl)) ?_ | refine st_if (by assumption) ?_ | refine st_if (by rename (∀ p, p ∈ _ → _ ≠ _) => h9; exact h9 _ (.head _)) ?_ | refine st_if (by rename (∀ p, p ∈ _ → _ ≠ _) => h9; exact h9 _ mem1) ?_ | refine st_if (by rename (∀ p, p ∈ _ → _ ≠ _) => h9; exact h9 _ mem2) ?_ | refine st_if (by rename (∀ p, p ∈ _ → _ ≠ _) => h9; exact h9 _ mem3) ?_)); first | exact st_bot (by assumption) | ((repeat (first | refine st_ifr (st_ne (by assumption) (by rfl)) ?_ | refine st_ifr (by assumption) ?_ | refine st_ifr (by rename (∀ p, p ∈ _ → _ ≠ _) => h9; exact h9 _ (.head _)) ?_ | refine st_ifr (by rename (∀ p, p ∈ _ → _ ≠ _) => h9; exact h9 _ mem1) ?_ | refine st_ifr (by rename (∀ p, p ∈ _ → _ ≠ _) => h9; exact h9 _ mem2) ?_ | refine st_ifr (by rename (∀ p, p ∈ _ → _ ≠ _) => h9; exact h9 _ mem3) ?_)); exact rfl))))))) ⟨D9, us9, k9, rfl, rfl, by rw [dueS]; exact hs9⟩
        · intro p hp
          apply mem_split p hp
          · exact N10 _ (by k_mem)
          intro hp
          apply mem_split p hp
          · exact N10 _ (by k_mem)
          intro hp
          · exact N10 _ (.tail _ (.tail _ (.tail _ (.tail _ (.tail _ hp)))))
        · intro p hp r hr
          rw [List.mem_singleton.mp hr]
          apply mem_split p hp
          · exact hDI
          intro hp
          · exact hRI p hp
      · (repeat' ((( (fail_if_success (with_reducible show PySem.wpAny _ _ (PySem.exec (PySem.Stmt.For _ _ _ _ _) _) _ _ _)); (fail_if_success (with_reducible show PySem.wpAny _ _ (PySem.exec (PySem.Stmt.While _ _ _ _) _) _ _ _)); first | (k_unfold; (try dsimp only)) | (first | ((with_reducible show PySem.wpAny _ _ (PySem.execs _ _) _ _ _); k_fold) | walk1 | (dsimp only; walk1)) | fail "no step"))))
        rename News _ _ _ _ => N10
        rename Fr _ _ _ _ => F10
        refine TurnG.next (.inl rfl) ⟨(dd, W.listOf usd.toArray kd) :: R, [(Str.ofString "due", .ref dd)]⟩ F10 ?_ ?_ (by ((refine ⟨?n9, ?m9⟩; (case n9 => (repeat (first | exact List.forall_mem_nil _ | refine fm_cons (by with_unfolding_all rfl) ?_))); (case m9 => intro z h2 h3; (((try dsimp only [kstB]); (repeat (first | refine st_if (st_ne (by assumption) (by rfl)) ?_ | refine st_if (by assumption) ?_ | refine st_if (by rename (∀ p, p ∈ _ → _ ≠ _) => h9; exact h9 _ (.head _)) ?_ | refine st_if (by rename (∀ p, p ∈ _ → _ ≠ _) => h9; exact h9 _ mem1) ?_ | refine st_if (by rename (∀ p, p ∈ _ → _ ≠ _) => h9; exact h9 _ mem2) ?_ | refine st_if (by rename (∀ p, p ∈ _ → _ ≠ _) => h9; exact h9 _ mem3) ?_)); first | exact st_bot (by assumption) | ((repeat (first | refine st_ifr (st_ne (by assumption) (by rfl)) ?_ | refine st_ifr (by assumption) ?_ | refine st_ifr (by rename (∀ p, p ∈ _ → _ ≠ _) => h9; exact h9 _ (.head _)) ?_ | refine st_ifr (by rename (∀ p, p ∈ _ → _ ≠ _) => h9; exact h9 _ mem1) ?_ | refine st_ifr (by rename (∀ p, p ∈ _ → _ ≠ _) => h9; exact h9 _ mem2) ?_ | refine st_ifr (by rename (∀ p, p ∈ _ → _ ≠ _) => h9; exact h9 _ mem3) ?_)); exact rfl))))))) ⟨dd, usd, kd, rfl, rfl, by rw [dueS]; exact hsd⟩
        · intro p hp
          apply mem_split p hp
          · exact N10 _ (by k_mem)
          intro hp
          apply mem_split p hp
          · exact N10 _ (by k_mem)
          intro hp
          · exact N10 _ (.tail _ (.tail _ (.tail _ (.tail _ hp))))
        · intro p hp r hr
          rw [List.mem_singleton.mp hr]
          apply mem_split p hp
          · exact hddI
          intro hp
          · exact hRI p hp
    · rintro ⟨led, nms⟩ uu h3 tk3 ⟨dd, usd, kd, hnms, hled, hsd⟩ F4 N4
      dsimp only at hnms hled F4 N4
      subst hnms hled
      have N5 : News B L h3 R := fun p hp => N4 p (.tail _ hp)
      rw [← hFX] at N5
      clear N4 N3 F3 hRd hRs hFX key
      repeat' ((fail_if_success (with_reducible show PySem.wpAny _ _ (PySem.call (Value.ref 151) _) _ _ _)); first | (k_unfold; (try dsimp only)) | (first | ((with_reducible show PySem.wpAny _ _ (PySem.execs _ _) _ _ _); k_fold) | walk1 | (dsimp only; walk1)))
      refine use_tops (wd := wd) I2 F4 N5 (News.isList N5 (by k_mem)) hW (by omega) hws.ne hws.ok hws.l100 rfl (by omega) (by omega) rfl (by show (Ar _ _ _ _).depth + 1 + 30 < _; dsimp only [Ar]; omega) (by fail "m units64") ?_
      intro D b oD u1 u2 u3 u4 k nD h6 tk6 F6 N6 off1 off2 hbD hcD hdD
      rw [hb] at N6 hdD
      have hT : IsTup h6 D #[Value.ref b, Value.int (botOf bw (2 ^ wd)) u4] := ⟨oD, N6.get (.head _), hcD, nD, hdD⟩
      clear N5 F4
      have hu0 : ur0.length ≤ 100000 := by rw [paired_len hs0]; exact Nat.le_trans (parts_len _) (by omega)
      have hu1 : ur1.length ≤ 100000 := by rw [paired_len hs1]; exact Nat.le_trans (parts_len _) (by omega)
      have hu2 : ur2.length ≤ 100000 := by rw [paired_len hs2]; exact Nat.le_trans (parts_len _) (by omega)
      repeat' ((fail_if_success (with_reducible show PySem.wpAny _ _ (PySem.execs [PySem.Stmt.For _ _ _ _ _, _] _) _ _ _)); first | ((with_reducible show PySem.wpAny _ _ (PySem.getMethod (PySem.Value.ref _) _ _) _ _ _); k_dflt (refine' kf_method ?N ?m PySem.F.slot_list_count PySem.F.type_list_count ?_; (case N => k_asm); (case m => k_mem))) | (k_unfold; (try dsimp only)) | (first | ((with_reducible show PySem.wpAny _ _ (PySem.execs _ _) _ _ _); k_fold) | walk1 | (dsimp only; walk1)))
      rename Fr _ _ _ _ => F7
      rename News _ _ _ _ => N7
      (try dsimp only at F7 N7)
      have hPb := hP.bot
      have hP0 := hP.z0
      have hP1 := hP.z1
      have hP2 := hP.z2
      rw [hb] at hPb hP0 hP1 hP2
      have hl0 := paired_len hs0
      have hl1 := paired_len hs1
      have hl2 := paired_len hs2
      exact law_C w hK hdp hun I2 hw1 hw2 hPb hP0 hP1 hP2 F7 N7
        (by show IntsAre _ [_, _, _]; rw [← s39]; exact .cons _ _ (.cons _ _ (.cons _ _ .nil)))
        (by show IntsAre _ [_, _, _]; rw [← s34]; exact .cons _ _ (.cons _ _ (.cons _ _ .nil)))
        (by rw [show lenS (l0 :: ws') = [((ur0.length : Nat) : Int), ((ur1.length : Nat) : Int), ((ur2.length : Nat) : Int)] by rw [hl0, hl1, hl2]; rfl]; exact .cons _ _ (.cons _ _ (.cons _ _ .nil)))
        (by ((repeat (first | exact List.forall_mem_nil _ | refine fm_cons (by with_unfolding_all rfl) ?_)))) (by k_mem) (by k_mem) (by k_mem) hQ
example : True := by w_top off; trivial
theorem law_B2 (w : World) {name qual : Str} {params : Arguments} {body : List Stmt} {scope : Scope} {dV kV doc pm cdv ct oc : Value} {an od : Option Addr} {osl : Array (Option Value)}
    (hK : (hd.heap_1 w.params).lookup 156 = some ⟨oc, od, .func (fnOf name qual params body scope dV kV doc pm an cdv ct), osl⟩)
    {B h : Heap} {L : Addr} {u : Str → Option Value} {g : Array GenState} {d : Drawn} {tk : Nat} {os : OsState}
    {dp un : Nat} {fr : Option (List Env)} {gd : Option (List Code)} (hdp : dp + 200 < recursionLimit) (hun : un + 3000 < cLine)
    (I2 : Inv w B) {Q : Flow → Shared → Prop}
    {ws : List (List Nat)} {us : List Value} {wd n : Nat} (hws : WordsAre ws) (hW : TxAre us ws) (hP : PlainOk ws wd n) (hw1 : 2100 ≤ wd) (hw2 : wd ≤ 2199)
    {dD dR r0 r1 r2 lS bW T x : Addr} {oT ox : Obj} {usD ur0 ur1 ur2 : List Value} {kD k0 k1 k2 kW : Nat} {tS tw : Tok} {p97 : Array Value}
    (F : Fr B L h u)
    (N : News B L h [(dD, W.listOf usD.toArray kD), (dR, LCg.lst [Value.ref r0, Value.ref r1, Value.ref r2]), (r2, W.listOf ur2.toArray k2), (r1, W.listOf ur1.toArray k1), (r0, W.listOf ur0.toArray k0), (T, oT), (97, tabObj p97), (lS, W.listOf #[Value.str (Str.ofString "star") tS] 0), (bW, W.listOf us.toArray kW), (54, tabObj #[]), (47, tabObj #[]), (x, ox)])
    (hsD : SgsAre lS usD (partsOf (lineOf ws))) (hs0 : SgsAre lS ur0 (partsOf (lineOf ws))) (hs1 : SgsAre lS ur1 (partsOf (quo (lineOf ws)))) (hs2 : SgsAre lS ur2 (partsOf (quo (quo (lineOf ws)))))
    (hm : ∀ p ∈ [(Str.ofString "due", .ref dD), (Str.ofString "rows", .ref dR), (Str.ofString "width", .int wd tw), (Str.ofString "words", .ref bW)], u p.1 = some p.2)
    (hQ : ∀ h' tk p47 p54 m', Fr B L h' m' → News B L h' [(47, tabObj p47), (54, tabObj p54), (97, tabObj p97)] → Q (.ret (.bool true)) ⟨h', g, d, tk, os⟩) :
    wpAny (model PySem.Challenge.rw_ik0159_01.row.prog w) ((Ar dp un fr gd).deeper (envOfC qual scope L 156 cdv)) (execs (body.drop 8) (envOfC qual scope L 156 cdv)) Q (fun _ _ => False) ⟨h, g, d, tk, os⟩ := by
  refine law_B w hK B h L u g d tk os dp un fr gd hdp hun I2 Q ws us wd n hws hW hP hw1 hw2 dD dR r0 r1 r2 lS bW usD ur0 ur1 ur2 kD k0 k1 k2 kW tS tw p97 hsD hs0 hs1 hs2 (fr_kst _ F hm) ?_ hQ
  intro p hp
  simp only [List.mem_cons, List.not_mem_nil, or_false] at hp
  rcases hp with rfl | rfl | rfl | rfl | rfl | rfl | rfl | rfl | rfl | rfl
  · exact N _ (.head _)
  · exact N _ mem1
  · exact N _ mem4
  · exact N _ mem3
  · exact N _ mem2
  · exact N _ mem7
  · exact N _ mem8
  · exact N _ mem6
  · exact N _ mem9
  · exact N _ mem10
noncomputable def LawEnd (s : Shared) (v : Value) (s' : Shared) : Prop :=
  v = .bool true ∧ AllBare s'.gens ∧ s'.os = s.os ∧ (∀ b o, b ≠ 97 → b ≠ 54 → b ≠ 47 → s.heap.get? b = some o → s'.heap.get? b = some o) ∧
    (∃ p, s'.heap.get? 97 = some (tabObj p)) ∧ (∃ p, s'.heap.get? 54 = some (tabObj p)) ∧ ∃ p, s'.heap.get? 47 = some (tabObj p)
theorem law_spec (w : World) (a : Addr) (vs : List Value) (ns : List Int) (s : Shared) (I : Inv w s.heap) (h97 : s.heap.get? 97 = some (tabObj #[])) (h54 : s.heap.get? 54 = some (tabObj #[])) (h47 : s.heap.get? 47 = some (tabObj #[])) (hG : AllBare s.gens)
    (ha : s.heap.IsList a vs.toArray) (hvs : IntsAre vs ns) (hn : ns.length ≤ 63)
    (dp un : Nat) (fr : Option (List Env)) (gd : Option (List Code)) (E : Value → Shared → Prop) (hdp : dp + 200 < recursionLimit) (hun : un + 3000 < cLine) :
    wpAny (model PySem.Challenge.rw_ik0159_01.row.prog w) (Ar dp un fr gd) (call (.ref 156) [.ref a]) (LawEnd s) E s := by
  have X := Inv.X I
  have hP3 : ∀ P ∈ [97, 54, 47], ∃ o, s.heap.get? P = some o ∧ ∃ vs, o.data = .fields vs ∧ (o.cls = .none ∨ o.cls = .type "code") := by
    intro P hP
    rcases List.mem_cons.mp hP with rfl | hP
    · exact ⟨_, h97, _, rfl, .inl rfl⟩
    rcases List.mem_cons.mp hP with rfl | hP
    · exact ⟨_, h54, _, rfl, .inl rfl⟩
    rw [List.mem_singleton.mp hP]
    exact ⟨_, h47, _, rfl, .inl rfl⟩
  have I2 : Inv w (hideAll s.heap [97, 54, 47]) := I.hide [97, 54, 47] (by
    intro P hP
    rcases List.mem_cons.mp hP with rfl | hP
    · rfl
    rcases List.mem_cons.mp hP with rfl | hP
    · rfl
    rw [List.mem_singleton.mp hP]; rfl) hP3
  have ha2 : (hideAll s.heap [97, 54, 47]).IsList a vs.toArray := by
    obtain ⟨oa, hoa, hc, n, hd⟩ := ha
    refine ⟨oa, hide_get hoa (fun hm => ?_), hc, n, hd⟩
    obtain ⟨o, e, _, _, hz⟩ := hP3 a hm
    rw [hoa] at e; cases e
    rw [hc] at hz
    rcases hz with hz | hz
    · cases hz
    · injection hz with hz; exact absurd hz (by decide)
  revert X
  k_fill
  intro X
  (refine wpAny_call ?_)
  obtain ⟨p, loose, mean, mg, mb, T⟩ := Inv.T I
  k_dflt (refine' pure_def_cells (binds := [(Str.ofString "script", .ref a)]) X T ?ho ?hcd ?hroom ?hbind ?hkind ?hnd ?_ ?c2 ?c3 ?c4; (case ho => k_is); (case hcd => k_is); (case hroom => (show dp < _; omega)); (case hbind => exact BindsTo.of_eq rfl); (case hkind => exact rfl); (case hnd => decide +kernel); (case c2 => exact rfl); (case c3 => exact rfl); (case c4 => exact rfl))
  intro h₁ tk0 cells F N Y
  k_cells Y
  rename_i ost dst
  (try dsimp only)
  show wpAny _ _ _ _ _ _
  k_fold
  have F2 := hide_fr [97, 54, 47] F
  have N2 := hide_news1 (ps := [97, 54, 47]) F h97 (.head _) (hide_news1 (ps := [97, 54, 47]) F h54 mem1 (hide_news1 (ps := [97, 54, 47]) F h47 mem2 (hide_news (ps := [97, 54, 47]) N)))
  have n97 : (97 : Nat) < s.heap.objs.size := Heap.lt_size h97
  have n54 : (54 : Nat) < s.heap.objs.size := Heap.lt_size h54
  have n47 : (47 : Nat) < s.heap.objs.size := Heap.lt_size h47
  have m97 : (97 : Nat) ≠ s.heap.objs.size + 1 := by omega
  have m54 : (54 : Nat) ≠ s.heap.objs.size + 1 := by omega
  have m47 : (47 : Nat) ≠ s.heap.objs.size + 1 := by omega
  clear F N X T
  obtain ⟨X2, p2, loose2, mean2, mg2, mb2, T2⟩ := id I2
  repeat' (first | (k_unfold; (try dsimp only)) | ((with_reducible show wpAny _ _ (call (Value.ref _) _) _ _ _); first | (k_here; k_dflt (refine' use_dealt ?I77 ?F ?N ?a77 ?i77 ?n77 ?b77 rfl ?hd ?hu ?_; fail "m m_fn"; (case I77 => assumption); (case a77 => kmk_list); (case i77 => assumption); (case n77 => assumption); (case b77 => k_mem); fail "m m_hu"); intros) | (k_here; k_dflt (refine' use_words ?I77 ?F ?N ?a77 ?i77 ?n77 rfl ?hd ?hu ?_; fail "m m_fn"; (case I77 => assumption); (case a77 => kmk_list); (case i77 => assumption); (case n77 => omega); fail "m m_hu"); intros)) | (first | ((with_reducible show PySem.wpAny _ _ (PySem.execs _ _) _ _ _); k_fold) | walk1 | (dsimp only; walk1)))
  rename News _ _ _ _ => N3
  rename Fr _ _ _ _ => F3
  rename TxAre _ (wordsOf _) => hW
  dsimp only at F3
  rename_i xs kx h7 tk7 hne1 hi hl h6 tk6 D1 ws5 h5 hI5 hC5 hL5 l11 bW us kW h4 tk4 hneW h3 tk3 t3 h2 lS h1 l1 h0' oS dS
  obtain ⟨wd, hwd, hwd1, hwd2⟩ : ∃ wd : Nat, 2100 + (xs.getD (Int.toNat 3) 0).fmod 100 = (wd : Int) ∧ 2100 ≤ wd ∧ wd ≤ 2199 := by
    have e := Int.fmod_eq_emod_of_nonneg (xs.getD (Int.toNat 3) 0) (b := 100) (by decide)
    refine ⟨(2100 + (xs.getD (Int.toNat 3) 0).fmod 100).toNat, ?_, ?_, ?_⟩ <;> (rw [e]; omega)
  rw [hwd] at F3
  have hws : WordsAre (wordsOf (List.take 3 xs)) := words_are (by rw [List.length_take]; omega)
  generalize wordsOf (List.take 3 xs) = ws at hW hws
  obtain ⟨tS, hN3⟩ : ∃ tS, News (hideAll s.heap [97, 54, 47]) s.heap.objs.size h0' [(97, tabObj #[]), (lS, W.listOf #[Value.str (Str.ofString "star") tS] 0), (bW, W.listOf us.toArray kW), (54, tabObj #[]), (47, tabObj #[]), (s.heap.objs.size + 1, oS)] := ⟨_, by ((refine cb_drop (by assumption) ?_; repeat (first | exact List.forall_mem_nil _ | refine fm_cons (by k_mem) ?_)))⟩
  clear hi hl h6 hI5 hC5 hL5 N3
  have hn7 := hws.n
  have hok := hws.ok
  have hl1000 := hws.l1000
  have hq6 := hws.q
  refine use_join I2 F3 hN3 (by
    intro p hp
    simp only [List.mem_cons, List.not_mem_nil, or_false] at hp
    have o97 : @Ne Nat 97 bW := hneW.get (by k_mem)
    rcases hp with rfl | rfl | rfl | rfl | rfl <;> (show @Ne Nat _ _; dsimp only; omega)) hG (News.isList hN3 (by k_mem)) hW hok hl1000 (by omega) hq6 rfl (by show (Ar _ _ _ _).depth + 1 + 60 < _; dsimp only [Ar]; omega) (by fail "m units64") ?_
  intro h' g' d' tk' t' p97 hG' hk97 F4 N4
  clear F3 hN3
  have okL := line_ok hok
  have lenL := line_len hws.l hn7
  have okQ := quo_ok okL
  have lenQ := quo_len (lineOf ws)
  have okR := quo_ok okQ
  have lenR := quo_len (quo (lineOf ws))
  have lenL2 : (tx (lineOf ws)).length ≤ 231 := by rw [tx_length]; exact lenL
  repeat' ((fail_if_success (with_reducible show PySem.wpAny _ _ (PySem.execs [_, _, _, _, _, _] _) _ _ _)); first | (k_unfold; (try dsimp only)) | ((with_reducible show wpAny _ _ (call (Value.ref _) _) _ _ _); first | (k_here; k_dflt (refine' use_quote ?I77 ?F ?N ?ok77 ?l77 rfl ?hd ?hu ?_; fail "m m_fn"; (case I77 => assumption); (case ok77 => assumption); (case l77 => omega); fail "m m_hu"); intros) | (k_here; k_dflt (refine' use_translate ?I77 ?F ?N ?S77 ?ok77 ?l77 rfl ?hd ?hu ?_; fail "m m_fn"; (case I77 => assumption); (case S77 => k_mem); (case ok77 => assumption); (case l77 => omega); fail "m m_hu"); intros) | (k_here; k_dflt (refine' use_parts ?I77 ?F ?N ?S77 ?ok77 ?l77 rfl ?hd ?hu ?_; fail "m m_fn"; (case I77 => assumption); (case S77 => k_mem); (case ok77 => assumption); (case l77 => omega); fail "m m_hu"); intros) | (k_here; k_dflt (refine' use_line ?I77 ?F ?N ?a77 ?v77 ?ok77 ?l77 ?n77 ?q77 rfl ?hd ?hu ?_; fail "m m_fn"; (case I77 => assumption); (case a77 => kmk_list); (case v77 => assumption); (case ok77 => assumption); (case l77 => assumption); (case n77 => omega); (case q77 => assumption); fail "m m_hu"); intros)) | (k_here; (with_reducible show wpAny _ _ (exec (PySem.Stmt.Assign _ (PySem.Expr.ListComp _ [⟨_, PySem.Expr.Tuple _ _ _, _, _⟩] _ _) _) _) _ _ _); k_dflt (refine Assign_comp_tup (_F₀ := by k_asm) (by rfl) (by with_unfolding_all rfl) (by with_unfolding_all rfl) (by decide) (by rfl) (by decide) (by rfl) (by rfl) (by rfl) ?_)) | ((with_reducible show TupSrc _ _ _ _ _ _ _ _ _ _ _ _ _ _); (k_here; k_dflt (refine TupSrc.intro (by rfl) (by k_asm) (by k_asm) (by k_mem) (by exact Nat.le_of_ble_eq_true rfl) ?_; intro g'; lcg_lit))) | (first | ((with_reducible show PySem.wpAny _ _ (PySem.execs _ _) _ _ _); k_fold) | walk1 | (dsimp only; walk1)))
  rename Fr _ _ _ _ => F5
  rename News _ _ _ _ => N5
  obtain ⟨n, hP⟩ := plain_ok hws hwd1 hwd2
  refine law_B2 w (by k_is) hdp hun I2 hws hW hP hwd1 hwd2 F5 N5 (by assumption) (by assumption) (by assumption) (by assumption) (by ((repeat (first | exact List.forall_mem_nil _ | refine fm_cons (by with_unfolding_all rfl) ?_)))) ?_
  intro h9 tk9 p47 p54 m9 F9 N9
  refine ⟨rfl, hG', rfl, fun b o b1 b2 b3 e => F9.keep b o (hide_get e (by
    intro hb
    simp only [List.mem_cons, List.not_mem_nil, or_false] at hb
    rcases hb with hb | hb | hb
    · exact b1 hb
    · exact b2 hb
    · exact b3 hb)), ⟨_, N9.get (by k_mem)⟩, ⟨_, N9.get (by k_mem)⟩, ⟨_, N9.get (by k_mem)⟩⟩
example : True := by w_top off; trivial
theorem law_old {h h' : Heap} {c1 c2 c3 : Addr} (g1 : CodeHd h c1 97) (g2 : CodeHd h c2 54) (g3 : CodeHd h c3 47) (h97 : h.get? 97 = some (tabObj #[])) (h54 : h.get? 54 = some (tabObj #[])) (h47 : h.get? 47 = some (tabObj #[]))
    (hk : ∀ b o, b ≠ 97 → b ≠ 54 → b ≠ 47 → h.get? b = some o → h'.get? b = some o) (k97 : ∃ p, h'.get? 97 = some (tabObj p)) (k54 : ∃ p, h'.get? 54 = some (tabObj p)) (k47 : ∃ p, h'.get? 47 = some (tabObj p)) : OldK h h' := by
  obtain ⟨p97, k97⟩ := k97
  obtain ⟨p54, k54⟩ := k54
  obtain ⟨p47, k47⟩ := k47
  have one : ∀ {P c : Addr} {p : Array Value}, CodeHd h c P → h.get? P = some (tabObj #[]) → h'.get? P = some (tabObj p) → ∀ o, h.get? P = some o → asItWas h h' P o := by
    intro P c p g e e' o ho
    rw [e] at ho
    cases ho
    exact .inr (.inl ⟨(g.tab e).isCodeTable, rfl, #[], p, rfl, by rw [e']; simp⟩)
  refine ⟨fun b o e => ?_, fun b o e => ?_⟩
  · by_cases b1 : b = 97
    · subst b1; exact one g1 h97 k97 o e
    by_cases b2 : b = 54
    · subst b2; exact one g2 h54 k54 o e
    by_cases b3 : b = 47
    · subst b3; exact one g3 h47 k47 o e
    · exact .inl (hk b o b1 b2 b3 e)
  · by_cases b1 : b = 97
    · subst b1; exact ⟨_, k97⟩
    by_cases b2 : b = 54
    · subst b2; exact ⟨_, k54⟩
    by_cases b3 : b = 47
    · subst b3; exact ⟨_, k47⟩
    · exact ⟨o, hk b o b1 b2 b3 e⟩
theorem hold_all : PySem.Challenge.rw_ik0159_01.Holds := hd ⟨left_all, by
  k_fill
  intro w s₀ s₁ mg mb G Y fa o pm cd doc dV kV ho hd hcd hD hmg hg args vals as hpre hlay hrd hwl hlo
  have KX := km_in_of Y
  km_tabs Y
  have X := (Ground.X G).1
  have V := (Ground.X G).2
  refine Ground.open G ?_
  intro T B D TE TW
  try (refine guard_noD D (by decide +kernel) ?_; clear D)
  km_lay T hmg ho hd cd
  clear hd hD hcd TW B V X TE
  wrow_args hpre hlay hrd hwl hlo
  have hfa : PySem.Value.ref fa = PySem.Value.ref 156 := by
    have h1 := mg_of (n := Str.ofString "law") (v := .ref 156) KX (Top.g T) (by kernel_rfl)
    have h2 : mg (Str.ofString "law") = some (.ref fa) := hmg
    rw [h2] at h1
    exact Option.some.inj h1
  clear hmg ho
  cases hfa
  have t97 := tab_of (x := Str.ofString "join") (c := 101) (P := 97) T KX rfl (by kernel_rfl)
  have q54 := hT9 (58, 54) (by k_mem)
  have q47 := hT9 (51, 47) (by k_mem)
  rename_i xs _ _ _ _ _ _ _ a vs _ ha _ _ _ hi _ hlen _
  show wpAny _ (Ar _ _ _ _) (call (Value.ref 156) [Value.ref a]) _ _ _
  refine wpAny_mono (law_spec w a vs xs s₁ ⟨KX, _, _, _, _, _, T⟩ t97.2 q54.2 q47.2 (.of_eq hg) ha hi (by omega) _ _ _ _ _ (by decide) (by decide)) ?_ (fun _ _ h => h)
  rintro v s' ⟨rfl, hG', hos, hk, k97, k54, k47⟩
  refine ⟨.inl ⟨.bool true, .bool true, [], rfl, fun _ => rfl, .bool _, ?_, fun h => ?_⟩, law_old t97.1 q54.1 q47.1 t97.2 q54.2 q47.2 hk k97 k54 k47, hos, hG'⟩
  · with_unfolding_all rfl
  exact ⟨List.nodup_nil, fun a ha => by cases ha⟩⟩
end Mine
theorem PySem.Challenge.cw_ik0159_01_holds : PySem.Challenge.rw_ik0159_01.Holds :=
  Mine.hold_all
