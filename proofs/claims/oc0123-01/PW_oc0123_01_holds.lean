import PyProof.Rows.All
import Wide.All
import OpenK.AllK
import Wide.FinOn
import PySem.Challenge.RW_oc0123_01
set_option rowWalk.seconds 0
open PySem PySem.W PyProof.Rows
set_option Elab.async false
set_option maxRecDepth 100000
set_option linter.unusedVariables false
namespace Mine
section
set_option maxHeartbeats 8000000
theorem said : PySem.W.OpenLaw.wellSaid PySem.Challenge.rw_oc0123_01 = true :=
  (congrFun PySem.W.Fast.te9446332074065402090 _).trans (by
    unfold PySem.W.Fast.tw9446332074065402090 PySem.W.Fast.tw17960256430627541270 PySem.W.Fast.tw2436336058641802641 PySem.W.Fast.tw12908688711261696721
    repeat' (with_reducible refine look_both ?_ ?_)
    all_goals decide +kernel)
noncomputable def view : Program := PySem.W.view PySem.Challenge.pw_oc0123_01 [0, 2, 3, 4, 5, 6, 8, 9, 10, 11, 12, 13, 14, 15, 16, 17, 18, 19, 20, 21, 22, 23, 24, 25, 26, 27, 28, 29, 30, 31, 33, 34, 35, 36, 37, 39, 41, 42, 43, 44, 45, 46, 47, 48, 49, 50]
noncomputable def loose : List Str := [Str.ofString "_filemode_table"]
noncomputable def lv : List (PySem.Str × PySem.W.WData) :=
  let p (i : Int) (c : Nat) : WData := .tuple [.int i, .str ⟨#[c]⟩]
  [(Str.ofString "_filemode_table", .tuple [.tuple [p 40960 108, p 49152 115, p 32768 45, p 24576 98, p 16384 100, p 8192 99, p 4096 112], .tuple [p 256 114], .tuple [p 128 119],
    .tuple [p 2112 115, p 2048 83, p 64 120], .tuple [p 32 114], .tuple [p 16 119], .tuple [p 1032 115, p 1024 83, p 8 120], .tuple [p 4 114], .tuple [p 2 119], .tuple [p 513 116, p 512 84, p 1 120]])]
theorem left_of {p q : Program} {loose : List Str} {Xt : Shared → Bool} {α : Type} {Yf : Shared → α} {Ya : World → α} {N : Nat} {g0 : Bool} {H₀ : Params → Heap} {gs₀ : Array GenState} {d₀ : Drawn} {k₀ : Nat}
    (o : ∀ w : World, (fencedOpening treeTable p w N).map (fun s => (s.heap, s.gens, s.drawn, s.toks)) = some (H₀ w.params, gs₀, d₀, k₀))
    (h : ∀ (w : World) (os : OsState), (topFrom treeTable p w N ⟨H₀ w.params, gs₀, d₀, k₀, os⟩).map (fun s => (openSeen q loose (importedModules p.main.body) Xt g0 s, Yf s)) = some (openGood q loose, Ya w)) : LeftO p q loose Xt Yf Ya N g0 := fun w => by
  have q := o w
  unfold openEnds
  cases hz : fencedOpening treeTable p w N with
  | none =>
    rw [hz] at q
    cases q
  | some z =>
    rw [hz] at q
    have e : z = ⟨H₀ w.params, gs₀, d₀, k₀, z.os⟩ := by
      cases z
      simp only [Option.map_some, Option.some.injEq, Prod.mk.injEq] at q
      simp only [q.1, q.2.1, q.2.2.1, q.2.2.2]
    rw [e]
    exact h w z.os
theorem opened (w : World) : (fencedOpening treeTable PySem.Challenge.rw_oc0123_01.row.prog w 2900).map (fun s => (s.heap, s.gens, s.drawn, s.toks)) = some (boot_heap w.params, Array.mk [], boot_drawn, boot_toks) :=
  boot_open (by kernel_rfl) (by decide +kernel) (fun s => by kernel_rfl) w
local macro_rules | `(tactic| o_law) => `(tactic| refine holds_law Mine.said fun said => ?_)
theorem head_by (H : Hook) {d : DefRec} {kwd : List (Str × PySem.Expr)} (hdef : defOf view PySem.Challenge.rw_oc0123_01.row.name = some (d, kwd)) (hp : PySem.Challenge.rw_oc0123_01.row.prog.theDef PySem.Challenge.rw_oc0123_01.row.name = some (d.params, d.body, d.scope)) (hk : kwWritten? d.params.kwonlyargs d.params.kw_defaults = some kwd)
    (hl : ∀ (w : World) (os : OsState), (topFrom treeTable PySem.Challenge.rw_oc0123_01.row.prog w 2900 ⟨boot_heap w.params, Array.mk [], boot_drawn, boot_toks, os⟩).map (fun s => (openSeen view loose (importedModules PySem.Challenge.rw_oc0123_01.row.prog.main.body) (fun s => xlAt view lv s && recOk [] s) true s, H.obs s)) = some (openGood view loose, H.val w))
    (hw : PySem.Challenge.rw_oc0123_01.row.toRowW.promised) (hc : WalkO view loose (XL view lv) H.says PySem.Challenge.rw_oc0123_01.row.toRowW d kwd fun f vs => PySem.call f vs) (said : PySem.Challenge.rw_oc0123_01.row.wellSaid = true) : PySem.Challenge.rw_oc0123_01.row.Holds :=
  holds_open (N := 2900) (left_of opened hl) H.of H.keeps (fun s e => xl_of s (Bool.and_eq_true_iff.mp e).1) XL.keeps hdef hp hk (fun s e => recFacts_of (Bool.and_eq_true_iff.mp e).2) rfl said (by decide +kernel) ⟨rfl, rfl, rfl, rfl, rfl, by decide +kernel⟩ hw hc
local macro_rules | `(tactic| o_head $H) => `(tactic| (refine head_by $H (by rfl) (by rfl) (by rfl) ?hl ?hw ?hc (by assumption); (case hl => (intro w os; unfold topFrom; simp only [PySem.W.Fast.te14082659384304107361, PySem.W.Fast.te4187177175401517315, PySem.W.Fast.te14364793385576792824]; kernel_rfl))))
open_top hd for PySem.Challenge.rw_oc0123_01
/-- the walk's lines for a top are off again behind the head -/
theorem top_off : True := by
  w_top off
  trivial
end
section
theorem enter {K : Frag} {prog : Program} {w : World} {A : Around} {s : Shared} {h₀ : Heap} {p : Program} {loose : List Str} {mean : ExcName → Option Value} {mg mb : Str → Option Value} {E : Value → Shared → Prop} {Q : Value → Shared → Prop}
    {name qual : Str} {params : Arguments} {body : List Stmt} {scope : Scope} {dV kV doc pm cdv ct oc : Value} {an od : Option Addr} {osl : Array (Option Value)} {f : Addr} {args : List Value} {kw : List (Str × Value)} {binds : List (Str × Value)}
    (muts : List (Addr × Obj)) (X : K.In h₀) (T : Top p loose mean mg mb h₀) (kp : ∀ b o, h₀.get? b = some o → s.heap.get? b = some o)
    (hm : ∀ q ∈ muts, s.heap.get? q.1 = some q.2 ∧ h₀.get? q.1 = none)
    (ho : K.lookup f = some ⟨oc, od, .func (fnOf name qual params body scope dV kV doc pm an cdv ct), osl⟩) (hcd : codeIn K cdv qual = true) (hroom : A.depth < recursionLimit)
    (hbind : BindsTo s (fnOf name qual params body scope dV kV doc pm an cdv ct) ⟨args, kw⟩ binds) (hloc : ∀ y ∈ binds, scope.names.lookup y.1 = some .local)
    (hcell : ∀ x ∈ scope.names, x.2 ≠ .cell) (hco : scope.isCoroutine = false) (hgen : scope.isGenerator = false) (hk : scope.kind = .function)
    (h : ∀ g L h₁, Fr g L h₁ (fun y => binds.reverse.lookup y) → News g L h₁ muts → K.In g → Top p loose mean mg mb g → (∀ b o, b ∉ muts.map (·.1) → s.heap.get? b = some o → g.get? b = some o) →
      wpAny (model prog w) (A.deeper (envOf qual scope L f cdv)) (execs body (envOf qual scope L f cdv))
        (fun fl s' => Q (match fl with | .ret v => v | _ => .none) s') (fun _ _ => False) { s with heap := h₁, toks := s.toks + binds.length }) :
    wpAny (model prog w) A (call (.ref f) args kw) Q E s := by
  refine wpAny_call ?_
  have nm : ∀ b o, h₀.get? b = some o → b ∉ muts.map (·.1) := fun b o e q => by
    obtain ⟨p, hp, rfl⟩ := List.mem_map.mp q
    rw [(hm p hp).2] at e; cases e
  have st : ∀ b o, h₀.get? b = some o → (hideAll s.heap (muts.map (·.1))).get? b = some o := fun b o e => hideAll_get _ (kp b o e) (nm b o e)
  have X' := X.keeps st
  have T' := T.keeps st
  refine codeAny_call_def (fd := fnOf name qual params body scope dV kV doc pm an cdv ct) (body := body) (binds := binds) hroom (X.keeps kp _ _ ho) rfl (T.nolimit.keeps kp) (codeRec_of (X.keeps kp) hcd) rfl hbind hcell hloc (fun h₁ hns hk₁ => ?_) hco hgen hk
  refine wpAny_mono (h (hideAll s.heap (muts.map (·.1))) s.heap.objs.size h₁ ⟨hns, fun b o e => hk₁ b o (of_hideAll _ e), Nat.le_of_eq (hideAll_size _ _)⟩ (fun p hp => ⟨hk₁ _ _ (hm p hp).1, Nat.ne_of_lt (Heap.lt_size (hm p hp).1), hideAll_none _ (List.mem_map_of_mem hp)⟩) X' T' (fun b o hb e => hideAll_get _ e hb)) (fun fl s' q => q) fun _ _ y => y.elim
/-! looks: a stop for the stepper, one a kind of tree -/
section
variable {M : Model} {A : Around} {E : Value → Shared → Prop} {s : Shared}
theorem gFor {x1 x2 x3 x4 x5 x6} {Q} (h : wpAny M A (exec (Stmt.For x1 x2 x3 x4 x5) x6) Q E s) : wpAny M A (exec (Stmt.For x1 x2 x3 x4 x5) x6) Q E s := h
theorem gWhile {x1 x2 x3 x4 x5} {Q} (h : wpAny M A (exec (Stmt.While x1 x2 x3 x4) x5) Q E s) : wpAny M A (exec (Stmt.While x1 x2 x3 x4) x5) Q E s := h
theorem gIf {x1 x2 x3 x4 x5} {Q} (h : wpAny M A (exec (Stmt.If x1 x2 x3 x4) x5) Q E s) : wpAny M A (exec (Stmt.If x1 x2 x3 x4) x5) Q E s := h
theorem gCallref {x1 x2 x3} {Q} (h : wpAny M A (call (Value.ref x1) x2 x3) Q E s) : wpAny M A (call (Value.ref x1) x2 x3) Q E s := h
theorem gCalltype {x1 x2 x3} {Q} (h : wpAny M A (call (Value.type x1) x2 x3) Q E s) : wpAny M A (call (Value.type x1) x2 x3) Q E s := h
theorem gCallset {x1 x2} {Q} (h : wpAny M A (call (Value.type "set") x1 x2) Q E s) : wpAny M A (call (Value.type "set") x1 x2) Q E s := h
theorem gSetitem {x1 x2 x3} {Q} (h : wpAny M A (setItem x1 x2 x3) Q E s) : wpAny M A (setItem x1 x2 x3) Q E s := h
theorem gNewlist {x1} {Q} (h : wpAny M A (newList x1) Q E s) : wpAny M A (newList x1) Q E s := h
theorem gCmpref {x1 x2 x3} {Q} (h : wpAny M A (compareOp x1 (Value.ref x2) (Value.ref x3)) Q E s) : wpAny M A (compareOp x1 (Value.ref x2) (Value.ref x3)) Q E s := h
theorem gCmpref1 {x1 x2 x3} {Q} (h : wpAny M A (compareOp x1 (Value.ref x2) x3) Q E s) : wpAny M A (compareOp x1 (Value.ref x2) x3) Q E s := h
theorem gSplit {x1 x2} {Q} (h : wpAny M A (call (Value.builtin "str.split") x1 x2) Q E s) : wpAny M A (call (Value.builtin "str.split") x1 x2) Q E s := h
theorem gSlice {x1 x2 x3 x4 x5 x6 x7} {Q} (h : wpAny M A (subscriptTail x1 (PySem.Expr.Slice x2 x3 x4 x5) (Value.ref x6) x7) Q E s) : wpAny M A (subscriptTail x1 (PySem.Expr.Slice x2 x3 x4 x5) (Value.ref x6) x7) Q E s := h
theorem gComp {x1 x2 x3 x4 x5} {Q} (h : wpAny M A (eval (PySem.Expr.ListComp x1 x2 x3 x4) x5) Q E s) : wpAny M A (eval (PySem.Expr.ListComp x1 x2 x3 x4) x5) Q E s := h
theorem gCompA {x1 x2 x3 x4 x5 x6 x7} {Q} (h : wpAny M A (exec (Stmt.Assign x1 (PySem.Expr.ListComp x2 x3 x4 x5) x6) x7) Q E s) : wpAny M A (exec (Stmt.Assign x1 (PySem.Expr.ListComp x2 x3 x4 x5) x6) x7) Q E s := h
theorem gIfexp {x1 x2 x3 x4 x5} {Q} (h : wpAny M A (eval (PySem.Expr.IfExp x1 x2 x3 x4) x5) Q E s) : wpAny M A (eval (PySem.Expr.IfExp x1 x2 x3 x4) x5) Q E s := h
theorem gTruthy {x1} {Q} (h : wpAny M A (truthy (Value.ref x1)) Q E s) : wpAny M A (truthy (Value.ref x1)) Q E s := h
theorem gAppend {x1 x2} {Q} (h : wpAny M A (call (Value.builtin "list.append") x1 x2) Q E s) : wpAny M A (call (Value.builtin "list.append") x1 x2) Q E s := h
theorem gSub {x1 x2 x3 x4} {Q} (h : wpAny M A (subscriptTail x1 x2 x3 x4) Q E s) : wpAny M A (subscriptTail x1 x2 x3 x4) Q E s := h
theorem gCallb {x1 x2 x3} {Q} (h : wpAny M A (call (Value.builtin x1) x2 x3) Q E s) : wpAny M A (call (Value.builtin x1) x2 x3) Q E s := h
end
theorem sk {c : Prop} [i : Decidable c] {t e r : Option Value} (h : ¬ c) (q : e = r) : (if c then t else e) = r := (if_neg h).trans q
theorem fC {α : Type} {p : α → Prop} {a : α} {l : List α} (h : p a) (k : ∀ x, x ∈ l → p x) : ∀ x, x ∈ a :: l → p x := fun x hx => by
  cases hx with
  | head => exact h
  | tail _ hx => exact k x hx
theorem n63 {n m : Nat} (h : n < m) (k : m ≤ 1000000 := by decide) : ((n : Nat) : Int) < 2 ^ 63 := by omega
theorem dl {a b c k n : Nat} (h : a + k < n) (e : b + c ≤ k := by decide) : a + b + c < n := by omega
theorem dr {a k n : Nat} (h : a + k < n) : a < n := by omega
end
local macro_rules | `(tactic| k_ne) => `(tactic| (refine neN ?_; (try dsimp only); first | assumption | exact Ne.symm (by assumption) | omega))
local macro_rules | `(tactic| ktr_unf) => `(tactic| (k_dflt (repeat (first | assumption | exact if_pos rfl | refine sk (by decide) ?_))))
local macro_rules | `(tactic| walk_at "kA") => `(tactic| ((try dsimp only); (with_reducible show wpAny _ _ _ _ _ _)))
local macro_rules | `(tactic| walk_at "kB") => `(tactic| first | ((try dsimp only); (with_reducible first | refine ite_pos (by decide) ?_ | refine ite_neg (by decide) ?_)) | ((with_reducible show Frag.In _ _ ∧ _); walk1))
local macro_rules | `(tactic| walk_at "eval Name") => `(tactic| ((with_reducible show wpAny _ _ (eval (Expr.Name _ _) (envOf _ _ _ _ _)) _ _ _); k_dflt (refine' ld ?k1 ?k2 ?_; (case k1 => k_asm); (case k2 => ktr_unf))))
section
structure It where
  a : Addr
  r : Int
  i : Int
noncomputable abbrev tupObj (x y : Value) (n : Nat) : Obj := ⟨.type "tuple", none, .seq #[x, y] n, #[]⟩
def TupAt (h : Heap) (x : It) : Prop := ∃ t u n, h.get? x.a = some (tupObj (.int x.r t) (.int x.i u) n)
theorem TupAt.keeps {h h' : Heap} {x : It} (t : TupAt h x) (k : ∀ o, h.get? x.a = some o → h'.get? x.a = some o) : TupAt h' x := by
  obtain ⟨a, b, n, e⟩ := t; exact ⟨a, b, n, k _ e⟩
noncomputable def It.lt (x y : It) : Bool := if x.r = y.r then decide (x.i < y.i) else decide (x.r < y.r)
noncomputable abbrev vals (xs : List It) : List Value := xs.map fun x => Value.ref x.a

section
variable {prog : Program} {w : World} {A : Around} {E : Value → Shared → Prop} {s : Shared} {Q : Value → Shared → Prop}
theorem tup_lt_tree {a b : Addr} {x1 x2 y1 y2 : Int} {t1 t2 u1 u2 : Tok} {n m : Nat} {P : PySem.Fin → Shared → Prop} (ha : s.heap.get? a = some (tupObj (.int x1 t1) (.int x2 t2) n)) (hb : s.heap.get? b = some (tupObj (.int y1 u1) (.int y2 u2) m))
    (h : P (.done (.ret (.bool (if x1 = y1 then decide (x2 < y2) else decide (x1 < y1))))) s) : wpAny (model prog w) A (Builtin.«tuple.__lt__» ⟨[.ref a, .ref b], []⟩) P E s := by
  refine wpAny_bind (m := isInstance (.ref b) (.type "tuple")) (wpAny_isInstance (b := true) ⟨_, hb, rfl⟩ isSubtype_tuple_tuple ?_)
  simp only [Bool.not_true, Bool.false_eq_true, if_false]
  refine wpAny_bind (wpAny_tupleItemsOf ha rfl ?_)
  refine wpAny_bind (wpAny_tupleItemsOf hb rfl ?_)
  refine wpAny_bind ?_
  simp only [List.zip_cons_cons, List.zip_nil_right, List.forIn_cons, List.forIn_nil]
  refine wpAny_bind (wpAny_bind (wpAny_eqBool_int ?_))
  by_cases e1 : x1 = y1
  · subst e1
    rw [if_pos rfl] at h
    simp only [BEq.rfl, Bool.not_true, Bool.false_eq_true, if_false]
    refine wpAny_pure (wpAny_bind (wpAny_bind (wpAny_eqBool_int ?_)))
    by_cases e2 : x2 = y2
    · subst e2
      simp only [BEq.rfl, Bool.not_true, Bool.false_eq_true, if_false]
      refine wpAny_pure (wpAny_pure (wpAny_pure ?_))
      have : decide (x2 < x2) = false := by simp
      rw [this] at h
      exact h
    · have hb : (x2 == y2) = false := by simpa using e2
      simp only [hb, Bool.not_false, if_true]
      refine wpAny_bind (wpAny_rule (wpAny_bind ?_))
      show wpAny _ _ (compareOp .Lt _ _) _ _ _
      refine PyProof.Rows.lt_int ?_
      exact wpAny_bind (wpAny_pure (wpAny_pure (wpAny_pure (wpAny_pure h))))
  · have hb : (x1 == y1) = false := by simpa using e1
    rw [if_neg e1] at h
    simp only [hb, Bool.not_false, if_true]
    refine wpAny_bind (wpAny_rule (wpAny_bind ?_))
    show wpAny _ _ (compareOp .Lt _ _) _ _ _
    refine PyProof.Rows.lt_int ?_
    exact wpAny_bind (wpAny_pure (wpAny_pure (wpAny_pure (wpAny_pure h))))
theorem tup_lt {x y : It} (hu : A.units < cLine) (hx : TupAt s.heap x) (hy : TupAt s.heap y) (h : Q (.bool (x.lt y)) s) : wpAny (model prog w) A (compareOp .Lt (.ref x.a) (.ref y.a)) Q E s := by
  obtain ⟨t, u, n, ha⟩ := hx
  obtain ⟨t', u', n', hb⟩ := hy
  show wpAny _ _ (richCompare .Lt _ _) _ _ _
  exact wpAny_richCompare_same_room (op := .Lt) (T := "tuple") ⟨_, ha, rfl⟩ ⟨_, hb, rfl⟩ F.slot_tuple_lt
    (wpAny_call_entry F.slot_tuple_lt ⟨_, ha, rfl⟩ F.entry_tuple_lt (tup_lt_tree ha hb ⟨_, rfl, (fun e => nomatch e), h⟩) (F.args_tuple_lt_2 _ _)) hu
/-- an item of a list of any length at a place within -/
theorem sub_list {value slice : PySem.Expr} {l : Addr} {vs : List Value} {n : Nat} {k : Int} {u : Tok} {v : Value}
    (hl : s.heap.get? l = some (listOf vs.toArray n)) (h0 : 0 ≤ k) (hhi : k < 2 ^ 63) (hx : vs[k.toNat]? = some v) (h : Q v s)
    (hs : subscripted slice false (.ref l) (.int k u) = operate [.ref l, .int k u] (getItem (.ref l) (.int k u)) := by with_unfolding_all rfl) :
    wpAny (model prog w) A (subscriptTail value slice (.ref l) (.int k u)) Q E s :=
  have hL : s.heap.IsList l vs.toArray := ⟨_, hl, rfl, n, rfl⟩
  tail_any hL.typeIs slot_list_getitem.lookup (wpAny_getItem_list hL h0 hhi (by simpa using hx) h) hs
theorem set_list {Q : Unit → Shared → Prop} {l : Addr} {vs : List Value} {n : Nat} {k : Int} {t : Tok} {v : Value} (ho : s.heap.get? l = some (listOf vs.toArray n)) (h0 : 0 ≤ k) (hfit : k < 2 ^ 63) (hn : k.toNat < vs.length)
    (hQ : ∀ h', Heap.SameBut l s.heap h' → h'.get? l = some (listOf (vs.set k.toNat v).toArray n) → Q () { s with heap := h' }) : wpAny (model prog w) A (setItem (.ref l) (.int k t) v) Q E s := by
  refine ki_setAt ho h0 hfit (by simp; omega) (hQ _ (Heap.SameBut.update ..) ?_)
  have := Heap.get?_update_self (Obj.mapSeq (·.setIfInBounds k.toNat v)) ho (by rfl)
  rw [this]
  congr 1
  simp [Obj.mapSeq, W.listOf]
end
end
section
set_option maxHeartbeats 4000000
/-- what _siftdown(heap, 0, p) leaves, the new item x at hand -/
noncomputable def sd (ys : List It) (p : Nat) (x : It) : List It :=
  if h : 0 < p then
    match ys[(p - 1) / 2]? with
    | some y => if x.lt y then sd (ys.set p y) ((p - 1) / 2) x else ys.set p x
    | none => ys
  else ys.set p x
termination_by p
decreasing_by omega

theorem fill (w : World) (h : Heap) : (Mine.hd.heap_1 w.params).In h → PySem.Challenge.rw_oc0123_01.most = some 63 := by
  k_fill
  intro _; rfl
local macro_rules | `(tactic| ktr_rel) => `(tactic| (repeat' (walk_at "kA"; (fail_if_success (with_reducible first | refine gWhile ?_ | refine gSub ?_ | refine gSetitem ?_ | refine gCmpref1 ?_)); walk1)))
theorem keepD {g h h' : Heap} {L hp : Addr} {m : Str → Option Value} (F : Fr g L h m) (hs : Heap.SameBut hp h h') (hL : hp ≠ L) (hg : g.get? hp = none) : Fr g L h' m := F.change hs hL hg

inductive SdR (w : World) (g : Heap) (L hp : Addr) (x : It) (s : Shared) (zs : List It) (r : Except Value Flow) (s' : Shared) : Prop where
  | mk (h' : Heap) (n' tk : Nat) (m : Str → Option Value) (ys : List It) (p : Nat) (t : Tok) (e1 : r = .ok .next) (e2 : s' = { s with heap := h', toks := tk }) (F : Fr g L h' m) (N : News g L h' [(hp, W.listOf (vals ys).toArray n')])
    (m1 : m "heap" = some (.ref hp)) (m2 : m "pos" = some (.int (p : Nat) t)) (m3 : m "newitem" = some (.ref x.a)) (hp1 : p < ys.length) (hsz : ys.length < 1000) (e : ys.set p x = zs)
inductive SdI (w : World) (g : Heap) (L hp : Addr) (x : It) (s : Shared) (t0 : Tok) (zs : List It) (k : Nat) (s' : Shared) : Prop where
  | mk (h' : Heap) (n' tk : Nat) (m : Str → Option Value) (ys : List It) (t : Tok) (e2 : s' = { s with heap := h', toks := tk }) (F : Fr g L h' m) (N : News g L h' [(hp, W.listOf (vals ys).toArray n')])
    (m1 : m "heap" = some (.ref hp)) (m4 : m "startpos" = some (.int 0 t0)) (m2 : m "pos" = some (.int (k : Nat) t)) (m3 : m "newitem" = some (.ref x.a)) (hk : k < ys.length) (hsz : ys.length < 1000) (e : sd ys k x = zs) (hty : ∀ y ∈ ys, TupAt g y) (htx : TupAt g x)
theorem siftdown_ok {prog : Program} {w : World} {A : Around} {s : Shared} {h₀ : Heap} {mean : ExcName → Option Value} {mg mb : Str → Option Value} {loose : List Str} {E : Value → Shared → Prop} {Q : Value → Shared → Prop}
    (X : (Mine.hd.heap_1 w.params).In h₀) (T : Top Mine.view loose mean mg mb h₀) (kp : ∀ b o, h₀.get? b = some o → s.heap.get? b = some o)
    {hp : Addr} {xs : List It} {n : Nat} (hh : s.heap.get? hp = some (W.listOf (vals xs).toArray n)) (hn : h₀.get? hp = none) (ht : ∀ x ∈ xs, TupAt s.heap x) (hdis : ∀ x ∈ xs, x.a ≠ hp) (hsz : xs.length < 1000)
    {t0 t1 : Tok} {pos : Nat} {x : It} (hx : xs[pos]? = some x) (hroom : A.depth < recursionLimit) (hunit : A.units + 3 < cLine)
    (h : ∀ h' n' tk, (∀ b o, b ≠ hp → s.heap.get? b = some o → h'.get? b = some o) → h'.get? hp = some (W.listOf (vals (sd xs pos x)).toArray n') → Q .none { s with heap := h', toks := tk }) :
    wpAny (model prog w) A (call (.ref 49) [.ref hp, .int 0 t0, .int pos t1]) Q E s := by
  refine' enter (binds := [("heap", .ref hp), ("startpos", .int 0 t0), ("pos", .int pos t1)]) [(hp, W.listOf (vals xs).toArray n)] X T kp ?hm ?ho ?hcd hroom ?hbind ?hloc ?hcell ?hco ?hgen ?hk ?_
  case ho => k_is
  case hcd => k_is
  case hbind => exact BindsTo.of_eq rfl
  case hloc => exact locs rfl
  case hcell => decide
  case hco => rfl
  case hgen => rfl
  case hk => rfl
  case hm => intro q hq; cases hq with | head => exact ⟨hh, hn⟩ | tail _ h => cases h
  intro g L h₁ F N X' T' kg
  clear X T kp
  have hlt : pos < xs.length := (List.getElem?_eq_some_iff.mp hx).1
  have htg : ∀ y ∈ xs, TupAt g y := fun y hy => (ht y hy).keeps fun o e => kg _ o (by simpa using hdis y hy) e
  ktr_rel
  refine sub_list (v := .ref x.a) (N _ (.head _)).1 (by first | exact Int.natCast_nonneg _ | decide | omega) (by first | decide | exact n63 (by assumption) | omega) (by simp [hx]) ?_
  ktr_rel
  rename Fr _ _ _ _ => F1
  rename News _ _ _ _ => N1
  refine wpAny_While (codeAny_mono (codeAny_whileLoop (R := SdR w g L hp x s (sd xs pos x)) (SdI w g L hp x s t0 (sd xs pos x)) ?turn pos ⟨_, n, _, _, xs, t1, rfl, F1, N1, rfl, rfl, rfl, rfl, hlt, hsz, rfl, htg, htg _ (List.mem_of_getElem? hx)⟩) ?after)
  case after =>
    rintro r s' ⟨h', n', tk, m, ys, p, t, rfl, rfl, F2, N2, m1, m2, m3, hp1, hsz1, hR⟩
    clear F1 N1
    ktr_rel
    have z := N2 _ (.head _)
    refine set_list z.1 (by first | exact Int.natCast_nonneg _ | decide | omega) (by first | decide | exact n63 (by assumption) | omega) (by simpa using hp1) fun h2 hs2 ho2 => ?_
    have F3 := F2.change hs2 z.2.1 z.2.2
    clear F2 N2
    ktr_rel
    refine h _ n' _ (fun b o hb e => F3.keep b o (kg b o (by simpa using hb) e)) ?_
    rw [← hR]
    simpa [List.map_set] using ho2
  case turn =>
    rintro k s' ⟨h', n', tk, m, ys, t, rfl, F2, N2, m1, m2, m3, m4, hk, hsz1, hR, hty, htx⟩
    clear F1 N1
    ktr_rel
    by_cases hk0 : 0 < k
    · rw [if_pos (by simpa using hk0)]
      ktr_rel
      obtain ⟨y, hy⟩ : ∃ y, ys[(k - 1) / 2]? = some y := ⟨ys[(k - 1) / 2]'(by omega), by simp⟩
      have hkk : (((k : Nat) : Int) - 1).fdiv (2 ^ (1 : Int).toNat) = (((k - 1) / 2 : Nat) : Int) := by
        show (((k : Nat) : Int) - 1).fdiv 2 = _
        rw [Int.fdiv_eq_ediv_of_nonneg _ (by omega)]; omega
      rw [hkk]
      rename News _ _ _ _ => N3
      refine sub_list (v := .ref y.a) (N3 _ (.head _)).1 (by first | exact Int.natCast_nonneg _ | decide | omega) (by first | decide | exact n63 (by assumption) | omega) (by rw [Int.toNat_natCast]; simp [hy]) ?_
      ktr_rel
      rename Fr _ _ _ _ => F3
      rename News _ _ _ _ => N3
      refine tup_lt (by show A.units + 3 < cLine; exact hunit) (htx.keeps fun o => F3.keep _ o) ((hty y (List.mem_of_getElem? hy)).keeps fun o => F3.keep _ o) ?_
      ktr_rel
      have hsd : sd ys k x = if x.lt y then sd (ys.set k y) ((k - 1) / 2) x else ys.set k x := by
        rw [sd, dif_pos hk0, hy]
      by_cases hc : x.lt y = true
      · rw [if_pos hc]
        rw [if_pos hc] at hsd
        ktr_rel
        have z := N3 _ (.head _)
        refine set_list z.1 (by first | exact Int.natCast_nonneg _ | decide | omega) (by first | decide | exact n63 (by assumption) | omega) (by simpa using hk) fun h2 hs2 ho2 => ?_
        have F4 := F3.change hs2 z.2.1 z.2.2
        have N4 : News g L h2 [(hp, W.listOf (vals (ys.set k y)).toArray n')] := fun q hq => by
          cases hq with
          | head => exact ⟨by simpa [List.map_set] using ho2, z.2⟩
          | tail _ hq => cases hq
        clear F3 N3
        ktr_rel
        rename Fr _ _ _ _ => F5
        rename News _ _ _ _ => N5
        dsimp only
        rw [hkk] at F5
        refine ⟨(k - 1) / 2, by omega, _, n', _, _, ys.set k y, _, rfl, F5, N5, by ktr_unf, by ktr_unf, by ktr_unf, by ktr_unf, by simp; omega, by simpa using hsz1, by rw [← hsd, hR], ?_, htx⟩
        intro q hq
        rcases List.mem_or_eq_of_mem_set hq with hq | rfl
        · exact hty _ hq
        · exact hty _ (List.mem_of_getElem? hy)
      · rw [if_neg hc]
        rw [if_neg hc] at hsd
        ktr_rel
        dsimp only
        exact ⟨_, n', _, _, ys, k, t, rfl, rfl, F3, N3, by ktr_unf, by ktr_unf, by ktr_unf, hk, hsz1, by rw [← hsd, hR]⟩
    · rw [if_neg (by simpa using hk0)]
      ktr_rel
      refine ⟨_, n', _, _, ys, k, t, rfl, rfl, F2, N2, by ktr_unf, by ktr_unf, by ktr_unf, hk, hsz1, ?_⟩
      rw [← hR, sd, dif_neg hk0]
end
section
set_option maxHeartbeats 4000000
/-- the child that _siftup moves up -/
noncomputable def kid (ys : List It) (p : Nat) : Nat :=
  match ys[2 * p + 1]?, ys[2 * p + 2]? with
  | some a, some b => if a.lt b then 2 * p + 1 else 2 * p + 2
  | _, _ => 2 * p + 1
theorem kid_gt (ys : List It) (p : Nat) : p < kid ys p := by
  unfold kid; split <;> (try split) <;> omega
noncomputable def su (ys : List It) (p : Nat) (x : It) : List It :=
  if h : 2 * p + 1 < ys.length then
    match ys[kid ys p]? with
    | some c => su (ys.set p c) (kid ys p) x
    | none => ys
  else sd (ys.set p x) p x
termination_by ys.length - p
decreasing_by have := kid_gt ys p; simp; omega

theorem fillSU (w : World) (h : Heap) : (Mine.hd.heap_1 w.params).In h → PySem.Challenge.rw_oc0123_01.most = some 63 := by
  k_fill
  intro _; rfl
local macro_rules | `(tactic| ktr_rel) => `(tactic| (repeat' (first
  | (walk_at "kA"; (fail_if_success (with_reducible first | refine gWhile ?_ | refine gIf ?_ | refine gSub ?_ | refine gSetitem ?_ | refine gCmpref1 ?_ | refine gCallref ?_)); walk1)
  | walk_at "kB")))
theorem len_its {prog : Program} {w : World} {A : Around} {E : Value → Shared → Prop} {s : Shared} {Q : Value → Shared → Prop} {l : Addr} {xs : List It} {n : Nat} (hl : s.heap.get? l = some (W.listOf (vals xs).toArray n)) (hz : xs.length < 1000)
    (h : ∀ t tk, Q (.int (xs.length : Nat) t) { s with toks := tk }) : wpAny (model prog w) A (call (.builtin "len") [.ref l]) Q E s := by
  refine len_list (items := (vals xs).toArray) ⟨_, hl, rfl, n, rfl⟩ (by simp; omega) ?_
  simpa using h _ _
inductive SuR (g : Heap) (L hp : Addr) (x : It) (s : Shared) (t0 : Tok) (zs : List It) (r : Except Value Flow) (s' : Shared) : Prop where
  | mk (h' : Heap) (n' tk : Nat) (m : Str → Option Value) (ys : List It) (p : Nat) (t : Tok) (e1 : r = .ok .next) (e2 : s' = { s with heap := h', toks := tk }) (F : Fr g L h' m) (N : News g L h' [(hp, W.listOf (vals ys).toArray n')])
    (m1 : m "heap" = some (.ref hp)) (m2 : m "startpos" = some (.int 0 t0)) (m3 : m "pos" = some (.int (p : Nat) t)) (m4 : m "newitem" = some (.ref x.a)) (hp1 : p < ys.length) (hsz : ys.length < 1000) (e : sd (ys.set p x) p x = zs) (hty : ∀ y ∈ ys, TupAt g y) (htx : TupAt g x)
inductive SuI (g : Heap) (L hp : Addr) (x : It) (s : Shared) (t0 : Tok) (zs : List It) (k : Nat) (s' : Shared) : Prop where
  | mk (h' : Heap) (n' tk : Nat) (m : Str → Option Value) (ys : List It) (p : Nat) (t u v : Tok) (e2 : s' = { s with heap := h', toks := tk }) (F : Fr g L h' m) (N : News g L h' [(hp, W.listOf (vals ys).toArray n')]) (hk : k = ys.length - p)
    (m1 : m "heap" = some (.ref hp)) (m2 : m "startpos" = some (.int 0 t0)) (m3 : m "pos" = some (.int (p : Nat) t)) (m4 : m "newitem" = some (.ref x.a)) (m5 : m "childpos" = some (.int ((2 * p + 1 : Nat)) u)) (m6 : m "endpos" = some (.int (ys.length : Nat) v))
    (hp1 : p < ys.length) (hsz : ys.length < 1000) (e : su ys p x = zs) (hty : ∀ y ∈ ys, TupAt g y) (htx : TupAt g x)
inductive SuB (g : Heap) (L hp : Addr) (x : It) (s : Shared) (t0 : Tok) (ys : List It) (n' p : Nat) (t v : Tok) (f : Flow) (s' : Shared) : Prop where
  | mk (e0 : f = Flow.next) (h' : Heap) (tk : Nat) (m : Str → Option Value) (u : Tok) (e : s' = { s with heap := h', toks := tk }) (F : Fr g L h' m) (N : News g L h' [(hp, W.listOf (vals ys).toArray n')])
    (m1 : m "heap" = some (.ref hp)) (m2 : m "startpos" = some (.int 0 t0)) (m3 : m "pos" = some (.int (p : Nat) t)) (m4 : m "newitem" = some (.ref x.a)) (m5 : m "childpos" = some (.int ((kid ys p : Nat)) u)) (m6 : m "endpos" = some (.int (ys.length : Nat) v))
theorem siftup_ok {prog : Program} {w : World} {A : Around} {s : Shared} {h₀ : Heap} {mean : ExcName → Option Value} {mg mb : Str → Option Value} {loose : List Str} {E : Value → Shared → Prop} {Q : Value → Shared → Prop}
    (X : (Mine.hd.heap_1 w.params).In h₀) (T : Top Mine.view loose mean mg mb h₀) (kp : ∀ b o, h₀.get? b = some o → s.heap.get? b = some o)
    {hp : Addr} {xs : List It} {n : Nat} (hh : s.heap.get? hp = some (W.listOf (vals xs).toArray n)) (hn : h₀.get? hp = none) (ht : ∀ x ∈ xs, TupAt s.heap x) (hdis : ∀ x ∈ xs, x.a ≠ hp) (hsz : xs.length < 1000)
    {t0 : Tok} {x : It} (hx : xs[0]? = some x) (hroom : A.depth + 1 < recursionLimit) (hunit : A.units + 6 < cLine)
    (h : ∀ h' n' tk, (∀ b o, b ≠ hp → s.heap.get? b = some o → h'.get? b = some o) → h'.get? hp = some (W.listOf (vals (su xs 0 x)).toArray n') → Q .none { s with heap := h', toks := tk }) :
    wpAny (model prog w) A (call (.ref 56) [.ref hp, .int 0 t0]) Q E s := by
  refine' enter (binds := [("heap", .ref hp), ("pos", .int 0 t0)]) [(hp, W.listOf (vals xs).toArray n)] X T kp ?hm ?ho ?hcd (by first | exact dr hroom | omega) ?hbind ?hloc ?hcell ?hco ?hgen ?hk ?_
  case ho => k_is
  case hcd => k_is
  case hbind => exact BindsTo.of_eq rfl
  case hloc => exact locs rfl
  case hcell => decide
  case hco => rfl
  case hgen => rfl
  case hk => rfl
  case hm => intro q hq; cases hq with | head => exact ⟨hh, hn⟩ | tail _ h => cases h
  intro g L h₁ F N X' T' kg
  clear X T kp
  have hlt : 0 < xs.length := (List.getElem?_eq_some_iff.mp hx).1
  have htg : ∀ y ∈ xs, TupAt g y := fun y hy => (ht y hy).keeps fun o e => kg _ o (by simpa using hdis y hy) e
  ktr_rel
  refine len_its (N _ (.head _)).1 hsz fun t2 tk2 => ?_
  ktr_rel
  rename News _ _ _ _ => N
  refine sub_list (v := .ref x.a) (N _ (.head _)).1 (by first | exact Int.natCast_nonneg _ | decide | omega) (by first | decide | exact n63 (by assumption) | omega) (by simp [hx]) ?_
  ktr_rel
  rename Fr _ _ _ _ => F1
  rename News _ _ _ _ => N1
  refine wpAny_While (codeAny_mono (codeAny_whileLoop (R := SuR g L hp x s t0 (su xs 0 x)) (SuI g L hp x s t0 (su xs 0 x)) ?turn xs.length ⟨_, n, _, _, xs, 0, t0, _, t2, rfl, F1, N1, rfl, rfl, rfl, rfl, rfl, rfl, rfl, hlt, hsz, rfl, htg, htg _ (List.mem_of_getElem? hx)⟩) ?after)
  case after =>
    rintro r s' ⟨h', n', tk, m, ys, p, t, rfl, rfl, F2, N2, m1, m2, m3, m4, hp1, hsz1, hR, hty, htx⟩
    clear F1 N1
    ktr_rel
    have z := N2 _ (.head _)
    refine set_list z.1 (by first | exact Int.natCast_nonneg _ | decide | omega) (by first | decide | exact n63 (by assumption) | omega) (by simpa using hp1) fun h2 hs2 ho2 => ?_
    have F3 := F2.change hs2 z.2.1 z.2.2
    have ho3 : h2.get? hp = some (W.listOf (vals (ys.set p x)).toArray n') := by simpa [List.map_set] using ho2
    have N3 : News g L h2 [(hp, W.listOf (vals (ys.set p x)).toArray n')] := fun q hq => by
      cases hq with
      | head => exact ⟨ho3, z.2⟩
      | tail _ hq => cases hq
    clear F2 N2
    ktr_rel
    refine siftdown_ok X' T' F3.keep ho3 z.2.2 (fun y hy => ?_) (fun y hy => ?_) (by simpa using hsz1) (x := x) (by simp [hp1]) (by show A.depth + 1 < recursionLimit; exact hroom) (by show A.units + 3 + 3 < cLine; exact hunit) ?_
    · rcases List.mem_or_eq_of_mem_set hy with hy | rfl
      · exact (hty _ hy).keeps fun o => F3.keep _ o
      · exact htx.keeps fun o => F3.keep _ o
    · rintro rfl
      rcases List.mem_or_eq_of_mem_set hy with hy | rfl
      · obtain ⟨_, _, _, e⟩ := hty _ hy; rw [z.2.2] at e; cases e
      · obtain ⟨_, _, _, e⟩ := htx; rw [z.2.2] at e; cases e
    · intro h5 n5 tk5 k5 ho5
      ktr_rel
      refine h _ n5 _ (fun b o hb e => k5 b o hb (F3.keep b o (kg b o (by simpa using hb) e))) ?_
      rw [← hR]
      exact ho5
  case turn =>
    rintro k s' ⟨h', n', tk, m, ys, p, t, u, v, rfl, F2, N2, hkk, m1, m2, m3, m4, m5, m6, hk, hsz1, hR, hty, htx⟩
    clear F1 N1
    ktr_rel
    by_cases hc : 2 * p + 1 < ys.length
    · rw [if_pos (by simp; omega)]
      ktr_rel
      rename Fr _ _ _ _ => F3
      rename News _ _ _ _ => N3
      obtain ⟨a, ha⟩ : ∃ a, ys[2 * p + 1]? = some a := ⟨ys[2 * p + 1]'hc, by simp⟩
      refine wpAny_mono (Q := SuB g L hp x s t0 ys n' p t v) (E := fun _ _ => False) ?body ?post (fun _ _ h => h.elim)
      case body =>
        refine wpAny_If ?_
        ktr_rel
        by_cases hc2 : 2 * p + 2 < ys.length
        · rw [if_pos (by simp; omega)]
          obtain ⟨b, hb⟩ : ∃ b, ys[2 * p + 2]? = some b := ⟨ys[2 * p + 2]'hc2, by simp⟩
          have hkid : kid ys p = if a.lt b then 2 * p + 1 else 2 * p + 2 := by unfold kid; rw [ha, hb]
          ktr_rel
          refine sub_list (v := .ref a.a) (N3 _ (.head _)).1 (by first | exact Int.natCast_nonneg _ | decide | omega) (by first | decide | exact n63 (by assumption) | omega) (by rw [Int.toNat_natCast]; simp [ha]) ?_
          ktr_rel
          refine sub_list (v := .ref b.a) (N3 _ (.head _)).1 (by first | exact Int.natCast_nonneg _ | decide | omega) (by first | decide | exact n63 (by assumption) | omega) (by rw [show (((2 * p + 1 : Nat) : Int) + 1).toNat = 2 * p + 2 by omega]; simp [hb]) ?_
          ktr_rel
          refine tup_lt (by show A.units + 3 < cLine; omega) ((hty a (List.mem_of_getElem? ha)).keeps fun o => F3.keep _ o) ((hty b (List.mem_of_getElem? hb)).keeps fun o => F3.keep _ o) ?_
          ktr_rel
          by_cases hl : a.lt b = true
          · rw [if_pos hl] at hkid
            rw [hl]
            rw [if_neg (by simp)]
            ktr_rel
            refine ⟨rfl, _, _, _, _, rfl, F3, N3, by ktr_unf, by ktr_unf, by ktr_unf, by ktr_unf, by rw [hkid]; ktr_unf, by ktr_unf⟩
          · rw [if_neg hl] at hkid
            rw [eq_false_of_ne_true hl]
            rw [if_pos (by simp)]
            ktr_rel
            rename Fr _ _ _ _ => F4
            rename News _ _ _ _ => N4
            rw [show (((2 * p + 1 : Nat) : Int) + 1) = ((2 * p + 2 : Nat) : Int) by omega] at F4
            refine ⟨rfl, _, _, _, _, rfl, F4, N4, by ktr_unf, by ktr_unf, by ktr_unf, by ktr_unf, by rw [hkid]; ktr_unf, by ktr_unf⟩
        · rw [show decide (((2 * p + 1 : Nat) : Int) + 1 < (ys.length : Int)) = false by simp; omega]
          have hkid : kid ys p = 2 * p + 1 := by
            unfold kid
            have : ys[2 * p + 2]? = none := by simp; omega
            rw [ha, this]
          ktr_rel
          refine ⟨rfl, _, _, _, _, rfl, F3, N3, by ktr_unf, by ktr_unf, by ktr_unf, by ktr_unf, by rw [hkid]; ktr_unf, by ktr_unf⟩
      case post =>
        rintro f s' ⟨rfl, h4, tk4, m', u', rfl, F4, N4, q1, q2, q3, q4, q5, q6⟩
        clear F3 N3
        have hkl : kid ys p < ys.length := by
          unfold kid
          split
          · rename_i hb
            have := (List.getElem?_eq_some_iff.mp hb).1
            split <;> omega
          · exact hc
        have hkg := kid_gt ys p
        obtain ⟨c, hcc⟩ : ∃ c, ys[kid ys p]? = some c := ⟨ys[kid ys p]'hkl, by simp⟩
        ktr_rel
        refine sub_list (v := .ref c.a) (N4 _ (.head _)).1 (by first | exact Int.natCast_nonneg _ | decide | omega) (by first | decide | exact n63 (by assumption) | omega) (by rw [Int.toNat_natCast]; simp [hcc]) ?_
        ktr_rel
        have z := N4 _ (.head _)
        refine set_list z.1 (by first | exact Int.natCast_nonneg _ | decide | omega) (by first | decide | exact n63 (by assumption) | omega) (by simpa using hk) fun h2 hs2 ho2 => ?_
        have F5 := F4.change hs2 z.2.1 z.2.2
        have N5 : News g L h2 [(hp, W.listOf (vals (ys.set p c)).toArray n')] := fun q hq => by
          cases hq with
          | head => exact ⟨by simpa [List.map_set] using ho2, z.2⟩
          | tail _ hq => cases hq
        clear F4 N4
        ktr_rel
        rename Fr _ _ _ _ => F6
        rename News _ _ _ _ => N6
        dsimp only
        rw [show (2 * ((kid ys p : Nat) : Int) + 1) = ((2 * kid ys p + 1 : Nat) : Int) by omega] at F6
        refine ⟨ys.length - kid ys p, by omega, _, n', _, _, ys.set p c, kid ys p, _, _, v, rfl, F6, N6, by simp, by ktr_unf, by ktr_unf, by ktr_unf, by ktr_unf, by ktr_unf, by rw [List.length_set]; ktr_unf, by simpa using hkl, by simpa using hsz1, ?_, ?_, htx⟩
        · rw [← hR]
          conv => rhs; rw [su, dif_pos hc, hcc]
        · intro q hq
          rcases List.mem_or_eq_of_mem_set hq with hq | rfl
          · exact hty _ hq
          · exact hty _ (List.mem_of_getElem? hcc)
    · rw [if_neg (by simp; omega)]
      ktr_rel
      refine ⟨_, n', _, _, ys, p, t, rfl, rfl, F2, N2, m1, m2, m3, m4, hk, hsz1, ?_, hty, htx⟩
      rw [← hR, su, dif_neg hc]
end
section
set_option maxHeartbeats 4000000
theorem fillHP (w : World) (h : Heap) : (Mine.hd.heap_1 w.params).In h → PySem.Challenge.rw_oc0123_01.most = some 63 := by
  k_fill
  intro _; rfl
local macro_rules | `(tactic| ktr_rel) => `(tactic| (repeat' (first
  | (walk_at "kA"; (fail_if_success (with_reducible first | refine gWhile ?_ | refine gIf ?_ | refine gSub ?_ | refine gSetitem ?_ | refine gCmpref1 ?_ | refine gCallref ?_)); walk1)
  | walk_at "kB")))
/-- what heappushpop leaves, and gives -/
noncomputable def ppL : List It → It → List It
  | [], _ => []
  | y :: r, x => if y.lt x then su (x :: r) 0 x else y :: r
noncomputable def ppV : List It → It → It
  | [], x => x
  | y :: _, x => if y.lt x then y else x
theorem heappush_ok {prog : Program} {w : World} {A : Around} {s : Shared} {h₀ : Heap} {mean : ExcName → Option Value} {mg mb : Str → Option Value} {loose : List Str} {E : Value → Shared → Prop} {Q : Value → Shared → Prop}
    (X : (Mine.hd.heap_1 w.params).In h₀) (T : Top Mine.view loose mean mg mb h₀) (kp : ∀ b o, h₀.get? b = some o → s.heap.get? b = some o)
    {hp : Addr} {xs : List It} {n : Nat} (hh : s.heap.get? hp = some (W.listOf (vals xs).toArray n)) (hn : h₀.get? hp = none) (ht : ∀ x ∈ xs, TupAt s.heap x) (hdis : ∀ x ∈ xs, x.a ≠ hp) (hsz : xs.length < 900)
    {x : It} (htx : TupAt s.heap x) (hxd : x.a ≠ hp) (hroom : A.depth + 1 < recursionLimit) (hunit : A.units + 6 < cLine)
    (h : ∀ h' n' tk, (∀ b o, b ≠ hp → s.heap.get? b = some o → h'.get? b = some o) → h'.get? hp = some (W.listOf (vals (sd (xs ++ [x]) xs.length x)).toArray n') → Q .none { s with heap := h', toks := tk }) :
    wpAny (model prog w) A (call (.ref 28) [.ref hp, .ref x.a]) Q E s := by
  refine' enter (binds := [("heap", .ref hp), ("item", .ref x.a)]) [(hp, W.listOf (vals xs).toArray n)] X T kp ?hm ?ho ?hcd (by first | exact dr hroom | omega) ?hbind ?hloc ?hcell ?hco ?hgen ?hk ?_
  case ho => k_is
  case hcd => k_is
  case hbind => exact BindsTo.of_eq rfl
  case hloc => exact locs rfl
  case hcell => decide
  case hco => rfl
  case hgen => rfl
  case hk => rfl
  case hm => intro q hq; cases hq with | head => exact ⟨hh, hn⟩ | tail _ h => cases h
  intro g L h₁ F N X' T' kg
  clear X T kp
  have htg : ∀ y ∈ xs, TupAt g y := fun y hy => (ht y hy).keeps fun o e => kg _ o (by simpa using hdis y hy) e
  have htgx : TupAt g x := htx.keeps fun o e => kg _ o (by simpa using hxd) e
  ktr_rel
  rename Fr _ _ _ _ => F1
  rename News _ _ _ _ => N1
  rw [show vals xs ++ [Value.ref x.a] = vals (xs ++ [x]) by simp] at N1
  have z := N1 _ (.head _)
  refine len_its z.1 (by simp; omega) fun t2 tk2 => ?_
  ktr_rel
  have hm : ∀ y ∈ xs ++ [x], TupAt g y := fun y hy => by
    rcases List.mem_append.mp hy with hy | hy
    · exact htg y hy
    · rw [List.mem_singleton.mp hy]; exact htgx
  rw [show (((xs ++ [x]).length : Nat) : Int) - 1 = ((xs.length : Nat) : Int) by simp]
  refine siftdown_ok X' T' F1.keep z.1 z.2.2 (fun y hy => (hm y hy).keeps fun o => F1.keep _ o) (fun y hy => ?_) (by simp; omega) (x := x) (by simp) (by show A.depth + 1 < recursionLimit; exact hroom) (by show A.units + 3 + 3 < cLine; exact hunit) ?_
  · rintro rfl
    obtain ⟨_, _, _, e⟩ := hm _ hy
    rw [z.2.2] at e; cases e
  · intro h5 n5 tk5 k5 ho5
    ktr_rel
    exact h _ n5 _ (fun b o hb e => k5 b o hb (F1.keep b o (kg b o (by simpa using hb) e))) ho5
/-- lists.pop() of the last one -/
theorem pop_its {prog : Program} {w : World} {A : Around} {E : Value → Shared → Prop} {s : Shared} {Q : Value → Shared → Prop} {g : Heap} {L hp : Addr} {m : Str → Option Value} {xs : List It} {x : It} {n : Nat} (hsz : xs.length < 900) (F : Fr g L s.heap m) (N : News g L s.heap [(hp, W.listOf (vals (xs ++ [x])).toArray n)])
    (h : ∀ h', Fr g L h' m → News g L h' [(hp, W.listOf (vals xs).toArray (n + 1))] → Q (.ref x.a) { s with heap := h' }) : wpAny (model prog w) A (call (.builtin "list.pop") [.ref hp]) Q E s := by
  refine kl_pop (p := vals xs) (y := .ref x.a) F N ?_ (.head fun p hp => nomatch hp) (by simp [sizeLine_eq]; omega) h
  simpa [vals] using kpa_last (.ref x.a) (vals xs)
theorem truthy_its {prog : Program} {w : World} {A : Around} {E : Value → Shared → Prop} {s : Shared} {Q : Bool → Shared → Prop} {l : Addr} {xs : List It} {n : Nat} (hl : s.heap.get? l = some (W.listOf (vals xs).toArray n)) (hz : xs.length < 1000)
    (h : ∀ tk, Q (!xs.isEmpty) { s with toks := tk }) : wpAny (model prog w) A (truthy (.ref l)) Q E s := by
  refine wpAny_truthy_list (items := (vals xs).toArray) ⟨_, hl, rfl, n, rfl⟩ (by simp; omega) ?_
  have : (vals xs).toArray.isEmpty = xs.isEmpty := by cases xs <;> rfl
  rw [this]
  exact h _
theorem heappop_ok {prog : Program} {w : World} {A : Around} {s : Shared} {h₀ : Heap} {mean : ExcName → Option Value} {mg mb : Str → Option Value} {loose : List Str} {E : Value → Shared → Prop} {Q : Value → Shared → Prop}
    (X : (Mine.hd.heap_1 w.params).In h₀) (T : Top Mine.view loose mean mg mb h₀) (kp : ∀ b o, h₀.get? b = some o → s.heap.get? b = some o)
    {hp : Addr} {xs : List It} {x : It} {n : Nat} (hh : s.heap.get? hp = some (W.listOf (vals (xs ++ [x])).toArray n)) (hn : h₀.get? hp = none) (ht : ∀ y ∈ xs ++ [x], TupAt s.heap y) (hdis : ∀ y ∈ xs ++ [x], y.a ≠ hp) (hsz : xs.length < 900)
    (hroom : A.depth + 2 < recursionLimit) (hunit : A.units + 9 < cLine)
    (h : ∀ h' n' tk, (∀ b o, b ≠ hp → s.heap.get? b = some o → h'.get? b = some o) → h'.get? hp = some (W.listOf (vals (match xs with | [] => [] | _ :: r => su (x :: r) 0 x)).toArray n') → Q (.ref ((xs ++ [x]).head (by simp)).a) { s with heap := h', toks := tk }) :
    wpAny (model prog w) A (call (.ref 35) [.ref hp]) Q E s := by
  refine' enter (binds := [("heap", .ref hp)]) [(hp, W.listOf (vals (xs ++ [x])).toArray n)] X T kp ?hm ?ho ?hcd (by first | exact dr hroom | omega) ?hbind ?hloc ?hcell ?hco ?hgen ?hk ?_
  case ho => k_is
  case hcd => k_is
  case hbind => exact BindsTo.of_eq rfl
  case hloc => exact locs rfl
  case hcell => decide
  case hco => rfl
  case hgen => rfl
  case hk => rfl
  case hm => intro q hq; cases hq with | head => exact ⟨hh, hn⟩ | tail _ h => cases h
  intro g L h₁ F N X' T' kg
  clear X T kp
  have htg : ∀ y ∈ xs ++ [x], TupAt g y := fun y hy => (ht y hy).keeps fun o e => kg _ o (by simpa using hdis y hy) e
  ktr_rel
  refine pop_its hsz F N fun h1 F1 N1 => ?_
  clear F N
  ktr_rel
  refine wpAny_If ?_
  ktr_rel
  rename Fr _ _ _ _ => F2
  rename News _ _ _ _ => N2
  cases xs with
  | nil =>
    rw [if_neg (by simp)]
    ktr_rel
    exact h _ _ _ (fun b o hb e => F2.keep b o (kg b o (by simpa using hb) e)) (N2 _ (.head _)).1
  | cons y r =>
    rw [if_pos (by simp)]
    ktr_rel
    refine sub_list (v := .ref y.a) (N2 _ (.head _)).1 (by first | exact Int.natCast_nonneg _ | decide | omega) (by first | decide | exact n63 (by assumption) | omega) (by simp) ?_
    ktr_rel
    rename Fr _ _ _ _ => F3
    rename News _ _ _ _ => N3
    have z := N3 _ (.head _)
    refine set_list z.1 (by first | exact Int.natCast_nonneg _ | decide | omega) (by first | decide | exact n63 (by assumption) | omega) (by simp) fun h2 hs2 ho2 => ?_
    have F4 := F3.change hs2 z.2.1 z.2.2
    have ho3 : h2.get? hp = some (W.listOf (vals (x :: r)).toArray (n + 1)) := by simpa using ho2
    have N4 : News g L h2 [(hp, W.listOf (vals (x :: r)).toArray (n + 1))] := fun q hq => by
      cases hq with
      | head => exact ⟨ho3, z.2⟩
      | tail _ hq => cases hq
    clear F3 N3
    ktr_rel
    have hm : ∀ q ∈ x :: r, TupAt g q := fun q hq => by
      rcases List.mem_cons.mp hq with rfl | hq
      · exact htg _ (by simp)
      · exact htg _ (by simp [hq])
    refine siftup_ok X' T' F4.keep ho3 z.2.2 (fun q hq => (hm q hq).keeps fun o => F4.keep _ o) (fun q hq => ?_) (by simp at hsz ⊢; omega) (x := x) (by simp) (by show A.depth + 1 + 1 < recursionLimit; exact hroom) (by show A.units + 3 + 6 < cLine; exact hunit) ?_
    · rintro rfl
      obtain ⟨_, _, _, e⟩ := hm _ hq
      rw [z.2.2] at e; cases e
    · intro h5 n5 tk5 k5 ho5
      have F5 : Fr g L h5 _ := ⟨F4.ns.extBut (fun b o hb e => k5 b o hb e) (Ne.symm z.2.1), fun b o e => k5 b o (by rintro rfl; rw [z.2.2] at e; cases e) (F4.keep b o e), F4.above⟩
      have N5 : News g L h5 [(hp, W.listOf (vals (su (x :: r) 0 x)).toArray n5)] := fun q hq => by
        cases hq with
        | head => exact ⟨ho5, z.2⟩
        | tail _ hq => cases hq
      clear F4 N4
      ktr_rel
      exact h _ n5 _ (fun b o hb e => F5.keep b o (kg b o (by simpa using hb) e)) ho5
theorem frExt {g h h' : Heap} {L : Addr} {m : Str → Option Value} (F : Fr g L h m) (e : Heap.ExtBut h.objs.size h h') : Fr g L h' m :=
  ⟨F.ns.extBut e (Nat.ne_of_lt F.ns.lt), fun b o q => e b o (Nat.ne_of_lt (Heap.lt_size (F.keep b o q))) (F.keep b o q), F.above⟩
theorem newsExt {g h h' : Heap} {L : Addr} {news : List (Addr × Obj)} (N : News g L h news) (e : Heap.ExtBut h.objs.size h h') : News g L h' news :=
  fun p hp => ⟨e _ _ (Nat.ne_of_lt (Heap.lt_size (N p hp).1)) (N p hp).1, (N p hp).2⟩
theorem heappushpop_ok {prog : Program} {w : World} {A : Around} {s : Shared} {h₀ : Heap} {mean : ExcName → Option Value} {mg mb : Str → Option Value} {loose : List Str} {E : Value → Shared → Prop} {Q : Value → Shared → Prop}
    (X : (Mine.hd.heap_1 w.params).In h₀) (T : Top Mine.view loose mean mg mb h₀) (kp : ∀ b o, h₀.get? b = some o → s.heap.get? b = some o)
    {hp : Addr} {xs : List It} {n : Nat} (hh : s.heap.get? hp = some (W.listOf (vals xs).toArray n)) (hn : h₀.get? hp = none) (ht : ∀ y ∈ xs, TupAt s.heap y) (hdis : ∀ y ∈ xs, y.a ≠ hp) (hsz : xs.length < 900)
    {x : It} (htx : TupAt s.heap x) (hxd : x.a ≠ hp) (hhd : A.handled = none) (hroom : A.depth + 2 < recursionLimit) (hunit : A.units + 9 < cLine)
    (h : ∀ h' n' tk, (∀ b o, b ≠ hp → s.heap.get? b = some o → h'.get? b = some o) → h'.get? hp = some (W.listOf (vals (ppL xs x)).toArray n') → Q (.ref (ppV xs x).a) { s with heap := h', toks := tk }) :
    wpAny (model prog w) A (call (.ref 42) [.ref hp, .ref x.a]) Q E s := by
  refine' enter (binds := [("heap", .ref hp), ("item", .ref x.a)]) [(hp, W.listOf (vals xs).toArray n)] X T kp ?hm ?ho ?hcd (by first | exact dr hroom | omega) ?hbind ?hloc ?hcell ?hco ?hgen ?hk ?_
  case ho => k_is
  case hcd => k_is
  case hbind => exact BindsTo.of_eq rfl
  case hloc => exact locs rfl
  case hcell => decide
  case hco => rfl
  case hgen => rfl
  case hk => rfl
  case hm => intro q hq; cases hq with | head => exact ⟨hh, hn⟩ | tail _ h => cases h
  intro g L h₁ F N X' T' kg
  clear X T kp
  have htg : ∀ y ∈ xs, TupAt g y := fun y hy => (ht y hy).keeps fun o e => kg _ o (by simpa using hdis y hy) e
  have htgx : TupAt g x := htx.keeps fun o e => kg _ o (by simpa using hxd) e
  ktr_rel
  refine wpAny_If ?_
  ktr_rel
  cases xs with
  | nil =>
    rw [show (!(vals []).isEmpty) = false from rfl]
    ktr_rel
    exact h _ n _ (fun b o hb e => F.keep b o (kg b o (by simpa using hb) e)) (N _ (.head _)).1
  | cons y r =>
    rw [show (!(vals (y :: r)).isEmpty) = true from rfl]
    ktr_rel
    refine sub_list (v := .ref y.a) (N _ (.head _)).1 (by first | exact Int.natCast_nonneg _ | decide | omega) (by first | decide | exact n63 (by assumption) | omega) (by simp) ?_
    ktr_rel
    refine tup_lt (by show A.units + 3 < cLine; omega) ((htg y (by simp)).keeps fun o => F.keep _ o) (htgx.keeps fun o => F.keep _ o) ?_
    ktr_rel
    by_cases hc : y.lt x = true
    · rw [hc]
      have hL : ppL (y :: r) x = su (x :: r) 0 x := if_pos hc
      have hV : ppV (y :: r) x = y := if_pos hc
      rw [hL, hV] at h
      ktr_rel
      refine sub_list (v := .ref y.a) (N _ (.head _)).1 (by first | exact Int.natCast_nonneg _ | decide | omega) (by first | decide | exact n63 (by assumption) | omega) (by simp) ?_
      ktr_rel
      rename Fr _ _ _ _ => F1
      rename News _ _ _ _ => N1
      refine assign_Tuple_tuple hhd ⟨_, (N1 _ (.head _)).1, rfl, _, rfl⟩ rfl rfl fun h2 e2 => ?_
      have F2 := frExt F1 e2
      have N2 := newsExt N1 e2
      clear F1 N1
      ktr_rel
      rename Fr _ _ _ _ => F3
      rename News _ _ _ _ => N3
      have z := N3 _ (.tail _ (.head _))
      refine set_list z.1 (by first | exact Int.natCast_nonneg _ | decide | omega) (by first | decide | exact n63 (by assumption) | omega) (by simp) fun h3 hs3 ho3 => ?_
      have F4 := F3.change hs3 z.2.1 z.2.2
      have ho4 : h3.get? hp = some (W.listOf (vals (x :: r)).toArray n) := by simpa using ho3
      have N4 : News g L h3 [(hp, W.listOf (vals (x :: r)).toArray n)] := fun q hq => by
        cases hq with
        | head => exact ⟨ho4, z.2⟩
        | tail _ hq => cases hq
      clear F3 N3
      ktr_rel
      have hm : ∀ q ∈ x :: r, TupAt g q := fun q hq => by
        rcases List.mem_cons.mp hq with rfl | hq
        · exact htgx
        · exact htg _ (by simp [hq])
      refine siftup_ok X' T' F4.keep ho4 z.2.2 (fun q hq => (hm q hq).keeps fun o => F4.keep _ o) (fun q hq => ?_) (by simp at hsz ⊢; omega) (x := x) (by simp) (by show A.depth + 1 + 1 < recursionLimit; exact hroom) (by show A.units + 3 + 6 < cLine; exact hunit) ?_
      · rintro rfl
        obtain ⟨_, _, _, e⟩ := hm _ hq
        rw [z.2.2] at e; cases e
      · intro h5 n5 tk5 k5 ho5
        have F5 : Fr g L h5 _ := ⟨F4.ns.extBut (fun b o hb e => k5 b o hb e) (Ne.symm z.2.1), fun b o e => k5 b o (by rintro rfl; rw [z.2.2] at e; cases e) (F4.keep b o e), F4.above⟩
        have N5 : News g L h5 [(hp, W.listOf (vals (su (x :: r) 0 x)).toArray n5)] := fun q hq => by
          cases hq with
          | head => exact ⟨ho5, z.2⟩
          | tail _ hq => cases hq
        clear F4 N4
        ktr_rel
        exact h _ n5 _ (fun b o hb e => F5.keep b o (kg b o (by simpa using hb) e)) ho5
    · rw [eq_false_of_ne_true hc]
      have hL : ppL (y :: r) x = y :: r := if_neg hc
      have hV : ppV (y :: r) x = x := if_neg hc
      rw [hL, hV] at h
      ktr_rel
      exact h _ n _ (fun b o hb e => F.keep b o (kg b o (by simpa using hb) e)) (N _ (.head _)).1
end
section
set_option maxHeartbeats 4000000
section
variable {prog : Program} {w : World} {A : Around} {s : Shared} {R : Result → Shared → Prop} {target : PySem.Expr} {body orelse : List Stmt} {env : Env} {I : Addr} {fp wr : List Addr} {n : Nat} {P : Nat → Value → Prop} {St : Nat → Heap → Prop}
/-- a for loop over an iterator that walks n items, by what holds of the whole state between the turns -/
theorem for_rule (W : Walks prog w A I fp wr n P St) (J : Nat → Shared → Prop)
    (hgo : ∀ i v (s₁ : Shared) (Q : Unit → Shared → Prop) (E : Value → Shared → Prop), St (i + 1) s₁.heap → Q () s₁ → wpAny (model prog w) A (letOwnedTupleGo target (.ref I) v) Q E s₁)
    (hst : St 0 s.heap) (h0 : J 0 s)
    (jn : ∀ i (s₁ : Shared) h' tk, i ≤ n → J i s₁ → St i s₁.heap → (∀ b o, b ∉ wr → s₁.heap.get? b = some o → h'.get? b = some o) → J i { s₁ with heap := h', toks := tk })
    (turn : ∀ i v s₁, i < n → P i v → J i s₁ → St (i + 1) s₁.heap → wpAny (model prog w) A (assign target env v) (fun _ s₂ => wpAny (model prog w) A (execs body env) (fun f s₃ => match f with
          | .next | .cont => J (i + 1) s₃ ∧ St (i + 1) s₃.heap
          | .brk => R (.ok .next) s₃
          | .ret v => R (.ok (.ret v)) s₃) (fun _ _ => False) s₂) (fun _ _ => False) s₁)
    (done : ∀ s₁, J n s₁ → wpAny (model prog w) A (execs orelse env) (fun f s₃ => R (.ok f) s₃) (fun _ _ => False) s₁) :
    codeAny (model prog w) A (.forLoop target (.ref I) body orelse env) R s := by
  refine codeAny_forLoop_any (fun k s' => ∃ i, i ≤ n ∧ k = n + 1 - i ∧ J i s' ∧ St i s'.heap) ?_ (n + 1) ⟨0, Nat.zero_le _, rfl, h0, hst⟩
  rintro k s' ⟨i, hi, rfl, hJ, hS⟩
  by_cases hlt : i < n
  · refine W.item i s' _ _ hlt hS fun v h' tk hP hS' hk => ?_
    have hJ' := jn i s' h' tk hi hJ hS hk
    refine hgo i v _ _ _ hS' ?_
    refine wpAny_mono (turn i v { s' with heap := h', toks := tk } hlt hP hJ' hS') (fun _ s₂ h₂ => ?_) fun _ _ e => e.elim
    refine wpAny_mono h₂ (fun f s₃ h₃ => ?_) fun _ _ e => e.elim
    cases f with
    | next => exact ⟨n + 1 - (i + 1), by omega, i + 1, hlt, rfl, h₃.1, h₃.2⟩
    | cont => exact ⟨n + 1 - (i + 1), by omega, i + 1, hlt, rfl, h₃.1, h₃.2⟩
    | brk => exact h₃
    | ret v => exact h₃
  · have e : i = n := by omega
    subst e
    refine W.done s' _ _ hS fun h' tk hk => ?_
    exact wpAny_mono (done _ (jn i s' h' tk hi hJ hS hk)) (fun _ _ x => x) fun _ _ x => x.elim
theorem go_name {x : Str} {px : Pos} (it : Addr) (i : Nat) (v : Value) (s₁ : Shared) (Q : Unit → Shared → Prop) (E : Value → Shared → Prop) (h : Q () s₁) : wpAny (model prog w) A (letOwnedTupleGo (.Name x px) (.ref it) v) Q E s₁ := wpAny_pure h
end
section
variable {prog : Program} {w : World} {A : Around}
theorem go_plain {T : String} (hT : ["enumerate", "zip", "dict_itemiterator", "dict_reverseitemiterator", "odict_iterator", "itertools.zip_longest", "itertools.pairwise"].contains T = false) {elts : List PySem.Expr} {k : Nat} {pos : Pos} {it : Addr} {o : Obj} {vs : Array Value} {v : Value} {s₁ : Shared} {Q : Unit → Shared → Prop} {E : Value → Shared → Prop}
    (ho : s₁.heap.get? it = some o) (hc : o.cls = .type T) (hd : o.data = .fields vs) (h : Q () s₁) : wpAny (model prog w) A (letOwnedTupleGo (.Tuple elts k pos) (.ref it) v) Q E s₁ := by
  unfold letOwnedTupleGo
  cases v <;> first | exact wpAny_pure h | skip
  refine wpAny_bind (wpAny_load ho ?_)
  simp only [hc, hd, hT, Bool.false_and, Bool.false_eq_true, if_false]
  exact wpAny_pure h
end
theorem frWr {g h h' : Heap} {L : Addr} {m : Str → Option Value} {wr : List Addr} (F : Fr g L h m) (hk : ∀ b o, b ∉ wr → h.get? b = some o → h'.get? b = some o) (hL : L ∉ wr) (hg : ∀ b ∈ wr, g.get? b = none) : Fr g L h' m :=
  ⟨F.ns.at' fun o e => hk _ o hL e, fun b o e => hk b o (fun hb => by rw [hg b hb] at e; cases e) (F.keep b o e), F.above⟩
theorem newsWr {g h h' : Heap} {L : Addr} {news : List (Addr × Obj)} {wr : List Addr} (N : News g L h news) (hk : ∀ b o, b ∉ wr → h.get? b = some o → h'.get? b = some o) (hn : ∀ p ∈ news, p.1 ∉ wr) : News g L h' news :=
  fun p hp => ⟨hk _ _ (hn p hp) (N p hp).1, (N p hp).2⟩
theorem frKeep {g h h' : Heap} {L : Addr} {m : Str → Option Value} (F : Fr g L h m) (hk : ∀ b o, h.get? b = some o → h'.get? b = some o) : Fr g L h' m :=
  ⟨F.ns.keeps hk, fun b o e => hk b o (F.keep b o e), F.above⟩
theorem newsKeep {g h h' : Heap} {L : Addr} {news : List (Addr × Obj)} (N : News g L h news) (hk : ∀ b o, h.get? b = some o → h'.get? b = some o) : News g L h' news :=
  fun p hp => ⟨hk _ _ (N p hp).1, (N p hp).2⟩
theorem newsMore {g h : Heap} {L a : Addr} {o : Obj} {news : List (Addr × Obj)} (N : News g L h news) (ho : h.get? a = some o) (hL : a ≠ L) (hg : g.get? a = none) : News g L h ((a, o) :: news) := fun p hp => by
  cases hp with
  | head => exact ⟨ho, hL, hg⟩
  | tail _ hp => exact N p hp
theorem newsTail {g h : Heap} {L : Addr} {p : Addr × Obj} {news : List (Addr × Obj)} (N : News g L h (p :: news)) : News g L h news := fun q hq => N q (.tail _ hq)
end
section
set_option maxHeartbeats 4000000
def IsT (o : Obj) : Prop := ∃ xs n, o = ⟨.type "tuple", none, .seq xs n, #[]⟩
theorem Ns.notT {h : Heap} {C : Addr} {m : Str → Option Value} (hn : h.Ns C m) {b : Addr} {o : Obj} (e : h.get? b = some o) (t : IsT o) : b ≠ C := by
  rintro rfl
  obtain ⟨o', es, ep, ho, hd, _⟩ := hn
  obtain ⟨xs, k, rfl⟩ := t
  rw [e] at ho; cases ho; cases hd
/-- what an item leaves: but for the block's own names C, and what it may change (X), all stands -/
def CKeeps (C : Addr) (X : Addr → Prop) (s s' : Shared) : Prop := ∃ h' tk m', s' = { s with heap := h', toks := tk } ∧ h'.Ns C m' ∧ ∀ b o, b ≠ C → ¬ X b → s.heap.get? b = some o → h'.get? b = some o
noncomputable abbrev compTest (ifs : List PySem.Expr) (cenv : Env) : Sem Bool := forIn ifs true fun c r => if r = true then do let ok ← isTrue c cenv (eval c cenv); pure (ForInStep.yield ok) else pure (ForInStep.yield r)
structure CompTurn (prog : Program) (w : World) (A : Around) (env : Env) (scope : Scope) (cl : List (Str × Addr)) (target elt : PySem.Expr) (ifs : List PySem.Expr) (I : Addr) (fp wr : List Addr) (n : Nat) (P : Nat → Value → Prop) (St : Nat → Heap → Prop)
    (J : Nat → List Value → Heap → Prop) (X : Addr → Prop) (s₂ : Shared) : Prop where
  walks : Walks prog w A I fp wr n P St
  size : n ≤ sizeLine
  start : St 0 s₂.heap
  below : ∀ b ∈ fp, b < s₂.heap.objs.size
  low : ∀ b, X b → b < s₂.heap.objs.size
  nfp : ∀ b, X b → b ∉ fp
  go : ∀ i v (s₁ : Shared) (Q : Unit → Shared → Prop) (E : Value → Shared → Prop), St (i + 1) s₁.heap → Q () s₁ → wpAny (model prog w) A (letOwnedTupleGo target (.ref I) v) Q E s₁
  init : J 0 [] s₂.heap
  keep : ∀ i ys h h', J i ys h → (∀ b o, h.get? b = some o → IsT o ∨ X b → h'.get? b = some o) → J i ys h'
  wrt : ∀ i h, St i h → ∀ b ∈ wr, ∀ o, h.get? b = some o → ¬ IsT o
  turn : ∀ C i v ys (s₃ : Shared) m₃, s₂.heap.objs.size ≤ C → i < n → P i v → s₃.heap.Ns C m₃ → (∀ b o, b ∉ wr → ¬ X b → s₂.heap.get? b = some o → s₃.heap.get? b = some o) → (∃ h' tk, s₃ = { s₂ with heap := h', toks := tk }) → J i ys s₃.heap →
    wpAny (model prog w) A (assign target (compEnvC scope cl C env) v) (fun _ s₄ => wpAny (model prog w) A (compTest ifs (compEnvC scope cl C env)) (fun ok s₅ =>
      if ok = true then wpAny (model prog w) A (eval elt (compEnvC scope cl C env)) (fun y s₆ => J (i + 1) (ys ++ [y]) s₆.heap ∧ CKeeps C X s₃ s₆) (fun _ _ => False) s₅
      else J (i + 1) ys s₅.heap ∧ CKeeps C X s₃ s₅) (fun _ _ => False) s₄) (fun _ _ => False) s₃
/-- between two turns -/
inductive CompInv (s₂ : Shared) (n : Nat) (wr : List Addr) (St : Nat → Heap → Prop) (J : Nat → List Value → Heap → Prop) (X : Addr → Prop) (D C : Addr) (k : Nat) (s' : Shared) : Prop
  | mk (i : Nat) (ys : List Value) (h' : Heap) (tk : Nat) (m' : Str → Option Value) (e : s' = { s₂ with heap := h', toks := tk }) (hi : i ≤ n) (hk : k = n + 1 - i) (hS : St i h') (hD : h'.PlainList D ys.toArray) (hN : h'.Ns C m') (hJ : J i ys h') (hl : ys.length ≤ i)
    (old : ∀ b o, b ∉ wr → ¬ X b → s₂.heap.get? b = some o → h'.get? b = some o)

section
variable {prog : Program} {w : World} {A : Around} {s : Shared} {R : Result → Shared → Prop} {target elt iter : PySem.Expr} {ifs : List PySem.Expr} {scope : Scope} {cl : List (Str × Addr)} {pos : Pos} {env : Env} {I : Addr} {fp wr : List Addr} {n : Nat} {P : Nat → Value → Prop} {St : Nat → Heap → Prop} {J : Nat → List Value → Heap → Prop} {X : Addr → Prop}

theorem none_of_le {h : Heap} {a : Addr} (q : h.objs.size ≤ a) : h.get? a = none := by
  cases e : h.get? a with
  | none => rfl
  | some o => exact absurd (Nat.lt_of_lt_of_le (Heap.lt_size e) q) (Nat.lt_irrefl _)

/-- a turn, seen from the block: the next item, its clean-up, its names, the tests, the element, the append; nothing raises -/
def TurnOf (prog : Program) (w : World) (A : Around) (target elt : PySem.Expr) (ifs : List PySem.Expr) (it acc : Value) (env : Env) (R : Shared → Prop) (Go : Shared → Prop) (s : Shared) : Prop :=
  wpAny (model prog w) A (pyNext it) (fun r s₁ => match r with
    | none => R s₁
    | some v => wpAny (model prog w) A (letOwnedTupleGo target it v) (fun _ s₂ => wpAny (model prog w) A (assign target env v) (fun _ s₃ => wpAny (model prog w) A (compTest ifs env) (fun ok s₄ =>
        if ok = true then wpAny (model prog w) A (eval elt env) (fun x s₅ => wpAny (model prog w) A (call (.builtin "list.append") [acc, x]) (fun _ => Go) (fun _ _ => False) s₅) (fun _ _ => False) s₄ else Go s₄) (fun _ _ => False) s₃) (fun _ _ => False) s₂) (fun _ _ => False) s₁) (fun _ _ => False) s

theorem bind0 {α β : Type} {m : Sem α} {f : α → Sem β} {Q : β → Shared → Prop} {E : Value → Shared → Prop} {s : Shared} {P : α → Shared → Prop} (h : wpAny (model prog w) A m P (fun _ _ => False) s) (k : ∀ a t, P a t → wpAny (model prog w) A (f a) Q E t) :
    wpAny (model prog w) A (m >>= f) Q E s := wpAny_bind (wpAny_mono h k fun _ _ e => e.elim)

theorem compLoop_go {it acc : Value} (V : Nat → Shared → Prop) (turn : ∀ k s, V k s → TurnOf prog w A target elt ifs it acc env (R (.ok .next)) (fun t => ∃ j, j < k ∧ V j t) s) (k : Nat) (h : V k s) :
    codeAny (model prog w) A (.compLoop (.ListComp elt [⟨target, iter, ifs, 0⟩] scope pos) 0 it acc env) R s := by
  refine codeAny_loop rfl V (fun k s hV => wpAny_noted (m := compTurn (.ListComp elt [⟨target, iter, ifs, 0⟩] scope pos) 0 it acc env) ?_) k h
  rw [compTurn_list]
  refine wpAny_bind (wpAny_standAt (bind0 (turn k s hV) fun r s₁ h₁ => ?_))
  match r with
  | none => exact wpAny_pure h₁
  | some v =>
    refine bind0 h₁ fun _ s₂ h₂ => bind0 h₂ fun _ s₃ h₃ => bind0 h₃ fun ok s₄ h₄ => ?_
    match ok with
    | false => exact wpAny_pure ⟨rfl, h₄⟩
    | true => exact wpAny_bind (bind0 h₄ fun x s₅ h₅ => bind0 h₅ fun _ s₆ h₆ => wpAny_pure (wpAny_pure ⟨rfl, h₆⟩))

/-- the list and the block's names are laid: two new places -/
theorem comp_open {E : Value → Shared → Prop} {s₂ : Shared} {e : PySem.Expr} {it : Value} {RR : Value → Addr → Result → Shared → Prop} (hcell : ∀ y ∈ scope.names, y.2 ≠ .cell) (hkind : scope.kind = .function)
    (h : ∀ D C h₁ tk m, s₂.heap.objs.size ≤ D → D < C → (∀ b o, s₂.heap.get? b = some o → h₁.get? b = some o) → h₁.PlainList D #[] → h₁.Ns C m →
      codeAny (model prog w) A (.compStart e 0 it (.ref D) (compEnvC scope cl C env)) (RR (.ref D) C) { s₂ with heap := h₁, toks := tk }) :
    wpAny (model prog w) A (newList []) (fun acc s₃ => wpAny (model prog w) A (newFunctionEnv scope env.globals cl [] env.qual none .none (some env))
      (fun cenv s₄ => codeAny (model prog w) A (.compStart e 0 it acc { cenv with scope := relabel scope env }) (RR acc cenv.locals) s₄) E s₃) E s₂ := by
  have z := Heap.size_push s₂.heap ({ cls := .type "list", dict := none, data := .seq #[] } : Obj)
  have lt : s₂.heap.objs.size < (s₂.heap.push ({ cls := .type "list", dict := none, data := .seq #[] } : Obj)).objs.size := by
    rw [z]
    exact Nat.lt_succ_self _
  refine wpAny_newObj_type (wpAny_newFunctionEnv hcell (fun y hy => nomatch hy) (fun h₁ n₁ b₁ => ?_) hkind)
  exact h _ _ h₁ _ _ (Nat.le_refl _) lt (fun b o q => b₁.extBut b o (Nat.ne_of_lt (Nat.lt_trans (Heap.lt_size q) lt)) (Heap.get?_push_of_some _ (Heap.get?_push_of_some _ q)))
    ⟨0, b₁.extBut _ _ (Nat.ne_of_lt lt) (Heap.get?_push_of_some _ (Heap.get?_push_size _ rfl))⟩ n₁

theorem comp_core {E : Value → Shared → Prop} {s₂ : Shared} (c : CompTurn prog w A env scope cl target elt ifs I fp wr n P St J X s₂) {RR : Value → Addr → Result → Shared → Prop} (hcell : ∀ y ∈ scope.names, y.2 ≠ .cell) (hkind : scope.kind = .function)
    (hRR : ∀ D C h' tk m' ys k, s₂.heap.get? D = none → s₂.heap.get? C = none → D ≠ C → (∀ b, X b → b ≠ C) → h'.Ns C m' → h'.get? D = some (W.listOf (List.toArray ys) k) → J n ys h' → (∀ b o, b ∉ wr → ¬ X b → s₂.heap.get? b = some o → h'.get? b = some o) → RR (.ref D) C (.ok .next) { s₂ with heap := h', toks := tk }) :
    wpAny (model prog w) A (newList []) (fun acc s₃ => wpAny (model prog w) A (newFunctionEnv scope env.globals cl [] env.qual none .none (some env))
      (fun cenv s₄ => codeAny (model prog w) A (.compStart (.ListComp elt [⟨target, iter, ifs, 0⟩] scope pos) 0 (.ref I) acc { cenv with scope := relabel scope env }) (RR acc cenv.locals) s₄) E s₃) E s₂ := by
  refine comp_open hcell hkind fun D C h₁ tk₁ m₁ lo lt k₁ p₁ n₁ => ?_
  have loC := Nat.le_trans lo (Nat.le_of_lt lt)
  have oldD : ∀ b, b < s₂.heap.objs.size → b ≠ D := fun b q => Nat.ne_of_lt (Nat.lt_of_lt_of_le q lo)
  have oldC : ∀ b, b < s₂.heap.objs.size → b ≠ C := fun b q => Nat.ne_of_lt (Nat.lt_of_lt_of_le q loC)
  have fD : ∀ b ∈ fp, b ≠ D := fun b q => oldD b (c.below b q)
  have fC : ∀ b ∈ fp, b ≠ C := fun b q => oldC b (c.below b q)
  have wD : D ∉ wr := fun q => fD D (c.walks.sub _ q) rfl
  have wC : C ∉ wr := fun q => fC C (c.walks.sub _ q) rfl
  have s0 : St 0 h₁ := c.walks.frame _ _ _ c.start fun b _ o => k₁ b o
  have main : codeAny (model prog w) A (.compLoop (.ListComp elt [⟨target, iter, ifs, 0⟩] scope pos) 0 (.ref I) (.ref D) (compEnvC scope cl C env)) (RR (.ref D) C) { s₂ with heap := h₁, toks := tk₁ } := by
    refine compLoop_go (CompInv s₂ n wr St J X D C) ?_ (n + 1) ⟨0, [], h₁, tk₁, m₁, rfl, Nat.zero_le _, rfl, s0, p₁, n₁, c.keep _ _ _ _ c.init fun b o q _ => k₁ b o q, Nat.le_refl _, fun b o _ _ => k₁ b o⟩
    rintro k t ⟨i, ys, H, tk, m', rfl, hi, rfl, hS, hD, hN, hJ, hl, old⟩
    have stay : ∀ h₂ : Heap, (∀ b o, b ∉ wr → H.get? b = some o → h₂.get? b = some o) → J i ys h₂ := fun h₂ q => c.keep _ _ _ _ hJ fun b o e t => q b o (fun hb => t.elim (c.wrt _ _ hS b hb o e) fun x => c.nfp b x (c.walks.sub _ hb)) e
    rcases Nat.lt_or_ge i n with lti | gei
    · refine c.walks.item i _ _ _ lti hS fun v h₂ tk₂ hP S₂ q₂ => c.go i v _ _ _ S₂ ?_
      refine wpAny_mono (c.turn C i v ys { s₂ with heap := h₂, toks := tk₂ } m' loC lti hP (hN.at' fun o => q₂ C o wC) (fun b o hb hx e => q₂ b o hb (old b o hb hx e)) ⟨_, _, rfl⟩ (stay h₂ q₂)) (fun _ s₄ h₄ => wpAny_mono h₄ (fun ok s₅ h₅ => ?_) fun _ _ e => e) fun _ _ e => e
      have xD : ¬ X D := fun x => Nat.lt_irrefl _ (Nat.lt_of_lt_of_le (c.low D x) lo)
      have next : ∀ h₆ tk₆ m₆ zs h₇, h₆.Ns C m₆ → (∀ b o, b ≠ C → ¬ X b → h₂.get? b = some o → h₆.get? b = some o) → J (i + 1) zs h₆ → zs.length ≤ i + 1 → Heap.SameBut D h₆ h₇ → h₇.PlainList D zs.toArray →
          ∃ j, j < n + 1 - i ∧ CompInv s₂ n wr St J X D C j { s₂ with heap := h₇, toks := tk₆ } := by
        intro h₆ tk₆ m₆ zs h₇ N₆ q₆ J₆ len sb P₇
        have noD : ∀ b o, b < s₂.heap.objs.size → h₆.get? b = some o → h₇.get? b = some o := fun b o q => sb.extBut b o (oldD b q)
        refine ⟨n + 1 - (i + 1), by omega, i + 1, zs, h₇, tk₆, m₆, rfl, lti, rfl, ?_, P₇, N₆.sameBut sb (Ne.symm (Nat.ne_of_lt lt)), ?_, len, ?_⟩
        · exact c.walks.frame _ _ _ S₂ fun b hb o e => noD b o (c.below b hb) (q₆ b o (fC b hb) (fun x => c.nfp b x hb) e)
        · refine c.keep _ _ _ _ J₆ fun b o e t => sb.extBut b o (fun q => ?_) e
          subst q
          rcases t with ⟨xs, kx, rfl⟩ | x
          · obtain ⟨k2, e2⟩ := hD
            rw [q₆ b _ (Nat.ne_of_lt lt) xD (q₂ b _ wD e2)] at e
            simp at e
          · exact xD x
        · exact fun b o hb hx e => noD b o (Heap.lt_size e) (q₆ b o (oldC b (Heap.lt_size e)) hx (q₂ b o hb (old b o hb hx e)))
      match ok with
      | false =>
        obtain ⟨J₆, h₆, tk₆, m₆, rfl, N₆, q₆⟩ := h₅
        exact next h₆ tk₆ m₆ ys h₆ N₆ q₆ J₆ (Nat.le_succ_of_le hl) (Heap.SameBut.refl ..) (hD.at fun o e => q₆ D o (Nat.ne_of_lt lt) xD (q₂ D o wD e))
      | true =>
        refine wpAny_mono h₅ (fun y s₆ h₆ => ?_) fun _ _ e => e
        obtain ⟨J₆, h₆, tk₆, m₆, rfl, N₆, q₆⟩ := h₆
        have P₆ : h₆.PlainList D ys.toArray := hD.at fun o e => q₆ D o (Nat.ne_of_lt lt) xD (q₂ D o wD e)
        refine wpAny_list_append_plain (hsz := Nat.le_trans (by simpa using Nat.le_of_lt (Nat.lt_of_le_of_lt hl lti)) c.size) P₆ fun h₇ P₇ sb => ?_
        exact next h₆ tk₆ m₆ (ys ++ [y]) h₇ N₆ q₆ J₆ (by simpa using hl) sb (by simpa using P₇)
    · obtain rfl : i = n := Nat.le_antisymm hi gei
      refine c.walks.done _ _ _ hS fun h₂ tk₂ q₂ => ?_
      obtain ⟨kd, hd⟩ := hD
      exact hRR D C h₂ tk₂ m' ys kd (none_of_le lo) (none_of_le loC) (Nat.ne_of_lt lt) (fun b x => oldC b (c.low b x)) (hN.at' fun o => q₂ C o wC) (q₂ D _ wD hd) (stay h₂ q₂) fun b o hb hx e => q₂ b o hb (old b o hb hx e)
  exact codeAny_compStart_list main (c.walks.self 0 _ _ _ s0 main)
/-- a list comprehension of one clause, by what holds between the turns -/
theorem comp_eval {E : Value → Shared → Prop} {Q : Value → Shared → Prop} (hclos : closureFor scope env = pure cl) (hcell : ∀ y ∈ scope.names, y.2 ≠ .cell) (hkind : scope.kind = .function) (hnames : ∀ y ∈ scope.names, y.2 = .local → scope.names.lookup y.1 = some .local)
    (h : wpAny (model prog w) A (eval iter env) (fun xv s₁ => wpAny (model prog w) A (pyIter xv) (fun it s₂ => ∃ I fp wr n P St J X, it = .ref I ∧ CompTurn prog w A env scope cl target elt ifs I fp wr n P St J X s₂ ∧
      (∀ D h' tk ys k, s₂.heap.get? D = none → h'.get? D = some (W.listOf (List.toArray ys) k) → J n ys h' → (∀ b o, b ∉ wr → ¬ X b → s₂.heap.get? b = some o → h'.get? b = some o) → Q (.ref D) { s₂ with heap := h', toks := tk })) E s₁) E s)
    (hs : ∀ x, foldedSetIterable iter env x = pure x := by intro _; rfl) : wpAny (model prog w) A (eval (.ListComp elt [⟨target, iter, ifs, 0⟩] scope pos) env) Q E s := by
  rw [eval_ListComp]
  refine wpAny_comprehension_free (use := none) rfl hs hclos hkind hnames (wpAny_mono h (fun xv s₁ h₁ => wpAny_mono h₁ ?_ fun _ _ e => e) fun _ _ e => e)
  rintro it s₂ ⟨I, fp, wr, n, P, St, J, X, rfl, c, fin⟩
  refine comp_core c (RR := compPost (model prog w) A E none Q |> fun f a C => f a C) hcell hkind fun D C h' tk m' ys k nD nC ne xC N l j old => ⟨m', N, fun h2 sb => ?_⟩
  have k2 : ∀ b o, b ≠ C → h'.get? b = some o → h2.get? b = some o := sb.extBut
  refine fin D h2 tk ys k nD (k2 D _ ne l) (c.keep _ _ _ _ j fun b o e t => k2 b o (t.elim (Ns.notT N e) (xC b)) e) fun b o hb hx e => k2 b o (fun q => ?_) (old b o hb hx e)
  rw [q, nC] at e
  cases e
/-- the same, stored to a local name at once -/
theorem comp_assign {E : Value → Shared → Prop} {Q : Flow → Shared → Prop} {y : Str} {py spos : Pos} (hsw : swapsWith (.ListComp elt [⟨target, iter, ifs, 0⟩] scope pos) (some (.Name y py)) spos.line env = pure true)
    (hclos : closureFor scope env = pure cl) (hcell : ∀ y ∈ scope.names, y.2 ≠ .cell) (hkind : scope.kind = .function) (hnames : ∀ y ∈ scope.names, y.2 = .local → scope.names.lookup y.1 = some .local)
    (hy : env.kindOf y = some .local) (hp : (env.scope.kind == .class || (env.scope.kind == .module && env.locals != env.globals)) = false)
    (h : wpAny (model prog w) A (eval iter env) (fun xv s₁ => wpAny (model prog w) A (pyIter xv) (fun it s₂ => ∃ I fp wr n P St J X m, it = .ref I ∧ CompTurn prog w A env scope cl target elt ifs I fp wr n P St J X s₂ ∧ env.locals ∉ wr ∧ ¬ X env.locals ∧ s₂.heap.Ns env.locals m ∧
      (∀ D h' tk ys k, s₂.heap.get? D = none → h'.get? D = some (W.listOf (List.toArray ys) k) → J n ys h' → h'.Ns env.locals (fun z => if z = y then some (.ref D) else m z) → (∀ b o, b ≠ env.locals → b ∉ wr → ¬ X b → s₂.heap.get? b = some o → h'.get? b = some o) → Q .next { s₂ with heap := h', toks := tk })) E s₁) E s)
    (hs : ∀ x, foldedSetIterable iter env x = pure x := by intro _; rfl) : wpAny (model prog w) A (exec (.Assign [.Name y py] (.ListComp elt [⟨target, iter, ifs, 0⟩] scope pos) spos) env) Q E s := by
  have blk : ∀ p, wpAny (model prog w) A (comprehension (.ListComp elt [⟨target, iter, ifs, 0⟩] scope pos) scope env p (newList []) false (eval iter env) (some (assign (.Name y py) env))) (fun _ t => Q .next t) E s := by
    intro p
    refine wpAny_comprehension_free (use := some (assign (.Name y py) env)) rfl hs hclos hkind hnames (wpAny_mono h (fun xv s₁ h₁ => wpAny_mono h₁ ?_ fun _ _ e => e) fun _ _ e => e)
    rintro it s₂ ⟨I, fp, wr, n, P, St, J, X, m, rfl, c, lw, lx, lN, fin⟩
    refine comp_core c (RR := compPost (model prog w) A E (some (assign (.Name y py) env)) (fun _ t => Q .next t) |> fun f a C => f a C) hcell hkind fun D C h' tk m' ys k nD nC ne xC N l j old => ?_
    have some_of : ∀ {b}, (∃ o, s₂.heap.get? b = some o) → b ≠ C ∧ b ≠ D := by
      rintro b ⟨o, e⟩
      constructor <;> rintro rfl
      · rw [nC] at e; cases e
      · rw [nD] at e; cases e
    have lo := some_of (b := env.locals) (let ⟨o, _, _, e, _⟩ := lN; ⟨o, e⟩)
    have lN' : h'.Ns env.locals m := lN.at' fun o => old _ o lw lx
    show wpAny _ A (assign (.Name y py) env (.ref D)) _ _ _
    refine wpAny_assign_Name (wpAny_storeName_local hy lN' (fun h₂ N₂ b₂ => ⟨m', N.sameBut b₂ (Ne.symm lo.1), fun h₃ b₃ => ?_⟩) hp)
    have k3 : ∀ b o, b ≠ env.locals → b ≠ C → h'.get? b = some o → h₃.get? b = some o := fun b o q1 q2 e => b₃.extBut b o q2 (b₂.extBut b o q1 e)
    refine fin D h₃ _ ys k nD (k3 D _ (Ne.symm lo.2) ne l) (c.keep _ _ _ _ j fun b o e t => k3 b o (t.elim (Ns.notT lN' e) fun x q => lx (q ▸ x)) (t.elim (Ns.notT N e) (xC b)) e) (N₂.sameBut b₃ lo.1) fun b o q1 hb hx e => k3 b o q1 (some_of ⟨o, e⟩).1 (old b o hb hx e)
  rw [exec_Assign_Name_used _ _ _ _ hsw]
  exact wpAny_bind (wpAny_standAt (wpAny_bind (wpAny_bind (wpAny_mono (blk _) (fun _ _ q => wpAny_pure (wpAny_pure q)) fun _ _ e => e))))
end
end
section
set_option maxHeartbeats 4000000
section
variable {prog : Program} {w : World} {A : Around} {E : Value → Shared → Prop} {s : Shared}
theorem stop_raise {α : Type} {Q : α → Shared → Prop} (hh : A.handled = none)
    (h : ∀ h' e, (∀ b o, s.heap.get? b = some o → h'.get? b = some o) → (∃ o, h'.get? e = some o ∧ o.cls = .type "StopIteration") → E (.ref e) { s with heap := h' }) :
    wpAny (model prog w) A (Builtin.SmallTypes.stopIteration : Sem α) Q E s := by
  unfold Builtin.SmallTypes.stopIteration newExc
  wp_walk
  exact wpAny_raiseNew_none hh (h _ _ (fun b o e => Heap.get?_push_of_some _ (Heap.get?_push_of_some _ e)) ⟨_, Heap.get?_push_size _ rfl, rfl⟩)
theorem tit_next {it t : Addr} {i : Nat} {items} {Q : Value → Shared → Prop} (hit : s.heap.IsTupleIter it t i) (ht : s.heap.IsTuple t items)
    (h1 : ∀ x h', items[i]? = some x → h'.IsTupleIter it t (i + 1) → Heap.SameBut it s.heap h' → Q x { s with heap := h' })
    (h2 : items[i]? = none → A.handled = none ∧ ∀ h' e, Heap.ExtBut it s.heap h' → (∃ o, h'.get? e = some o ∧ o.cls = .type "StopIteration") → E (.ref e) { s with heap := h' }) :
    wpAny (model prog w) A (Builtin.SmallTypes.nextOf (.ref it)) Q E s := by
  have hT := hit.typeIs
  obtain ⟨oi, e1, c1, d1⟩ := hit
  obtain ⟨ot, e2, _, nn, d2⟩ := ht
  unfold Builtin.SmallTypes.nextOf
  refine wpAny_bind (wpAny_callSpecial?_slot hT F.slot_tuple_iterator_next (wpAny_call_entry F.slot_tuple_iterator_next hT F.entry_tuple_iterator_next ?_ (F.args_tuple_iterator_next_1 _)))
  unfold Builtin.«tuple_iterator.__next__»
  wp_walk using wpAny_field e1 d1 (x := .ref t) rfl, wpAny_field e1 d1 (x := .int i 0) rfl, wpAny_seqItems e2 d2
  rw [Int.toNat_natCast]
  cases hx : items[i]? with
  | some x =>
    have hu : (Obj.mapFields (fun x => x.setIfInBounds 1 (rawInt (↑i + 1))) oi).data = .fields #[.ref t, .int ((i + 1 : Nat) : Int) 0] := by
      rw [Obj.data_mapFields d1]
      simp [rawInt]
    refine wpAny_bind (wpAny_setField e1 d1 (by simp) ?_)
    wp_walk
    refine ⟨x, rfl, wpAny_pure (h1 x _ hx ⟨_, Heap.get?_update_self _ e1 (Obj.isFreed_of_fields hu), ?_, hu⟩ (Heap.SameBut.update ..))⟩
    rw [Obj.cls_mapFields]
    exact c1
  | none =>
    have su : Heap.SameBut it s.heap (s.heap.update it (Obj.mapFields fun x => x.setIfInBounds 0 Value.none)) := Heap.SameBut.update ..
    obtain ⟨hh, hE⟩ := h2 hx
    refine wpAny_bind (wpAny_rule ?_)
    refine wpAny_bind (wpAny_setField e1 d1 (by simp) ?_)
    exact stop_raise hh fun h' e k ho => hE h' e (fun b o hb eb => k b o (su.extBut b o hb eb)) ho
end
theorem drawsTuple {prog : Program} {w : World} {A : Around} (hh : A.handled = none) (it l : Addr) (hne : l ≠ it) (items : Array Value) :
    Draws prog w A it [it, l] items.size (fun i v => items[i]? = some v) (fun i h => h.IsTupleIter it l i ∧ h.IsTuple l items) := by
  constructor
  · rintro i h ⟨⟨o, ho, _⟩, _⟩
    exact ⟨o, ho⟩
  · rintro i h h' ⟨a, b⟩ hk
    exact ⟨a.at fun o => hk it (.head _) o, b.at fun o => hk l (.tail _ (.head _)) o⟩
  · rintro i s Q E hi ⟨a, b⟩ hQ
    exact tit_next a b (fun x h' hx a' hs => hQ x h' s.toks hx ⟨a', b.extBut hs.extBut hne⟩ hs) fun hn => absurd (Array.getElem?_eq_none_iff.mp hn) (Nat.not_le.mpr hi)
  · rintro s Q E ⟨a, b⟩ hE
    exact tit_next a b (fun x h' hx => absurd (Array.getElem?_eq_some_iff.mp hx).1 (Nat.lt_irrefl _)) fun _ => ⟨hh, hE⟩
theorem walksEnumTup {prog : Program} {w : World} {A : Around} (hh : A.handled = none) (e it l : Addr) (q1 : e ≠ it) (q2 : l ≠ e) (q3 : l ≠ it) (items : Array Value) :
    WalksT prog w A e [e, it, l] [e, it] items.size (fun i vals => ∃ t x, items[i]? = some x ∧ vals = #[.int i t, x]) (fun i h => (∃ old, IsEnum h e it i old) ∧ (h.IsTupleIter it l i ∧ h.IsTuple l items))
      (fun i T h => (∃ x, IsEnumOut h e it ((i : Int) + 1) x T) ∧ (h.IsTupleIter it l (i + 1) ∧ h.IsTuple l items) ∧ T ≠ e ∧ T ≠ it) :=
  WalksT.enumerateD (drawsTuple (A := A.in1) hh it l q3 items) e q1 (by intro hm; simp only [List.mem_cons, List.not_mem_nil, or_false] at hm; exact hm.elim q1 (Ne.symm q2)) (.head _)
theorem meets_enum_tup (l : Addr) (items : Array Value) (n : Nat) :
    Meets (Builtin.«enumerate.__new__» ⟨[.type "enumerate", .ref l], []⟩) (fun _ R s => s.heap.get? l = some { cls := .type "tuple", dict := none, data := .seq items n, slots := #[] } ∧
      R (.ok (.ret (.ref (s.heap.push { cls := .type "tuple_iterator", data := .fields #[.ref l, .int 0 0] }).objs.size)))
        { s with heap := (s.heap.push { cls := .type "tuple_iterator", data := .fields #[.ref l, .int 0 0] }).push { cls := .type "enumerate", data := .fields #[.none, .bool false, .ref s.heap.objs.size, rawInt 0, .none, .none] } }) :=
  .of_wp fun prog w A R s h => by
    obtain ⟨hp, g, d, tk, os⟩ := s; obtain ⟨hl, h⟩ := h
    have hsub := sub_enumerate
    have hL : Heap.IsTuple (Shared.heap ⟨hp, g, d, tk, os⟩) l items := ⟨_, hl, rfl, n, rfl⟩
    wp_walk using wpAny_loadPart' hl
    refine wpAny_stack_any fun st => wpAny_pure ?_
    split
    · rename_i c _ _ _ _ _
      cases (c == Value.type "enumerate")
      · wp_walk using wpAny_loadPart' hl, wpAny_pyIter_tuple hL
        exact ⟨_, rfl, h⟩
      · wp_walk using wpAny_loadPart' hl, wpAny_pyIter_tuple hL
        exact ⟨_, rfl, h⟩
    · wp_walk using wpAny_loadPart' hl, wpAny_pyIter_tuple hL
      exact ⟨_, rfl, h⟩
theorem call_enum_tup {prog : Program} {w : World} {A : Around} {E : Value → Shared → Prop} {s : Shared} {l : Addr} {items : Array Value} {n : Nat} {Q : Value → Shared → Prop}
    (hl : s.heap.get? l = some { cls := .type "tuple", dict := none, data := .seq items n, slots := #[] })
    (h : ∀ h', IsEnum h' (s.heap.objs.size + 1) s.heap.objs.size 0 .none → h'.IsTupleIter s.heap.objs.size l 0 →
      (∀ b o, s.heap.get? b = some o → h'.get? b = some o) → Q (.ref (s.heap.objs.size + 1)) { s with heap := h' }) :
    wpAny (model prog w) A (call (.type "enumerate") [.ref l]) Q E s := by
  have z := Heap.size_push s.heap ({ cls := .type "tuple_iterator", data := .fields #[.ref l, .int 0 0] } : Obj)
  have a1 := Heap.get?_push_size s.heap (o := ({ cls := .type "tuple_iterator", data := .fields #[.ref l, .int 0 0] } : Obj)) rfl
  have a2 := Heap.get?_push_size (s.heap.push ({ cls := .type "tuple_iterator", data := .fields #[.ref l, .int 0 0] } : Obj)) (o := ({ cls := .type "enumerate", data := .fields #[.none, .bool false, .ref s.heap.objs.size, rawInt 0, .none, .none] } : Obj)) rfl
  have k := fun b o (e : s.heap.get? b = some o) => Heap.get?_push_of_some ({ cls := .type "enumerate", data := .fields #[.none, .bool false, .ref s.heap.objs.size, rawInt 0, .none, .none] } : Obj) (Heap.get?_push_of_some ({ cls := .type "tuple_iterator", data := .fields #[.ref l, .int 0 0] } : Obj) e)
  refine callType_new F.called_enumerate (by decide) (F.typeCall_enumerate_1 _) (F.newCall_enumerate_1 _) (fun obj => F.args_object_init_2 obj _) F.entry_enumerate_new (meets_enum_tup l items n) ⟨hl, ?_⟩
  rw [z] at a2 ⊢
  exact ⟨⟨_, a2, rfl⟩, h _ a2 ⟨_, Heap.get?_push_of_some _ a1, rfl, rfl⟩ k⟩
/-- a for loop over an iterator that hands pairs of its own -/
theorem for_ruleT {prog : Program} {w : World} {A : Around} {s : Shared} {R : Result → Shared → Prop} {elts : List PySem.Expr} {kk : Nat} {tp : Pos} {body orelse : List Stmt} {env : Env} {I : Addr} {fp wr : List Addr} {n : Nat} {Pt : Nat → Array Value → Prop} {St : Nat → Heap → Prop} {Mid : Nat → Addr → Heap → Prop}
    (W : WalksT prog w A I fp wr n Pt St Mid) (J : Nat → Shared → Prop)
    (hst : St 0 s.heap) (h0 : J 0 s)
    (jn : ∀ i (s₁ : Shared) h' tk, i ≤ n → J i s₁ → (∀ b o, b ∉ wr → s₁.heap.get? b = some o → h'.get? b = some o) → J i { s₁ with heap := h', toks := tk })
    (turn : ∀ i T vals s₁, i < n → Pt i vals → s₁.heap.IsTuple T vals → J i s₁ → St (i + 1) s₁.heap → wpAny (model prog w) A (assign (.Tuple elts kk tp) env (.ref T)) (fun _ s₂ => wpAny (model prog w) A (execs body env) (fun f s₃ => match f with
          | .next | .cont => J (i + 1) s₃ ∧ St (i + 1) s₃.heap
          | .brk => R (.ok .next) s₃
          | .ret v => R (.ok (.ret v)) s₃) (fun _ _ => False) s₂) (fun _ _ => False) s₁)
    (done : ∀ s₁, J n s₁ → wpAny (model prog w) A (execs orelse env) (fun f s₃ => R (.ok f) s₃) (fun _ _ => False) s₁) :
    codeAny (model prog w) A (.forLoop (.Tuple elts kk tp) (.ref I) body orelse env) R s := by
  refine codeAny_forLoop_any (fun k s' => ∃ i, i ≤ n ∧ k = n + 1 - i ∧ J i s' ∧ St i s'.heap) ?_ (n + 1) ⟨0, Nat.zero_le _, rfl, h0, hst⟩
  rintro k s' ⟨i, hi, rfl, hJ, hS⟩
  by_cases hlt : i < n
  · refine W.item i s' _ _ hlt hS fun T vals h' tk hP _ hT hMid hk => ?_
    have hJ' := jn i s' h' tk hi hJ hk
    refine W.go elts kk tp i T _ _ _ hMid fun h'' hS'' hk'' => ?_
    have hJ'' := jn i _ h'' tk hi hJ' hk''
    refine wpAny_mono (turn i T vals { s' with heap := h'', toks := tk } hlt hP (hT.at fun o e => hk'' T o (W.apart i T h' hMid) e) hJ'' hS'') (fun _ s₂ h₂ => ?_) fun _ _ e => e.elim
    refine wpAny_mono h₂ (fun f s₃ h₃ => ?_) fun _ _ e => e.elim
    cases f with
    | next => exact ⟨n + 1 - (i + 1), by omega, i + 1, hlt, rfl, h₃.1, h₃.2⟩
    | cont => exact ⟨n + 1 - (i + 1), by omega, i + 1, hlt, rfl, h₃.1, h₃.2⟩
    | brk => exact h₃
    | ret v => exact h₃
  · have e : i = n := by omega
    subst e
    refine W.done s' _ _ hS fun h' tk hk => ?_
    exact wpAny_mono (done _ (jn i s' h' tk hi hJ hk)) (fun _ _ x => x) fun _ _ x => x.elim
end
section
set_option maxHeartbeats 4000000
theorem frFresh {g h : Heap} {L a : Addr} {m : Str → Option Value} (F : Fr g L h m) (ha : h.objs.size ≤ a) : a ≠ L ∧ g.get? a = none := by
  refine ⟨fun e => ?_, ?_⟩
  · exact absurd F.ns.lt (by rw [← e]; exact Nat.not_lt.mpr ha)
  · cases q : g.get? a with
    | none => rfl
    | some o => exact absurd (Heap.lt_size (F.keep a o q)) (Nat.not_lt.mpr ha)
theorem newsNe {g h : Heap} {L a : Addr} {news : List (Addr × Obj)} (N : News g L h news) (ha : h.objs.size ≤ a) : ∀ p ∈ news, p.1 ≠ a := fun p hp e => absurd (Heap.lt_size (N p hp).1) (by rw [e]; exact Nat.not_lt.mpr ha)
theorem getNe {h : Heap} {l a : Addr} {o : Obj} (e : h.get? l = some o) (ha : h.objs.size ≤ a) : l ≠ a := fun q => absurd (Heap.lt_size e) (by rw [q]; exact Nat.not_lt.mpr ha)
section
variable {prog : Program} {w : World} {A : Around} {E : Value → Shared → Prop} {s : Shared} {g : Heap} {L : Addr} {m : Str → Option Value} {news : List (Addr × Obj)} {Q : Value → Shared → Prop} {l : Addr} {items : Array Value}
theorem enum_start {n : Nat} (F : Fr g L s.heap m) (N : News g L s.heap news) (hl : s.heap.get? l = some { cls := .type "tuple", dict := none, data := .seq items n, slots := #[] })
    (h : ∀ e it h', e ≠ it → l ≠ e → l ≠ it → e ≠ L → it ≠ L → g.get? e = none → g.get? it = none → (∀ p ∈ news, p.1 ≠ e) → (∀ p ∈ news, p.1 ≠ it) → IsEnum h' e it 0 .none → h'.IsTupleIter it l 0 → h'.IsTuple l items → Fr g L h' m → News g L h' news → Q (.ref e) { s with heap := h' }) :
    wpAny (model prog w) A (call (.type "enumerate") [.ref l]) (fun x s₁ => wpAny (model prog w) A (pyIter x) Q E s₁) E s := by
  refine call_enum_tup hl fun h' he hit hk => ?_
  refine wpAny_pyIter_enum he ?_
  obtain ⟨a1, a2⟩ := frFresh F (Nat.le_refl _)
  obtain ⟨b1, b2⟩ := frFresh F (Nat.le_succ _)
  exact h _ _ h' (Nat.succ_ne_self _) (getNe hl (Nat.le_succ _)) (getNe hl (Nat.le_refl _)) b1 a1 b2 a2 (newsNe N (Nat.le_succ _)) (newsNe N (Nat.le_refl _)) he hit ⟨_, hk _ _ hl, rfl, _, rfl⟩ (frKeep F hk) (newsKeep N hk)
theorem tup_start {n : Nat} (F : Fr g L s.heap m) (N : News g L s.heap news) (hl : s.heap.IsTuple l items)
    (h : ∀ it h', l ≠ it → it ≠ L → g.get? it = none → (∀ p ∈ news, p.1 ≠ it) → h'.IsTupleIter it l 0 → h'.IsTuple l items → Fr g L h' m → News g L h' news → (∀ b o, s.heap.get? b = some o → h'.get? b = some o) → Q (.ref it) { s with heap := h' }) :
    wpAny (model prog w) A (pyIter (.ref l)) Q E s := by
  refine wpAny_pyIter_tuple hl ?_
  obtain ⟨a1, a2⟩ := frFresh F (Nat.le_refl _)
  have hk : ∀ b o, s.heap.get? b = some o → (s.heap.push { cls := .type "tuple_iterator", data := .fields #[.ref l, .int 0 0] }).get? b = some o := fun b o e => Heap.get?_push_of_some _ e
  obtain ⟨ol, hol, r⟩ := id hl
  exact h _ _ (getNe hol (Nat.le_refl _)) a1 a2 (newsNe N (Nat.le_refl _)) ⟨_, Heap.get?_push_size _ rfl, rfl, rfl⟩ ⟨ol, hk _ _ hol, r⟩ (frKeep F hk) (newsKeep N hk) hk
theorem list_start (F : Fr g L s.heap m) (N : News g L s.heap news) (hl : s.heap.IsList l items)
    (h : ∀ it h', l ≠ it → it ≠ L → g.get? it = none → (∀ p ∈ news, p.1 ≠ it) → h'.IsListIter it l 0 → h'.IsList l items → Fr g L h' m → News g L h' news → (∀ b o, s.heap.get? b = some o → h'.get? b = some o) → it < h'.objs.size → Q (.ref it) { s with heap := h' }) :
    wpAny (model prog w) A (pyIter (.ref l)) Q E s := by
  refine wpAny_pyIter_list hl ?_
  obtain ⟨a1, a2⟩ := frFresh F (Nat.le_refl _)
  have hk : ∀ b o, s.heap.get? b = some o → (s.heap.push { cls := .type "list_iterator", data := .fields #[.ref l, .int 0 0] }).get? b = some o := fun b o e => Heap.get?_push_of_some _ e
  obtain ⟨ol, hol, r⟩ := id hl
  exact h _ _ (getNe hol (Nat.le_refl _)) a1 a2 (newsNe N (Nat.le_refl _)) ⟨_, Heap.get?_push_size _ rfl, rfl, rfl⟩ ⟨ol, hk _ _ hol, r⟩ (frKeep F hk) (newsKeep N hk) hk (by rw [Heap.size_push]; exact Nat.lt_succ_self _)
theorem range_start {n : Nat} {t u v : Tok} (F : Fr g L s.heap m) (N : News g L s.heap news) (hr : IsRange s.heap l 0 n 1 t u v) (hn : n < 1000)
    (h : ∀ it h', it ≠ L → g.get? it = none → (∀ p ∈ news, p.1 ≠ it) → IsRangeIter h' it (0 + (0 : Nat) * 1) ((n : Int) - (0 : Nat)) 1 → Fr g L h' m → News g L h' news → (∀ b o, s.heap.get? b = some o → h'.get? b = some o) → it < h'.objs.size → Q (.ref it) { s with heap := h' }) :
    wpAny (model prog w) A (pyIter (.ref l)) Q E s := by
  refine wpAny_pyIter_range hr (small_one (by omega) (by omega) (by omega) (by omega)) ?_
  obtain ⟨a1, a2⟩ := frFresh F (Nat.le_refl _)
  have hk : ∀ b o, s.heap.get? b = some o → (s.heap.push { cls := .type "range_iterator", data := .fields #[rawInt 0, rawInt (Builtin.Range.rangeSize 0 n 1), rawInt 1] }).get? b = some o := fun b o e => Heap.get?_push_of_some _ e
  refine h _ _ a1 a2 (newsNe N (Nat.le_refl _)) ?_ (frKeep F hk) (newsKeep N hk) hk (by rw [Heap.size_push]; exact Nat.lt_succ_self _)
  have e : Builtin.Range.rangeSize 0 (n : Int) 1 = (n : Int) := by unfold Builtin.Range.rangeSize; simp; omega
  show IsRangeIter _ _ _ _ _
  rw [e]
  simpa using Heap.get?_push_size _ rfl
end
theorem newsUpd {g h h' : Heap} {L D : Addr} {o o' : Obj} {news news' : List (Addr × Obj)} (N : News g L h news) (U : Upd D o o' news news') (hs : Heap.SameBut D h h') (ho : h'.get? D = some o') : News g L h' news' := by
  obtain ⟨pre, post, rfl, rfl, a, b⟩ := U.split
  exact news_set N a b hs ho
theorem append_list {prog : Program} {w : World} {A : Around} {E : Value → Shared → Prop} {s : Shared} {Q : Value → Shared → Prop} {l : Addr} {vs : List Value} {n : Nat} {x : Value} (ho : s.heap.get? l = some (W.listOf vs.toArray n)) (hz : vs.length < 1000)
    (h : ∀ h', Heap.SameBut l s.heap h' → h'.get? l = some (W.listOf (vs ++ [x]).toArray (n + 1)) → Q .none { s with heap := h' }) : wpAny (model prog w) A (call (.builtin "list.append") [.ref l, x]) Q E s := by
  refine append_at (hsz := by rw [sizeLine_eq]; simp; omega) ho fun h' hs ho' => h h' hs ?_
  rw [ho']
  simp
end
section
set_option maxHeartbeats 4000000
theorem fillST (w : World) (h : Heap) : (Mine.hd.heap_1 w.params).In h → PySem.Challenge.rw_oc0123_01.most = some 63 := by
  k_fill
  intro _; rfl
local macro_rules | `(tactic| ktr_rel) => `(tactic| (repeat' (first
  | (walk_at "kA"; (fail_if_success (with_reducible first | refine gFor ?_ | refine gWhile ?_ | refine gIf ?_ | refine gSub ?_ | refine gSetitem ?_ | refine gCmpref1 ?_ | refine gCallref ?_)); walk1)
  | walk_at "kB")))

/-- what a file of an ask is -/
noncomputable def fileS : Nat → Str
  | 0 => "/s/a"
  | 1 => "/sa/a"
  | 2 => "/s/sa/a"
  | 3 => "/a"
  | _ => "/s"
noncomputable def fileV (f : Nat) (t : Tok) : Value := if f < 5 then .str (fileS f) t else .none
structure Ask where
  a : Addr
  h : Nat
  k : Nat
  r : Nat
  x : Nat
  f : Nat
structure Ask.Ok (q : Ask) : Prop where
  h : q.h < 6
  k : q.k < 2
  r : q.r < 2
  x : q.x < 64
  f : q.f < 6
def AskAt (h : Heap) (q : Ask) : Prop := ∃ t1 t2 t3 t4 t5 n, h.get? q.a = some ⟨.type "tuple", none, .seq #[.int q.h t1, .int q.k t2, .int q.r t3, .int q.x t4, fileV q.f t5] n, #[]⟩
theorem AskAt.keeps {h h' : Heap} {q : Ask} (t : AskAt h q) (k : ∀ o, h.get? q.a = some o → h'.get? q.a = some o) : AskAt h' q := by
  obtain ⟨a, b, c, d, e, n, z⟩ := t; exact ⟨a, b, c, d, e, n, k _ z⟩
noncomputable def kindN : Nat → Nat
  | 0 => 16384
  | _ => 32768
noncomputable def ownN : Nat → Nat
  | 0 => 320
  | _ => 2496
noncomputable def Ask.mode (q : Ask) : Nat := kindN q.k + ownN q.r + q.x
noncomputable def Ask.rights (q : Ask) : Nat := ownN q.r + q.x

section
variable {prog : Program} {w : World} {A : Around} {E : Value → Shared → Prop} {s : Shared} {Q : Value → Shared → Prop}
/-- an item of a tuple at a place within -/
theorem sub_tup {value slice : PySem.Expr} {l : Addr} {vs : List Value} {n : Nat} {k : Int} {u : Tok} {v : Value}
    (hl : s.heap.get? l = some ⟨.type "tuple", none, .seq vs.toArray n, #[]⟩) (h0 : 0 ≤ k) (hhi : k < 2 ^ 63) (hx : vs[k.toNat]? = some v) (h : Q v s)
    (hs : subscripted slice false (.ref l) (.int k u) = operate [.ref l, .int k u] (getItem (.ref l) (.int k u)) := by with_unfolding_all rfl) :
    wpAny (model prog w) A (subscriptTail value slice (.ref l) (.int k u)) Q E s := by
  have hlt : k.toNat < vs.length := (List.getElem?_eq_some_iff.mp hx).1
  refine item_tupleT (l := vs) ⟨_, hl, rfl, n, rfl⟩ (by omega) hhi (j := k.toNat) ?_ hx h hs
  unfold seqIndex?
  have e : (if k < 0 then k + (vs.length : Int) else k) = k := if_neg (by omega)
  simp only [e]
  rw [if_pos]
  simp
  omega
end
theorem two_nats {k : Nat} (h : k < 2) (a b : Int) (t u : Tok) : ∃ v, [Value.int a t, Value.int b u][k]? = some (.int (if k = 0 then a else b) v) := by
  match k, h with
  | 0, _ => exact ⟨t, rfl⟩
  | 1, _ => exact ⟨u, rfl⟩
theorem mode_ok {prog : Program} {w : World} {A : Around} {s : Shared} {h₀ : Heap} {mean : ExcName → Option Value} {mg mb : Str → Option Value} {loose : List Str} {E : Value → Shared → Prop} {Q : Value → Shared → Prop}
    (X : (Mine.hd.heap_1 w.params).In h₀) (T : Top Mine.view loose mean mg mb h₀) (kp : ∀ b o, h₀.get? b = some o → s.heap.get? b = some o)
    {q : Ask} (hq : AskAt s.heap q) (ok : q.Ok) (hroom : A.depth + 1 < recursionLimit) (hunit : A.units + 9 < cLine)
    (h : ∀ h' t tk, (∀ b o, s.heap.get? b = some o → h'.get? b = some o) → Q (.int q.mode t) { s with heap := h', toks := tk }) :
    wpAny (model prog w) A (call (.ref 186) [.ref q.a]) Q E s := by
  refine' enter (binds := [("ask", .ref q.a)]) [] X T kp ?hm ?ho ?hcd (by first | exact dr hroom | omega) ?hbind ?hloc ?hcell ?hco ?hgen ?hk ?_
  case ho => k_is
  case hcd => k_is
  case hbind => exact BindsTo.of_eq rfl
  case hloc => exact locs rfl
  case hcell => decide
  case hco => rfl
  case hgen => rfl
  case hk => rfl
  case hm => intro q hq; cases hq
  intro g L h₁ F N X' T' kg
  clear X T kp
  obtain ⟨u1, u2, u3, u4, u5, n, hq'⟩ := hq.keeps (h' := g) fun o => kg _ o (by simp)
  have h1 := ok.k
  have h2 := ok.r
  ktr_rel
  rename Fr _ _ _ _ => F1
  rename News _ _ _ _ => N1
  refine sub_tup (F1.keep _ _ hq') (by first | exact Int.natCast_nonneg _ | decide | omega) (by first | decide | exact n63 (by assumption) | omega) rfl ?_
  ktr_rel
  refine sub_tup (N1 _ (.head _)).1 (by first | exact Int.natCast_nonneg _ | decide | omega) (by first | decide | exact n63 (by assumption) | omega) (two_nats h1 _ _ _ _).choose_spec ?_
  ktr_rel
  rename Fr _ _ _ _ => F2
  rename News _ _ _ _ => N2
  refine sub_tup (F2.keep _ _ hq') (by first | exact Int.natCast_nonneg _ | decide | omega) (by first | decide | exact n63 (by assumption) | omega) rfl ?_
  ktr_rel
  refine sub_tup (N2 _ (.head _)).1 (by first | exact Int.natCast_nonneg _ | decide | omega) (by first | decide | exact n63 (by assumption) | omega) (two_nats h2 _ _ _ _).choose_spec ?_
  ktr_rel
  refine sub_tup (F2.keep _ _ hq') (by first | exact Int.natCast_nonneg _ | decide | omega) (by first | decide | exact n63 (by assumption) | omega) rfl ?_
  ktr_rel
  have e : (if q.k = 0 then (16384 : Int) else 32768) + (if q.r = 0 then 320 else 2496) + (q.x : Int) = (q.mode : Int) := by
    unfold Ask.mode
    match q.k, h1, q.r, h2 with
    | 0, _, 0, _ => simp [kindN, ownN]
    | 0, _, 1, _ => simp [kindN, ownN]
    | 1, _, 0, _ => simp [kindN, ownN]
    | 1, _, 1, _ => simp [kindN, ownN]
  rw [e]
  exact h _ _ _ fun b o z => F2.keep _ _ (kg b o (by simp) z)
theorem imode_nat : ∀ (k : Fin 2) (r : Fin 2) (x : Fin 64), Builtin.bitAnd ((kindN k + ownN r + x : Nat) : Int) 4095 = ((ownN r + x : Nat) : Int) := by decide +kernel
theorem imode_ok {prog : Program} {w : World} {A : Around} {s : Shared} {h₀ : Heap} {mean : ExcName → Option Value} {mg mb : Str → Option Value} {loose : List Str} {E : Value → Shared → Prop} {Q : Value → Shared → Prop}
    (X : (Mine.hd.heap_1 w.params).In h₀) (T : Top Mine.view loose mean mg mb h₀) (kp : ∀ b o, h₀.get? b = some o → s.heap.get? b = some o)
    {q : Ask} (ok : q.Ok) {t0 : Tok} (hroom : A.depth + 1 < recursionLimit) (hunit : A.units + 9 < cLine)
    (h : ∀ h' t tk, (∀ b o, s.heap.get? b = some o → h'.get? b = some o) → Q (.int q.rights t) { s with heap := h', toks := tk }) :
    wpAny (model prog w) A (call (.ref 63) [.int q.mode t0]) Q E s := by
  refine' enter (binds := [("mode", .int q.mode t0)]) [] X T kp ?hm ?ho ?hcd (by first | exact dr hroom | omega) ?hbind ?hloc ?hcell ?hco ?hgen ?hk ?_
  case ho => k_is
  case hcd => k_is
  case hbind => exact BindsTo.of_eq rfl
  case hloc => exact locs rfl
  case hcell => decide
  case hco => rfl
  case hgen => rfl
  case hk => rfl
  case hm => intro q hq; cases hq
  intro g L h₁ F N X' T' kg
  clear X T kp
  ktr_rel
  have e : Builtin.bitAnd (q.mode : Int) 4095 = (q.rights : Int) := by
    have := imode_nat ⟨q.k, ok.k⟩ ⟨q.r, ok.r⟩ ⟨q.x, ok.x⟩
    exact this
  rw [e]
  exact h _ _ _ fun b o z => F.keep _ _ (kg b o (by simp) z)
theorem ifmt_ok {prog : Program} {w : World} {A : Around} {s : Shared} {h₀ : Heap} {mean : ExcName → Option Value} {mg mb : Str → Option Value} {loose : List Str} {E : Value → Shared → Prop} {Q : Value → Shared → Prop}
    (X : (Mine.hd.heap_1 w.params).In h₀) (T : Top Mine.view loose mean mg mb h₀) (kp : ∀ b o, h₀.get? b = some o → s.heap.get? b = some o)
    {mode : Int} {t0 : Tok} (hroom : A.depth + 1 < recursionLimit) (hunit : A.units + 9 < cLine)
    (h : ∀ h' t tk, (∀ b o, s.heap.get? b = some o → h'.get? b = some o) → Q (.int (Builtin.bitAnd mode 61440) t) { s with heap := h', toks := tk }) :
    wpAny (model prog w) A (call (.ref 70) [.int mode t0]) Q E s := by
  refine' enter (binds := [("mode", .int mode t0)]) [] X T kp ?hm ?ho ?hcd (by first | exact dr hroom | omega) ?hbind ?hloc ?hcell ?hco ?hgen ?hk ?_
  case ho => k_is
  case hcd => k_is
  case hbind => exact BindsTo.of_eq rfl
  case hloc => exact locs rfl
  case hcell => decide
  case hco => rfl
  case hgen => rfl
  case hk => rfl
  case hm => intro q hq; cases hq
  intro g L h₁ F N X' T' kg
  clear X T kp
  ktr_rel
  exact h _ _ _ fun b o z => F.keep _ _ (kg b o (by simp) z)
/-- the table of filemode, as it lies -/
noncomputable def fmTab : List (Addr × List (Addr × Int × Str)) := [
  (78, [(71, 40960, "l"), (72, 49152, "s"), (73, 32768, "-"), (74, 24576, "b"), (75, 16384, "d"), (76, 8192, "c"), (77, 4096, "p")]),
  (80, [(79, 256, "r")]), (82, [(81, 128, "w")]), (86, [(83, 2112, "s"), (84, 2048, "S"), (85, 64, "x")]),
  (88, [(87, 32, "r")]), (90, [(89, 16, "w")]), (94, [(91, 1032, "s"), (92, 1024, "S"), (93, 8, "x")]),
  (96, [(95, 4, "r")]), (98, [(97, 2, "w")]), (102, [(99, 513, "t"), (100, 512, "T"), (101, 1, "x")])]
noncomputable def fmHit (mode : Int) (i : Nat) (bit : Int) : Bool := if i = 0 then Builtin.bitAnd mode 61440 == bit else Builtin.bitAnd mode bit == bit
noncomputable def fmPick (mode : Int) (i : Nat) : List (Addr × Int × Str) → Str
  | [] => if i = 0 then ("?" : Str) else ("-" : Str)
  | (_, bit, c) :: r => if fmHit mode i bit then c else fmPick mode i r
noncomputable def fmCh (mode : Int) (i : Nat) : Str := match fmTab[i]? with
  | some row => fmPick mode i row.2
  | none => ""
structure FmAt (h : Heap) : Prop where
  top : h.IsTuple 103 (List.toArray (fmTab.map fun r => Value.ref r.1))
  row : ∀ r ∈ fmTab, h.IsTuple r.1 (List.toArray (r.2.map fun e => Value.ref e.1))
  ent : ∀ r ∈ fmTab, ∀ e ∈ r.2, ∃ t u, h.IsTuple e.1 #[.int e.2.1 t, .str e.2.2 u]
theorem FmAt.of {w : World} {h : Heap} (X : (Mine.hd.heap_1 w.params).In h) : FmAt h := by
  refine ⟨⟨_, X _ _ (by k_is), rfl, _, rfl⟩, ?_, ?_⟩
  · intro r hr
    simp only [fmTab, List.mem_cons, List.not_mem_nil, or_false] at hr
    rcases hr with rfl | rfl | rfl | rfl | rfl | rfl | rfl | rfl | rfl | rfl <;> exact ⟨_, X _ _ (by k_is), rfl, _, rfl⟩
  · intro r hr e he
    simp only [fmTab, List.mem_cons, List.not_mem_nil, or_false] at hr
    rcases hr with rfl | rfl | rfl | rfl | rfl | rfl | rfl | rfl | rfl | rfl <;>
      (simp only [List.mem_cons, List.not_mem_nil, or_false] at he
       (try rcases he with rfl | rfl | rfl | rfl | rfl | rfl | rfl) <;> (try rcases he with rfl | rfl | rfl) <;> (try subst he) <;> exact ⟨_, _, _, X _ _ (by k_is), rfl, _, rfl⟩)
end
section
set_option maxHeartbeats 1000000
theorem fillFM (w : World) (h : Heap) : (Mine.hd.heap_1 w.params).In h → PySem.Challenge.rw_oc0123_01.most = some 63 := by
  k_fill
  intro _; rfl
local macro_rules | `(tactic| ktr_rel) => `(tactic| (repeat' (first
  | (walk_at "kA"; (fail_if_success (with_reducible first | refine gFor ?_ | refine gWhile ?_ | refine gIf ?_ | refine gSub ?_ | refine gSetitem ?_ | refine gCmpref1 ?_ | refine gCallref ?_ | refine gCalltype ?_ | refine gNewlist ?_)); walk1)
  | walk_at "kB")))
theorem strs_snoc {vs : List Value} {xs : List Str} (h : StrsAre vs xs) (x : Str) (t : Tok) : StrsAre (vs ++ [.str x t]) (xs ++ [x]) := by
  induction h with
  | nil => exact .cons _ _ .nil
  | cons y u _ ih => exact .cons _ _ ih
theorem tup_keep {g h h' : Heap} {a : Addr} {items : Array Value} (_ : h.IsTuple a items) (t : g.IsTuple a items) (k : ∀ b o, g.get? b = some o → h'.get? b = some o) : h'.IsTuple a items := by
  obtain ⟨o, ho, r⟩ := t; exact ⟨o, k _ _ ho, r⟩
theorem strs_len {vs : List Value} {xs : List Str} (h : StrsAre vs xs) : vs.length = xs.length := by
  induction h with
  | nil => rfl
  | cons y u _ ih => simp [ih]
noncomputable def fm (mode : Int) : Str := Txt.join "" ((List.range 10).map (fmCh mode))
theorem fmPick_len (mode : Int) (i : Nat) : ∀ l : List (Addr × Int × Str), (∀ e ∈ l, e.2.2.length ≤ 1) → (fmPick mode i l).length ≤ 1
  | [], _ => by unfold fmPick; split <;> decide
  | (a, b, c) :: r, h => by
    unfold fmPick
    split
    · exact h _ (.head _)
    · exact fmPick_len mode i r fun e he => h e (.tail _ he)
theorem fmTab_len : ∀ r ∈ fmTab, ∀ e ∈ r.2, e.2.2.length ≤ 1 := by decide +kernel
theorem fmCh_len (mode : Int) (i : Nat) : (fmCh mode i).length ≤ 1 := by
  unfold fmCh
  split
  · rename_i row hr
    exact fmPick_len mode i _ (fmTab_len row (List.mem_of_getElem? hr))
  · decide
inductive FmR (g : Heap) (L pl : Addr) (mode : Int) (s : Shared) (r : Except Value Flow) (s' : Shared) : Prop where
  | mk (h' : Heap) (nn tk : Nat) (m : Str → Option Value) (pv : List Value) (e1 : r = .ok .next) (e2 : s' = { s with heap := h', toks := tk }) (F : Fr g L h' m) (N : News g L h' [(pl, W.listOf (List.toArray pv) nn)])
    (m1 : m "perm" = some (.ref pl)) (hs : StrsAre pv ((List.range 10).map (fmCh mode)))
inductive FmI (g : Heap) (L pl : Addr) (mode : Int) (t0 : Tok) (s : Shared) (i : Nat) (s' : Shared) : Prop where
  | mk (h' : Heap) (nn tk : Nat) (m : Str → Option Value) (pv : List Value) (e2 : s' = { s with heap := h', toks := tk }) (F : Fr g L h' m) (N : News g L h' [(pl, W.listOf (List.toArray pv) nn)])
    (m1 : m "perm" = some (.ref pl)) (m2 : m "mode" = some (.int mode t0)) (hs : StrsAre pv ((List.range i).map (fmCh mode)))
noncomputable abbrev fmEn (i : Nat) (it : Addr) (old : Value) : Obj := { cls := Value.type "enumerate", data := Data.fields #[Value.none, Value.bool false, Value.ref it, rawInt ((i + 1 : Nat) : Int), Value.none, old] }
inductive FmB (g : Heap) (L pl e it : Addr) (oi : Obj) (old : Value) (i : Nat) (pv : List Value) (mode : Int) (t0 : Tok) (s : Shared) (s' : Shared) : Prop where
  | mk (h' : Heap) (nn' tk : Nat) (m' : Str → Option Value) (u : Tok) (e2 : s' = { s with heap := h', toks := tk }) (F : Fr g L h' m')
    (N : News g L h' [(e, fmEn i it old), (it, oi), (pl, W.listOf (List.toArray (pv ++ [.str (fmCh mode i) u])) nn')]) (m1 : m' "perm" = some (.ref pl)) (m2 : m' "mode" = some (.int mode t0))
inductive FmJ (g : Heap) (L pl e it : Addr) (oi : Obj) (old : Value) (i : Nat) (pv : List Value) (nn : Nat) (mode : Int) (t0 t : Tok) (row : List (Addr × Int × Str)) (s : Shared) (j : Nat) (s' : Shared) : Prop where
  | mk (h' : Heap) (tk : Nat) (m' : Str → Option Value) (e2 : s' = { s with heap := h', toks := tk }) (F : Fr g L h' m') (N : News g L h' [(e, fmEn i it old), (it, oi), (pl, W.listOf (List.toArray pv) nn)])
    (m1 : m' "perm" = some (.ref pl)) (m2 : m' "mode" = some (.int mode t0)) (m3 : m' "index" = some (.int (i : Nat) t)) (e : fmPick mode i (row.drop j) = fmCh mode i)
theorem filemode_ok {prog : Program} {w : World} {A : Around} {s : Shared} {h₀ : Heap} {mean : ExcName → Option Value} {mg mb : Str → Option Value} {loose : List Str} {E : Value → Shared → Prop} {Q : Value → Shared → Prop}
    (X : (Mine.hd.heap_1 w.params).In h₀) (T : Top Mine.view loose mean mg mb h₀) (kp : ∀ b o, h₀.get? b = some o → s.heap.get? b = some o)
    {mode : Int} {t0 : Tok} (hhd : A.handled = none) (hroom : A.depth + 5 < recursionLimit) (hunit : A.units + 30 < cLine)
    (h : ∀ h' t tk, (∀ b o, s.heap.get? b = some o → h'.get? b = some o) → Q (.str (fm mode) t) { s with heap := h', toks := tk }) :
    wpAny (model prog w) A (call (.ref 110) [.int mode t0]) Q E s := by
  refine' enter (binds := [("mode", .int mode t0)]) [] X T kp ?hm ?ho ?hcd (by first | exact dr hroom | omega) ?hbind ?hloc ?hcell ?hco ?hgen ?hk ?_
  case ho => k_is
  case hcd => k_is
  case hbind => exact BindsTo.of_eq rfl
  case hloc => exact locs rfl
  case hcell => decide
  case hco => rfl
  case hgen => rfl
  case hk => rfl
  case hm => intro q hq; cases hq
  intro g L h₁ F N X' T' kg
  clear X T kp
  have fa := FmAt.of X'
  ktr_rel
  refine newList_K F N fun pl h2 F1 N1 _ => ?_
  clear F N
  ktr_rel
  rename Fr _ _ _ _ => F1
  rename News _ _ _ _ => N1
  refine wpAny_For ?_
  ktr_rel
  refine enum_start F1 N1 (F1.keep _ _ (X' _ _ (by k_is))) fun e it h2 q1 q2 q3 q4 q5 q6 q7 q8 q9 he hit htp F2 N2 => ?_
  clear F1 N1
  refine' codeAny_mono (for_ruleT (R := FmR g L pl mode s) ?W (FmI g L pl mode t0 s) ?hst ?h0 ?jn ?turn ?done) ?after
  case W => exact walksEnumTup (by exact hhd) e it 103 q1 q2 q3 (List.toArray (fmTab.map fun r => Value.ref r.1))
  case hst => exact ⟨⟨_, he⟩, hit, htp⟩
  case h0 => exact ⟨_, 0, _, _, [], rfl, F2, N2, rfl, rfl, .nil⟩
  case jn =>
    rintro i s1 h' tk hi ⟨h1, nn, tk1, m, pv, rfl, F3, N3, m1, m2, hs⟩ hk
    refine ⟨h', nn, tk, m, pv, rfl, frWr F3 hk ?_ ?_, newsWr N3 hk ?_, m1, m2, hs⟩
    · simp; exact ⟨Ne.symm q4, Ne.symm q5⟩
    · simp; exact ⟨q6, q7⟩
    · simp at q8 q9 ⊢; exact ⟨q8, q9⟩
  case done =>
    rintro s1 ⟨h1, nn, tk1, m, pv, rfl, F3, N3, m1, m2, hs⟩
    clear F2 N2
    ktr_rel
    exact ⟨_, nn, _, m, pv, rfl, rfl, F3, N3, m1, hs⟩
  case after =>
    rintro r s1 ⟨h1, nn, tk1, m, pv, rfl, rfl, F3, N3, m1, hs⟩
    clear F2 N2
    ktr_rel
    refine join_listW (D := pl) (items := List.toArray pv) (ys := (List.range 10).map (fmCh mode)) ⟨_, (N3 _ (.head _)).1, rfl, nn, rfl⟩ hs (by decide) ?_ ?_
    · have h10 : ∀ (l : List Nat), ((l.map (fmCh mode)).map (·.length)).sum ≤ l.length := by
        intro l
        induction l with
        | nil => exact Nat.le_refl _
        | cons a r ih => have := fmCh_len mode a; simp only [List.map_cons, List.sum_cons, List.length_cons]; omega
      have := h10 (List.range 10)
      simp only [List.length_map, List.length_range] at this ⊢
      omega
    · exact fun t tk => h _ t tk fun b o z => F3.keep _ _ (kg b o (by simp) z)
  case turn =>
    rintro i T vals s1 hi ⟨t, x, hx, rfl⟩ hT ⟨h1, nn, tk1, m, pv, rfl, F3, N3, m1, m2, hs⟩ hS
    clear F2 N2 he hit htp
    obtain ⟨⟨old, he⟩, ⟨oi, hoi, hoc, hod⟩, htp⟩ := hS
    have N4 := newsMore (newsMore N3 hoi q5 q7) he q4 q6
    clear N3
    obtain ⟨row, hrow⟩ : ∃ row, fmTab[i]? = some row := ⟨fmTab[i]'(by simpa using hi), by simp⟩
    have hx' : x = .ref row.1 := by
      simp [hrow] at hx
      exact hx.symm
    subst hx'
    refine wpAny_assign_Tuple hhd hT rfl rfl fun h5 e5 => ?_
    have F5 := frExt F3 e5
    have N5 := newsExt N4 e5
    clear F3 N4
    have p1 : @Ne Nat pl e := q8 _ (.head _)
    have p2 : @Ne Nat pl it := q9 _ (.head _)
    have hrm : row ∈ fmTab := List.mem_of_getElem? hrow
    have hpv : pv.length < 1000 := by have := strs_len hs; have hi' : i < 10 := hi; simp at this; omega
    have hch : fmCh mode i = fmPick mode i row.2 := by unfold fmCh; rw [hrow]
    ktr_rel
    rename Fr _ _ _ _ => F6
    rename News _ _ _ _ => N6
    refine wpAny_mono (Q := fun f s' => f = Flow.next ∧ FmB g L pl e it oi old i pv mode t0 s s') (E := fun _ _ => False) ?inner ?post (fun _ _ h => h.elim)
    case post =>
      rintro f s' ⟨rfl, h7, nn7, tk7, m7, u, rfl, F7, N7, r1, r2⟩
      clear F6 N6
      ktr_rel
      refine ⟨⟨h7, nn7, tk7, m7, _, rfl, F7, newsTail (newsTail N7), r1, r2, ?_⟩, ⟨old, (N7 _ (.head _)).1⟩, ⟨oi, (N7 _ (.tail _ (.head _))).1, hoc, hod⟩, ?_⟩
      · rw [List.range_succ, List.map_append]
        exact strs_snoc hs _ _
      · obtain ⟨o, ho, r⟩ := fa.top
        exact ⟨o, F7.keep _ _ ho, r⟩
    case inner =>
      refine wpAny_For ?_
      ktr_rel
      refine tup_start (n := 0) F6 N6 (l := row.1) (items := List.toArray (row.2.map fun e => Value.ref e.1)) ?_ fun it2 h7 w1 w2 w3 w4 hit2 htp2 F7 N7 _ => ?_
      · obtain ⟨o, ho, r⟩ := fa.row row hrm
        exact ⟨o, F6.keep _ _ ho, r⟩
      clear F6 N6
      have w5 : @Ne Nat e it2 := w4 _ (.head _)
      have w6 : @Ne Nat it it2 := w4 _ (.tail _ (.head _))
      have w7 : @Ne Nat pl it2 := w4 _ (.tail _ (.tail _ (.head _)))
      refine' codeAny_mono (for_rule (R := fun r s' => r = .ok .next ∧ FmB g L pl e it oi old i pv mode t0 s s') ?W (FmJ g L pl e it oi old i pv nn mode t0 t row.2 s) ?hgo ?hst ?h0 ?jn ?turn ?done) ?after
      case W => exact Walks.tuple (by exact hhd) it2 row.1 w1 (List.toArray (row.2.map fun e => Value.ref e.1))
      case hgo =>
        intro i v s₁ Q E hS hQ
        obtain ⟨o, ho, hc, hd⟩ := hS.1
        exact go_plain (by decide) ho hc hd hQ
      case hst => exact ⟨hit2, htp2⟩
      case h0 => exact ⟨h7, _, _, rfl, F7, N7, by ktr_unf, by ktr_unf, by ktr_unf, by rw [hch]; rfl⟩
      case jn =>
        rintro j s1 h' tk hj ⟨h8, tk8, m8, rfl, F8, N8, r1, r2, r3, r4⟩ _ hk
        refine ⟨h', tk, m8, rfl, frWr F8 hk (by simpa using Ne.symm w2) (by simpa using w3), newsWr N8 hk ?_, r1, r2, r3, r4⟩
        simp
        exact ⟨w5, w6, w7⟩
      case after =>
        rintro r s1 ⟨rfl, hh⟩
        exact ⟨rfl, hh⟩
      case done =>
        rintro s1 ⟨h8, tk8, m8, rfl, F8, N8, r1, r2, r3, r4⟩
        clear F7 N7
        have r5 : fmCh mode i = if i = 0 then ("?" : Str) else ("-" : Str) := by
          rw [← r4, List.drop_of_length_le (by simp)]; rfl
        ktr_rel
        refine wpAny_If ?_
        ktr_rel
        by_cases h0 : i = 0
        · rw [show ((i : Int) == 0) = true by simp [h0]]
          rw [if_pos h0] at r5
          ktr_rel
          rename Fr _ _ _ _ => F9
          rename News _ _ _ _ => N9
          rw [List.push_toArray] at N9
          exact ⟨rfl, _, _, _, _, _, rfl, F9, by rw [r5]; exact N9, r1, r2⟩
        · rw [show ((i : Int) == 0) = false by simp [h0]]
          rw [if_neg h0] at r5
          ktr_rel
          rename Fr _ _ _ _ => F9
          rename News _ _ _ _ => N9
          rw [List.push_toArray] at N9
          exact ⟨rfl, _, _, _, _, _, rfl, F9, by rw [r5]; exact N9, r1, r2⟩
      case turn =>
        rintro j v s1 hj hv ⟨h8, tk8, m8, rfl, F8, N8, r1, r2, r3, r4⟩ hS
        clear F7 N7
        obtain ⟨⟨o2, ho2, hc2, hd2⟩, htp3⟩ := hS
        have hj' : j < row.2.length := by simpa using hj
        obtain ⟨en, hen⟩ : ∃ en, row.2[j]? = some en := ⟨row.2[j]'hj', by simp⟩
        have hv' : v = .ref en.1 := by simp [hen] at hv; exact hv.symm
        subst hv'
        have hdrop : row.2.drop j = en :: row.2.drop (j + 1) := by
          rw [List.drop_eq_getElem_cons hj']
          congr 1
          exact (List.getElem?_eq_some_iff.mp hen).2
        obtain ⟨b1, b2, b3⟩ := en
        have r5 : fmCh mode i = if fmHit mode i b2 then b3 else fmPick mode i (row.2.drop (j + 1)) := by rw [← r4, hdrop]; rfl
        obtain ⟨u1, u2, oe, hoe, hoec, kk, hoed⟩ := fa.ent row hrm _ (List.mem_of_getElem? hen)
        have N9 := newsMore N8 ho2 w2 w3
        clear N8
        refine wpAny_assign_Tuple hhd ⟨oe, F8.keep _ _ hoe, hoec, kk, hoed⟩ rfl rfl fun h9 e9 => ?_
        have F10 := frExt F8 e9
        have N10 := newsExt N9 e9
        clear F8 N9
        ktr_rel
        refine wpAny_If ?_
        ktr_rel
        by_cases h0 : i = 0
        · rw [show ((i : Int) == 0) = true by simp [h0]]
          ktr_rel
          refine wpAny_If ?_
          ktr_rel
          rename Fr _ _ _ _ => F11
          rename News _ _ _ _ => N11
          refine ifmt_ok X' T' F11.keep (by show A.depth + 1 + 1 < recursionLimit; exact dl hroom) (by show A.units + 3 + 9 < cLine; exact dl hunit) fun h12 t12 tk12 k12 => ?_
          have F12 := frKeep F11 k12
          have N12 := newsKeep N11 k12
          clear F11 N11
          ktr_rel
          have hh1 : fmHit mode i b2 = (Builtin.bitAnd mode 61440 == b2) := if_pos h0
          cases hit : Builtin.bitAnd mode 61440 == b2 with
          | true =>
            rw [hh1, hit, if_pos rfl] at r5
            ktr_rel
            rename Fr _ _ _ _ => F13
            rename News _ _ _ _ => N13
            rw [List.push_toArray] at N13
            dsimp only
            exact ⟨trivial, _, _, _, _, _, rfl, F13, by rw [r5]; exact newsTail N13, by ktr_unf, by ktr_unf⟩
          | false =>
            rw [hh1, hit, if_neg (by simp)] at r5
            ktr_rel
            dsimp only
            exact ⟨⟨_, _, _, rfl, F12, newsTail N12, by ktr_unf, by ktr_unf, by ktr_unf, r5.symm⟩, ⟨o2, (N12 _ (.head _)).1, hc2, hd2⟩, tup_keep htp3 (fa.row row hrm) F12.keep⟩
        · rw [show ((i : Int) == 0) = false by simp [h0]]
          ktr_rel
          refine wpAny_If ?_
          ktr_rel
          rename Fr _ _ _ _ => F12
          rename News _ _ _ _ => N12
          have hh1 : fmHit mode i b2 = (Builtin.bitAnd mode b2 == b2) := if_neg h0
          cases hit : Builtin.bitAnd mode b2 == b2 with
          | true =>
            rw [hh1, hit, if_pos rfl] at r5
            ktr_rel
            rename Fr _ _ _ _ => F13
            rename News _ _ _ _ => N13
            rw [List.push_toArray] at N13
            dsimp only
            exact ⟨trivial, _, _, _, _, _, rfl, F13, by rw [r5]; exact newsTail N13, by ktr_unf, by ktr_unf⟩
          | false =>
            rw [hh1, hit, if_neg (by simp)] at r5
            ktr_rel
            dsimp only
            exact ⟨⟨_, _, _, rfl, F12, newsTail N12, by ktr_unf, by ktr_unf, by ktr_unf, r5.symm⟩, ⟨o2, (N12 _ (.head _)).1, hc2, hd2⟩, tup_keep htp3 (fa.row row hrm) F12.keep⟩
end
section
set_option maxHeartbeats 1000000
theorem fillLN (w : World) (h : Heap) : (Mine.hd.heap_1 w.params).In h → PySem.Challenge.rw_oc0123_01.most = some 63 := by
  k_fill
  intro _; rfl
local macro_rules | `(tactic| ktr_rel) => `(tactic| (repeat' (first
  | (walk_at "kA"; (fail_if_success (with_reducible first | refine gFor ?_ | refine gWhile ?_ | refine gIf ?_ | refine gSub ?_ | refine gSetitem ?_ | refine gCmpref1 ?_ | refine gCallref ?_ | refine gCalltype ?_ | refine gNewlist ?_)); walk1)
  | walk_at "kB")))
noncomputable def nameS (k r : Nat) : Str := if k = 0 then (if r = 0 then ("d.r-x" : Str) else ("d.rws" : Str)) else (if r = 0 then ("-.r-x" : Str) else ("-.rws" : Str))
theorem fm_fin : ∀ (k : Fin 2) (r : Fin 2) (x : Fin 64), (Txt.item (fm ((kindN k + ownN r + x : Nat) : Int)) 0 ++ "." ++ Txt.slice (fm ((kindN k + ownN r + x : Nat) : Int)) (some 1) (some 4) : Str) = nameS k r ∧ (fm ((kindN k + ownN r + x : Nat) : Int)).length = 10 := by decide +kernel
theorem fm_name (q : Ask) (ok : q.Ok) : (Txt.item (fm q.mode) 0 ++ "." ++ Txt.slice (fm q.mode) (some 1) (some 4) : Str) = nameS q.k q.r ∧ (fm q.mode).length = 10 :=
  fm_fin ⟨q.k, ok.k⟩ ⟨q.r, ok.r⟩ ⟨q.x, ok.x⟩
theorem name_ok {prog : Program} {w : World} {A : Around} {s : Shared} {h₀ : Heap} {mean : ExcName → Option Value} {mg mb : Str → Option Value} {loose : List Str} {E : Value → Shared → Prop} {Q : Value → Shared → Prop}
    (X : (Mine.hd.heap_1 w.params).In h₀) (T : Top Mine.view loose mean mg mb h₀) (kp : ∀ b o, h₀.get? b = some o → s.heap.get? b = some o)
    {q : Ask} (hq : AskAt s.heap q) (ok : q.Ok) (hhd : A.handled = none) (hroom : A.depth + 8 < recursionLimit) (hunit : A.units + 50 < cLine)
    (h : ∀ h' t tk, (∀ b o, s.heap.get? b = some o → h'.get? b = some o) → Q (.str (nameS q.k q.r) t) { s with heap := h', toks := tk }) :
    wpAny (model prog w) A (call (.ref 193) [.ref q.a]) Q E s := by
  refine' enter (binds := [("ask", .ref q.a)]) [] X T kp ?hm ?ho ?hcd (by first | exact dr hroom | omega) ?hbind ?hloc ?hcell ?hco ?hgen ?hk ?_
  case ho => k_is
  case hcd => k_is
  case hbind => exact BindsTo.of_eq rfl
  case hloc => exact locs rfl
  case hcell => decide
  case hco => rfl
  case hgen => rfl
  case hk => rfl
  case hm => intro q hq; cases hq
  intro g L h₁ F N X' T' kg
  clear X T kp
  have hq' := hq.keeps (h' := g) fun o => kg _ o (by simp)
  ktr_rel
  refine mode_ok X' T' F.keep (hq'.keeps fun o => F.keep _ o) ok (by show A.depth + 1 + 1 < recursionLimit; exact dl hroom) (by show A.units + 3 + 9 < cLine; exact dl hunit) fun h2 t2 tk2 k2 => ?_
  have F2 := frKeep F k2
  have N2 := newsKeep N k2
  clear F N
  ktr_rel
  refine filemode_ok X' T' F2.keep (by exact hhd) (by show A.depth + 1 + 5 < recursionLimit; exact dl hroom) (by show A.units + 3 + 30 < cLine; exact dl hunit) fun h3 t3 tk3 k3 => ?_
  have F3 := frKeep F2 k3
  have N3 := newsKeep N2 k3
  clear F2 N2
  ktr_rel
  obtain ⟨hfin, hlen⟩ := fm_name q ok
  refine item_str (x := fm q.mode) (by decide) (by rw [hlen]; decide) (by rw [hlen]; decide) (fun hl1 => ?_)
  ktr_rel
  rename Fr _ _ _ _ => F4
  rename News _ _ _ _ => N4
  refine slice_strN_ss_len F4 N4 (fun h5 t5 tk5 F5 N5 hl5 => ?_) (hsz := by rw [hlen, sizeLine_eq]; omega)
  ktr_rel
  rw [hfin]
  exact h _ _ _ fun b o z => F5.keep _ _ (kg b o (by simp) z)
end
section
set_option maxHeartbeats 1000000

section
variable {prog : Program} {w : World} {A : Around} {E : Value → Shared → Prop} {s : Shared} {R : Result → Shared → Prop} {target : PySem.Expr} {body : List Stmt} {env : Env} {g : Heap} {L l : Addr} {m : Str → Option Value} {news : List (Addr × Obj)}
/-- what a turn's body must leave -/
def Turned (s : Shared) (g : Heap) (L it : Addr) (oi : Obj) (K : Heap → Prop) (J : (Str → Option Value) → List (Addr × Obj) → Prop) (R : Result → Shared → Prop) (f : Flow) (s₃ : Shared) : Prop :=
  match f with
  | .next | .cont => ∃ h' tk' m' news', s₃ = { s with heap := h', toks := tk' } ∧ Fr g L h' m' ∧ News g L h' ((it, oi) :: news') ∧ (∀ p ∈ news', @Ne Nat p.1 it) ∧ K h' ∧ J m' news'
  | .brk => R (.ok .next) s₃
  | .ret v => R (.ok (.ret v)) s₃
theorem loop_list {items : Array Value} (hh : A.handled = none) (F : Fr g L s.heap m) (N : News g L s.heap news) (hl : s.heap.IsList l items)
    (hgo : ∀ (it : Addr) (v : Value) (s₁ : Shared) (o : Obj) (vs : Array Value) (Q : Unit → Shared → Prop) (E : Value → Shared → Prop), s₁.heap.get? it = some o → o.cls = .type "list_iterator" → o.data = .fields vs → Q () s₁ → wpAny (model prog w) A (letOwnedTupleGo target (.ref it) v) Q E s₁)
    (J : Nat → (Str → Option Value) → List (Addr × Obj) → Prop) (h0 : J 0 m news)
    (turn : ∀ i v it oi h tk m₁ news₁, items[i]? = some v → J i m₁ news₁ → (∀ p ∈ news₁, @Ne Nat p.1 it) → @Ne Nat l it → h.IsList l items → Fr g L h m₁ → News g L h ((it, oi) :: news₁) →
      wpAny (model prog w) A (assign target env v) (fun _ s₂ => wpAny (model prog w) A (execs body env) (Turned s g L it oi (fun h' => h'.IsList l items) (J (i + 1)) R) (fun _ _ => False) s₂) (fun _ _ => False) { s with heap := h, toks := tk })
    (done : ∀ h tk m₁ news₁, Fr g L h m₁ → News g L h news₁ → J items.size m₁ news₁ → R (.ok .next) { s with heap := h, toks := tk }) :
    wpAny (model prog w) A (pyIter (.ref l)) (fun it s₂ => codeAny (model prog w) A (.forLoop target it body [] env) R s₂) E s := by
  refine list_start F N hl fun it h' n1 n2 n3 n4 hit hl' F' N' _ _ => ?_
  refine for_rule (Walks.list hh it l n1 items) (fun i s' => ∃ h tk m₁ news₁, s' = { s with heap := h, toks := tk } ∧ Fr g L h m₁ ∧ News g L h news₁ ∧ (∀ p ∈ news₁, @Ne Nat p.1 it) ∧ J i m₁ news₁) ?hgo ⟨hit, hl'⟩ ⟨h', _, m, news, rfl, F', N', n4, h0⟩ ?jn ?turn ?done
  case hgo =>
    intro i v s₁ Q E hS hQ
    obtain ⟨o, ho, hc, hd⟩ := hS.1
    exact hgo it v s₁ o _ Q E ho hc hd hQ
  case jn =>
    rintro i s1 h2 tk hi ⟨h1, tk1, m1, news1, rfl, F1, N1, hn, hJ⟩ _ hk
    exact ⟨h2, tk, m1, news1, rfl, frWr F1 hk (by simpa using Ne.symm n2) (by simpa using n3), newsWr N1 hk (by simpa using hn), hn, hJ⟩
  case turn =>
    rintro i v s1 hi hP ⟨h1, tk1, m1, news1, rfl, F1, N1, hn, hJ⟩ hS
    obtain ⟨⟨oi, ho, hc, hd⟩, hli⟩ := hS
    refine wpAny_mono (turn i v it oi h1 tk1 m1 news1 hP hJ hn n1 hli F1 (newsMore N1 ho n2 n3)) (fun _ s2 h2 => ?_) fun _ _ e => e
    refine wpAny_mono h2 (fun f s3 h3 => ?_) fun _ _ e => e
    cases f with
    | next =>
      obtain ⟨h4, tk4, m4, news4, rfl, F4, N4, hn4, hl4, hJ4⟩ := h3
      exact ⟨⟨h4, tk4, m4, news4, rfl, F4, newsTail N4, hn4, hJ4⟩, ⟨oi, (N4 _ (.head _)).1, hc, hd⟩, hl4⟩
    | cont =>
      obtain ⟨h4, tk4, m4, news4, rfl, F4, N4, hn4, hl4, hJ4⟩ := h3
      exact ⟨⟨h4, tk4, m4, news4, rfl, F4, newsTail N4, hn4, hJ4⟩, ⟨oi, (N4 _ (.head _)).1, hc, hd⟩, hl4⟩
    | brk => exact h3
    | ret v => exact h3
  case done =>
    rintro s1 ⟨h1, tk1, m1, news1, rfl, F1, N1, hn, hJ⟩
    exact wpAny_execs_nil (done _ _ _ _ F1 N1 hJ)
theorem loop_range {x : Str} {px : Pos} {n : Nat} {t u v : Tok} (hh : A.handled = none) (F : Fr g L s.heap m) (N : News g L s.heap news) (hr : IsRange s.heap l 0 n 1 t u v) (hn : n < 1000)
    (J : Nat → (Str → Option Value) → List (Addr × Obj) → Prop) (h0 : J 0 m news)
    (turn : ∀ i tv it oi h tk m₁ news₁, i < n → J i m₁ news₁ → (∀ p ∈ news₁, @Ne Nat p.1 it) → Fr g L h m₁ → News g L h ((it, oi) :: news₁) →
      wpAny (model prog w) A (assign (.Name x px) env (.int (i : Nat) tv)) (fun _ s₂ => wpAny (model prog w) A (execs body env) (Turned s g L it oi (fun h' => True) (J (i + 1)) R) (fun _ _ => False) s₂) (fun _ _ => False) { s with heap := h, toks := tk })
    (done : ∀ h tk m₁ news₁, Fr g L h m₁ → News g L h news₁ → J n m₁ news₁ → R (.ok .next) { s with heap := h, toks := tk }) :
    wpAny (model prog w) A (pyIter (.ref l)) (fun it s₂ => codeAny (model prog w) A (.forLoop (.Name x px) it body [] env) R s₂) E s := by
  refine range_start F N hr hn fun it h' n2 n3 n4 hit F' N' _ _ => ?_
  refine for_rule (Walks.range hh it 0 1 n) (fun i s' => ∃ h tk m₁ news₁, s' = { s with heap := h, toks := tk } ∧ Fr g L h m₁ ∧ News g L h news₁ ∧ (∀ p ∈ news₁, @Ne Nat p.1 it) ∧ J i m₁ news₁) ?hgo hit ⟨h', _, m, news, rfl, F', N', n4, h0⟩ ?jn ?turn ?done
  case hgo =>
    intro i v s₁ Q E hS hQ
    exact go_name it i v s₁ Q E hQ
  case jn =>
    rintro i s1 h2 tk hi ⟨h1, tk1, m1, news1, rfl, F1, N1, hn, hJ⟩ _ hk
    exact ⟨h2, tk, m1, news1, rfl, frWr F1 hk (by simpa using Ne.symm n2) (by simpa using n3), newsWr N1 hk (by simpa using hn), hn, hJ⟩
  case turn =>
    rintro i v s1 hi hP ⟨h1, tk1, m1, news1, rfl, F1, N1, hn, hJ⟩ hS
    obtain ⟨tv, rfl⟩ := hP
    have ho : h1.get? it = some _ := hS
    have ei : (0 + (i : Int) * 1) = ((i : Nat) : Int) := by simp
    rw [ei]
    refine wpAny_mono (turn i tv it _ h1 tk1 m1 news1 hi hJ hn F1 (newsMore N1 ho n2 n3)) (fun _ s2 h2 => ?_) fun _ _ e => e
    refine wpAny_mono h2 (fun f s3 h3 => ?_) fun _ _ e => e
    cases f with
    | next =>
      obtain ⟨h4, tk4, m4, news4, rfl, F4, N4, hn4, hl4, hJ4⟩ := h3
      exact ⟨⟨h4, tk4, m4, news4, rfl, F4, newsTail N4, hn4, hJ4⟩, (N4 _ (.head _)).1⟩
    | cont =>
      obtain ⟨h4, tk4, m4, news4, rfl, F4, N4, hn4, hl4, hJ4⟩ := h3
      exact ⟨⟨h4, tk4, m4, news4, rfl, F4, newsTail N4, hn4, hJ4⟩, (N4 _ (.head _)).1⟩
    | brk => exact h3
    | ret v => exact h3
  case done =>
    rintro s1 ⟨h1, tk1, m1, news1, rfl, F1, N1, hn, hJ⟩
    exact wpAny_execs_nil (done _ _ _ _ F1 N1 hJ)
end
end
section
set_option maxHeartbeats 1000000

theorem fillNP (w : World) (h : Heap) : (Mine.hd.heap_1 w.params).In h → PySem.Challenge.rw_oc0123_01.most = some 63 := by
  k_fill
  intro _; rfl

theorem wp_peekB {α : Type} {K : Frag} {M : Model} {A : Around} {E : Value → Shared → Prop} {Q : α → Shared → Prop} {s : Shared} {o : Obj} (X : K.In s.heap) :
    ∀ (t : Sem α) (g : Addr → Sem α), peekA K ⟨M.prog, M.w.params⟩ t = some (o, g) → wpAny M A (g s.heap.objs.size) Q E { s with heap := s.heap.push o } → wpAny M A t Q E s := by
  intro t
  induction t with
  | load a m k ih =>
    intro g e q
    cases hl : K.lookup a with
    | none => simp [peekA, hl] at e
    | some ob =>
      simp only [peekA, hl] at e
      exact fun Γ p r => ⟨ob, X _ _ hl, ih ob g e q Γ p r⟩
  | alloc ob k _ =>
    rintro g ⟨⟩ q
    exact wpAny_bind (m := alloc _) (wpAny_alloc q)
  | rule _ _ ih => exact ih ()
  | point _ _ ih => exact ih ()
  | ask _ ih => exact fun g e q Γ p r => ih _ g e q Γ p r
  | _ => exact fun g e => nomatch e
theorem keepAll {g h' : Heap} {L : Addr} {m : Str → Option Value} {muts : List (Addr × Obj)} {h : Heap} (F : Fr g L h' m) (N : News g L h' muts)
    (kg : ∀ b o, b ∉ muts.map (·.1) → h.get? b = some o → g.get? b = some o) (hm : ∀ q ∈ muts, h.get? q.1 = some q.2) : ∀ b o, h.get? b = some o → h'.get? b = some o := by
  intro b o z
  by_cases hb : b ∈ muts.map (·.1)
  · obtain ⟨q, hq, rfl⟩ := List.mem_map.mp hb
    rw [hm q hq] at z
    cases z
    exact (N q hq).1
  · exact F.keep _ _ (kg b o hb z)
theorem newsNew {g h h2 : Heap} {L a : Addr} {o : Obj} {m m2 : Str → Option Value} {news : List (Addr × Obj)} (F : Fr g L h m) (N2 : News g L h2 news) (an : h.get? a = none) (ha : h2.get? a = some o) : News g L h2 ((a, o) :: news) := by
  refine newsMore N2 ha (fun e => ?_) ?_
  · obtain ⟨_, _, _, ho, _⟩ := F.ns
    rw [e, ho] at an
    cases an
  · cases q : g.get? a with
    | none => rfl
    | some o => rw [F.keep _ _ q] at an; cases an
theorem noneAt {h : Heap} {a : Nat} (z : h.objs.size ≤ a) : h.get? a = none := by
  cases e : h.get? a with
  | none => rfl
  | some o => exact absurd (Heap.lt_size e) (Nat.not_lt.mpr z)
/-- a call of a def with *args and **kwargs, one value by place -/
theorem enterS {K : Frag} {prog : Program} {w : World} {A : Around} {s : Shared} {h₀ : Heap} {p : Program} {loose : List Str} {mean : ExcName → Option Value} {mg mb : Str → Option Value} {E : Value → Shared → Prop} {Q : Value → Shared → Prop}
    {name qual : Str} {params : Arguments} {body : List Stmt} {scope : Scope} {dV kV doc pm cdv ct oc : Value} {an od : Option Addr} {osl : Array (Option Value)} {f : Addr} {v : Value} {nr nm : Str} {g₁ : Addr → Sem (List (Str × Value))} {g₂ : Addr → Addr → Sem (List (Str × Value))}
    (X : K.In h₀) (T : Top p loose mean mg mb h₀) (kp : ∀ b o, h₀.get? b = some o → s.heap.get? b = some o)
    (ho : K.lookup f = some ⟨oc, od, .func (fnOf name qual params body scope dV kV doc pm an cdv ct), osl⟩) (hcd : codeIn K cdv qual = true) (hroom : A.depth < recursionLimit)
    (hp : peekA K ⟨prog, w.params⟩ (bindArgs (fnOf name qual params body scope dV kV doc pm an cdv ct) ⟨[v], []⟩) = some (({ cls := .type "tuple", data := .seq #[v] } : Obj), g₁))
    (hp₂ : ∀ D, peekA K ⟨prog, w.params⟩ (g₁ D) = some (dictOf [] 0, g₂ D))
    (hk₂ : ∀ C D, g₂ C D = pure [(nr, Value.ref C), (nm, Value.ref D)])
    (hloc : ∀ C D, ∀ y ∈ [(nr, Value.ref C), (nm, Value.ref D)], scope.names.lookup y.1 = some .local)
    (hcell : ∀ x ∈ scope.names, x.2 ≠ .cell) (hco : scope.isCoroutine = false) (hgen : scope.isGenerator = false) (hk : scope.kind = .function)
    (h : ∀ C D g L h₁ tk, g.get? C = some ({ cls := .type "tuple", data := .seq #[v] } : Obj) → g.get? D = some (dictOf [] 0) → s.heap.get? C = none → s.heap.get? D = none → @Ne Nat C D → (D == sysModules) = false → Fr g L h₁ (fun y => [(nr, Value.ref C), (nm, Value.ref D)].reverse.lookup y) → News g L h₁ [] → K.In g → Top p loose mean mg mb g → (∀ b o, s.heap.get? b = some o → g.get? b = some o) →
      wpAny (model prog w) (A.deeper (envOf qual scope L f cdv)) (execs body (envOf qual scope L f cdv))
        (fun fl s' => Q (match fl with | .ret v => v | _ => .none) s') (fun _ _ => False) { s with heap := h₁, toks := tk }) :
    wpAny (model prog w) A (call (.ref f) [v] []) Q E s := by
  refine wpAny_call ?_
  refine codeAny_call_function (fd := fnOf name qual params body scope dV kV doc pm an cdv ct) (body := body) hroom (X.keeps kp _ _ ho) rfl hco hgen rfl (codeRec_of (X.keeps kp) hcd) ?_
  have k1 : ∀ b o, s.heap.get? b = some o → (s.heap.push ({ cls := .type "tuple", data := .seq #[v] } : Obj)).get? b = some o := fun b o e => Heap.get?_push_of_some _ e
  have k2 : ∀ b o, s.heap.get? b = some o → ((s.heap.push ({ cls := .type "tuple", data := .seq #[v] } : Obj)).push (dictOf [] 0)).get? b = some o := fun b o e => Heap.get?_push_of_some _ (k1 b o e)
  have kp2 : ∀ b o, h₀.get? b = some o → ((s.heap.push ({ cls := .type "tuple", data := .seq #[v] } : Obj)).push (dictOf [] 0)).get? b = some o := fun b o e => k2 b o (kp b o e)
  refine wp_peekB (X.keeps kp) _ g₁ hp ?_
  refine wp_peekB (s := { s with heap := s.heap.push ({ cls := .type "tuple", data := .seq #[v] } : Obj) }) (X.keeps fun b o e => k1 b o (kp b o e)) _ _ (hp₂ _) ?_
  rw [hk₂]
  refine wpAny_pure (wpAny_newFunctionEnv hcell (hloc _ _) (fun h₁ hns hsb => ⟨(T.nolimit.keeps kp2).fresh _ hsb, ?_⟩) hk)
  refine codeAny_func ?_
  refine wpAny_mono (h _ _ ((s.heap.push ({ cls := .type "tuple", data := .seq #[v] } : Obj)).push (dictOf [] 0)) _ h₁ _ (Heap.get?_push_of_some _ (Heap.get?_push_size _ rfl)) (Heap.get?_push_size _ rfl) (noneAt (Nat.le_refl _)) (noneAt (by rw [Heap.size_push]; exact Nat.le_succ _)) (by rw [Heap.size_push]; exact Nat.ne_of_lt (Nat.lt_succ_self _)) ?_ ⟨hns, fun b o e => hsb.extBut b o (Nat.ne_of_lt (Heap.lt_size e)) (Heap.get?_push_of_some _ e), Nat.le_refl _⟩ (fun p hp => nomatch hp) (X.keeps kp2) (T.keeps kp2) k2) (fun _ _ q => q) fun _ _ y => y.elim
  refine beq_eq_false_iff_ne.mpr (Nat.ne_of_gt ?_)
  show sysModules < (s.heap.push _).objs.size
  rw [Heap.size_push]
  exact Nat.lt_succ_of_lt (modules_low (T.nolimit.keeps kp))
local macro_rules | `(tactic| ktr_rel) => `(tactic| (repeat' (first
  | (walk_at "kA"; (fail_if_success (with_reducible first | refine gFor ?_ | refine gWhile ?_ | refine gCallref ?_ | refine gCallset ?_)); walk1)
  | walk_at "kB")))

theorem kind_ok {prog : Program} {w : World} {A : Around} {s : Shared} {h₀ : Heap} {mean : ExcName → Option Value} {mg mb : Str → Option Value} {loose : List Str} {E : Value → Shared → Prop} {Q : Value → Shared → Prop}
    (X : (Mine.hd.heap_1 w.params).In h₀) (T : Top Mine.view loose mean mg mb h₀) (kp : ∀ b o, h₀.get? b = some o → s.heap.get? b = some o)
    {n x : Str} {t u : Tok} (hhd : A.handled = none) (hroom : A.depth + 8 < recursionLimit) (hunit : A.units + 50 < cLine)
    (h : ∀ (h' : Heap) (tk : Nat) v, (∀ b o, s.heap.get? b = some o → h'.get? b = some o) → Q (.str "" v) { s with heap := h', toks := tk }) :
    wpAny (model prog w) A (call (.ref 117) [.str n t, .str x u]) Q E s := by
  refine' enter (binds := [("name", .str n t), ("x", .str x u)]) [] X T kp ?hm ?ho ?hcd (by first | exact dr hroom | omega) ?hbind ?hloc ?hcell ?hco ?hgen ?hk ?_
  case ho => k_is
  case hcd => k_is
  case hbind => exact BindsTo.of_eq rfl
  case hloc => exact locs rfl
  case hcell => decide
  case hco => rfl
  case hgen => rfl
  case hk => rfl
  case hm => intro q hq; cases hq
  intro g L h₁ F N X' T' kg
  clear X T kp
  ktr_rel
  rename Fr _ _ _ _ => F1
  exact h _ _ _ fun b o z => F1.keep _ _ (kg b o (by simp) z)
theorem cpath_ok {prog : Program} {w : World} {A : Around} {s : Shared} {h₀ : Heap} {mean : ExcName → Option Value} {mg mb : Str → Option Value} {loose : List Str} {E : Value → Shared → Prop} {Q : Value → Shared → Prop}
    (X : (Mine.hd.heap_1 w.params).In h₀) (T : Top Mine.view loose mean mg mb h₀) (kp : ∀ b o, h₀.get? b = some o → s.heap.get? b = some o)
    {n c a x : Str} {t t1 t2 u : Tok} {C D : Addr} (hC : s.heap.get? C = some ({ cls := .type "tuple", data := .seq #[.str x u] } : Obj)) (hD : s.heap.get? D = some (dictOf [] 0)) (hCn : h₀.get? C = none) (hDn : h₀.get? D = none) (hDs : (D == sysModules) = false) (hhd : A.handled = none) (hroom : A.depth + 9 < recursionLimit) (hunit : A.units + 60 < cLine)
    (h : ∀ (h' : Heap) (tk : Nat), (∀ b o, s.heap.get? b = some o → h'.get? b = some o) → Q (.str x u) { s with heap := h', toks := tk }) :
    wpAny (model prog w) A (call (.ref 124) [.str n t, .str c t1, .str a t2, .ref C, .ref D]) Q E s := by
  refine' enter (binds := [("name", .str n t), ("cname", .str c t1), ("argname", .str a t2), ("args", .ref C), ("kwargs", .ref D)]) [(C, ({ cls := .type "tuple", data := .seq #[.str x u] } : Obj)), (D, dictOf [] 0)] X T kp ?hm ?ho ?hcd (by first | exact dr hroom | omega) ?hbind ?hloc ?hcell ?hco ?hgen ?hk ?_
  case ho => k_is
  case hcd => k_is
  case hbind => exact BindsTo.of_eq rfl
  case hloc => exact locs rfl
  case hcell => decide
  case hco => rfl
  case hgen => rfl
  case hk => rfl
  case hm => intro q hq; cases hq with | head => exact ⟨hC, hCn⟩ | tail _ h => cases h with | head => exact ⟨hD, hDn⟩ | tail _ h => cases h
  intro g L h₁ F N X' T' kg
  clear X T kp
  ktr_rel
  refine wpAny_truthy_dict (knd := strKind prog w) (kvs := []) hDs ⟨_, #[], 0, (N _ (.tail _ (.head _))).1, ⟨rfl, rfl, rfl⟩, rfl, fun _ he => by simp at he, Pairs.nil, List.nodup_nil⟩ (by decide) ?_
  ktr_rel
  rename Fr _ _ _ _ => F
  rename News _ _ _ _ => N
  refine kind_ok (h₀ := g) X' T' F.keep (by exact hhd) (by show A.depth + 1 + 8 < _; exact dl hroom) (by show A.units + 3 + 50 < _; exact dl hunit) fun h2 tk2 v2 k2 => ?_
  have F2 := frKeep F k2
  have N2 := newsKeep N k2
  clear F N
  ktr_rel
  rename Fr _ _ _ _ => F1
  rename News _ _ _ _ => N1
  exact h _ _ (keepAll F1 N1 kg fun q hq => by cases hq with | head => exact hC | tail _ h => cases h with | head => exact hD | tail _ h => cases h)
theorem splitroot_ok {prog : Program} {w : World} {A : Around} {s : Shared} {h₀ : Heap} {mean : ExcName → Option Value} {mg mb : Str → Option Value} {loose : List Str} {E : Value → Shared → Prop} {Q : Value → Shared → Prop}
    (X : (Mine.hd.heap_1 w.params).In h₀) (T : Top Mine.view loose mean mg mb h₀) (kp : ∀ b o, h₀.get? b = some o → s.heap.get? b = some o)
    {d r : Str} {t : Tok} (hd : (d = "/s" ∧ r = "s") ∨ (d = "/sa" ∧ r = "sa") ∨ (d = "/s/sa" ∧ r = "s/sa")) (hhd : A.handled = none) (hroom : A.depth + 8 < recursionLimit) (hunit : A.units + 50 < cLine)
    (h : ∀ (h' : Heap) (tk : Nat) e p q (x : Addr), (∀ b o, s.heap.get? b = some o → h'.get? b = some o) → s.heap.get? x = none → h'.get? x = some ({ cls := .type "tuple", data := .seq #[.str "" e, .str "/" p, .str r q] } : Obj) → Q (.ref x) { s with heap := h', toks := tk }) :
    wpAny (model prog w) A (call (.ref 131) [.str d t]) Q E s := by
  refine' enter (binds := [("p", .str d t)]) [] X T kp ?hm ?ho ?hcd (by first | exact dr hroom | omega) ?hbind ?hloc ?hcell ?hco ?hgen ?hk ?_
  case ho => k_is
  case hcd => k_is
  case hbind => exact BindsTo.of_eq rfl
  case hloc => exact locs rfl
  case hcell => decide
  case hco => rfl
  case hgen => rfl
  case hk => rfl
  case hm => intro q hq; cases hq
  intro g L h₁ F N X' T' kg
  clear X T kp
  rcases hd with ⟨rfl, rfl⟩ | ⟨rfl, rfl⟩ | ⟨rfl, rfl⟩ <;>
  · ktr_rel
    rename Fr _ _ _ _ => F1
    rename News _ _ _ _ => N1
    refine h _ _ _ _ _ _ (fun b o z => F1.keep _ _ (kg b o (by simp) z)) ?_ (N1 _ (.head _)).1
    cases e : s.heap.get? _ with
    | none => rfl
    | some o => exact absurd (kg _ _ (by simp) e) (by rw [(N1 _ (.head _)).2.2]; simp)
inductive NpJ (l D x : Addr) (p2 : Tok) (ws : List Value) (i : Nat) (m₁ : Str → Option Value) (news₁ : List (Addr × Obj)) : Prop where
  | mk (nn : Nat) (ox : Obj) (t1 t2 t3 : Tok) (a1 : m₁ "new_comps" = some (.ref l)) (a2 : m₁ "initial_slashes" = some (.str "/" p2)) (a3 : m₁ "dot" = some (.str "." t1)) (a4 : m₁ "dotdot" = some (.str ".." t2)) (a5 : m₁ "sep" = some (.str "/" t3))
    (e : news₁ = [(l, W.listOf (ws.take i).toArray nn), (D, W.listOf ws.toArray 0), (x, ox)])
theorem normp_ok {prog : Program} {w : World} {A : Around} {s : Shared} {h₀ : Heap} {mean : ExcName → Option Value} {mg mb : Str → Option Value} {loose : List Str} {E : Value → Shared → Prop} {Q : Value → Shared → Prop}
    (X : (Mine.hd.heap_1 w.params).In h₀) (T : Top Mine.view loose mean mg mb h₀) (kp : ∀ b o, h₀.get? b = some o → s.heap.get? b = some o)
    {d : Str} {t : Tok} (hd : d = "/s" ∨ d = "/sa" ∨ d = "/s/sa") (hhd : A.handled = none) (hroom : A.depth + 9 < recursionLimit) (hunit : A.units + 60 < cLine)
    (h : ∀ (h' : Heap) (tk : Nat) u, (∀ b o, s.heap.get? b = some o → h'.get? b = some o) → Q (.str d u) { s with heap := h', toks := tk }) :
    wpAny (model prog w) A (call (.ref 138) [.str d t]) Q E s := by
  refine' enter (binds := [("path", .str d t)]) [] X T kp ?hm ?ho ?hcd (by first | exact dr hroom | omega) ?hbind ?hloc ?hcell ?hco ?hgen ?hk ?_
  case ho => k_is
  case hcd => k_is
  case hbind => exact BindsTo.of_eq rfl
  case hloc => exact locs rfl
  case hcell => decide
  case hco => rfl
  case hgen => rfl
  case hk => rfl
  case hm => intro q hq; cases hq
  intro g L h₁ F N X' T' kg
  clear X T kp
  rcases hd with rfl | rfl | rfl
  · ktr_rel
    rename Fr _ _ _ _ => F
    rename News _ _ _ _ => N
    refine splitroot_ok (r := "s") (h₀ := g) X' T' F.keep (.inl ⟨rfl, rfl⟩) (by exact hhd) (by show A.depth + 1 + 8 < _; exact dl hroom) (by show A.units + 3 + 50 < _; exact dl hunit) fun h2 tk2 e2 p2 q2 x k2 xn hx => ?_
    have F2 := frKeep F k2
    have N2 := newsNew (m2 := fun _ => none) F (newsKeep N k2) xn hx
    clear F N
    refine unpackN_ F2 N2 (News.isTup N2 (.head _)) (by exact hhd) rfl rfl fun h3 F3 N3 => ?_
    clear F2 N2
    ktr_rel
    rename Fr _ _ _ _ => F
    rename News _ _ _ _ => N
    rename_i D h30 k0 l10 w0 ks0 e0 a0 h20 l h10 l11 h00
    have lD : @Ne Nat l D := by omega
    have lx : @Ne Nat l x := by omega
    refine wpAny_For ?_
    ktr_rel
    refine loop_list (hh := by exact hhd) F N (News.isList N (.tail _ (.head _))) (fun it v s1 o vs Q E _ _ _ q => go_name it 0 v s1 Q E q) (NpJ l D x p2 [.str "s" w0]) ?h0 ?turn ?done
    case h0 => exact ⟨0, _, _, _, _, by ktr_unf, by ktr_unf, by ktr_unf, by ktr_unf, by ktr_unf, rfl⟩
    case done =>
      rintro h4 tk4 m4 news4 F4 N4 ⟨nn, ox, t1, t2, t3, m1, m2, m3, m5, m6, rfl⟩
      clear F N
      replace N4 : News g L h4 [(l, W.listOf #[.str "s" w0] nn), (D, W.listOf #[.str "s" w0] 0), (x, ox)] := N4
      ktr_rel
      rename Fr _ _ _ _ => F9
      exact h _ _ _ fun b o z => F9.keep _ _ (kg b o (by simp) z)
    case turn =>
      rintro i v it oi h4 tk4 m4 news4 hv ⟨nn, ox, t1, t2, t3, m1, m2, m3, m5, m6, rfl⟩ hn hDi hDl F4 N4
      clear F N
      have li : @Ne Nat l it := hn _ (.head _)
      have xi : @Ne Nat x it := hn _ (.tail _ (.tail _ (.head _)))
      have hi : i = 0 := by have := (Array.getElem?_eq_some_iff.mp hv).1; simp at this; omega
      rcases hi with rfl
      · obtain rfl : v = .str "s" w0 := by cases hv; rfl
        replace N4 : News g L h4 [(it, oi), (l, W.listOf #[] nn), (D, W.listOf #[.str "s" w0] 0), (x, ox)] := N4
        ktr_rel
        rename Fr _ _ _ _ => F9
        rename News _ _ _ _ => N9
        exact ⟨_, _, _, _, rfl, F9, N9, by intro p hp; simp at hp; rcases hp with rfl | rfl | rfl <;> assumption, News.isList N9 (.tail _ (.tail _ (.head _))), _, _, t1, t2, t3, by ktr_unf, by ktr_unf, by ktr_unf, by ktr_unf, by ktr_unf, rfl⟩
  · ktr_rel
    rename Fr _ _ _ _ => F
    rename News _ _ _ _ => N
    refine splitroot_ok (r := "sa") (h₀ := g) X' T' F.keep (.inr (.inl ⟨rfl, rfl⟩)) (by exact hhd) (by show A.depth + 1 + 8 < _; exact dl hroom) (by show A.units + 3 + 50 < _; exact dl hunit) fun h2 tk2 e2 p2 q2 x k2 xn hx => ?_
    have F2 := frKeep F k2
    have N2 := newsNew (m2 := fun _ => none) F (newsKeep N k2) xn hx
    clear F N
    refine unpackN_ F2 N2 (News.isTup N2 (.head _)) (by exact hhd) rfl rfl fun h3 F3 N3 => ?_
    clear F2 N2
    ktr_rel
    rename Fr _ _ _ _ => F
    rename News _ _ _ _ => N
    rename_i D h30 k0 l10 w0 ks0 e0 a0 h20 l h10 l11 h00
    have lD : @Ne Nat l D := by omega
    have lx : @Ne Nat l x := by omega
    refine wpAny_For ?_
    ktr_rel
    refine loop_list (hh := by exact hhd) F N (News.isList N (.tail _ (.head _))) (fun it v s1 o vs Q E _ _ _ q => go_name it 0 v s1 Q E q) (NpJ l D x p2 [.str "sa" w0]) ?h0 ?turn ?done
    case h0 => exact ⟨0, _, _, _, _, by ktr_unf, by ktr_unf, by ktr_unf, by ktr_unf, by ktr_unf, rfl⟩
    case done =>
      rintro h4 tk4 m4 news4 F4 N4 ⟨nn, ox, t1, t2, t3, m1, m2, m3, m5, m6, rfl⟩
      clear F N
      replace N4 : News g L h4 [(l, W.listOf #[.str "sa" w0] nn), (D, W.listOf #[.str "sa" w0] 0), (x, ox)] := N4
      ktr_rel
      rename Fr _ _ _ _ => F9
      exact h _ _ _ fun b o z => F9.keep _ _ (kg b o (by simp) z)
    case turn =>
      rintro i v it oi h4 tk4 m4 news4 hv ⟨nn, ox, t1, t2, t3, m1, m2, m3, m5, m6, rfl⟩ hn hDi hDl F4 N4
      clear F N
      have li : @Ne Nat l it := hn _ (.head _)
      have xi : @Ne Nat x it := hn _ (.tail _ (.tail _ (.head _)))
      have hi : i = 0 := by have := (Array.getElem?_eq_some_iff.mp hv).1; simp at this; omega
      rcases hi with rfl
      · obtain rfl : v = .str "sa" w0 := by cases hv; rfl
        replace N4 : News g L h4 [(it, oi), (l, W.listOf #[] nn), (D, W.listOf #[.str "sa" w0] 0), (x, ox)] := N4
        ktr_rel
        rename Fr _ _ _ _ => F9
        rename News _ _ _ _ => N9
        exact ⟨_, _, _, _, rfl, F9, N9, by intro p hp; simp at hp; rcases hp with rfl | rfl | rfl <;> assumption, News.isList N9 (.tail _ (.tail _ (.head _))), _, _, t1, t2, t3, by ktr_unf, by ktr_unf, by ktr_unf, by ktr_unf, by ktr_unf, rfl⟩
  · ktr_rel
    rename Fr _ _ _ _ => F
    rename News _ _ _ _ => N
    refine splitroot_ok (r := "s/sa") (h₀ := g) X' T' F.keep (.inr (.inr ⟨rfl, rfl⟩)) (by exact hhd) (by show A.depth + 1 + 8 < _; exact dl hroom) (by show A.units + 3 + 50 < _; exact dl hunit) fun h2 tk2 e2 p2 q2 x k2 xn hx => ?_
    have F2 := frKeep F k2
    have N2 := newsNew (m2 := fun _ => none) F (newsKeep N k2) xn hx
    clear F N
    refine unpackN_ F2 N2 (News.isTup N2 (.head _)) (by exact hhd) rfl rfl fun h3 F3 N3 => ?_
    clear F2 N2
    ktr_rel
    rename Fr _ _ _ _ => F
    rename News _ _ _ _ => N
    rename_i D h30 k0 l10 w1 w0 ks1 ks0 e0 a0 h20 l h10 l11 h00
    have lD : @Ne Nat l D := by omega
    have lx : @Ne Nat l x := by omega
    refine wpAny_For ?_
    ktr_rel
    refine loop_list (hh := by exact hhd) F N (News.isList N (.tail _ (.head _))) (fun it v s1 o vs Q E _ _ _ q => go_name it 0 v s1 Q E q) (NpJ l D x p2 [.str "s" w1, .str "sa" w0]) ?h0 ?turn ?done
    case h0 => exact ⟨0, _, _, _, _, by ktr_unf, by ktr_unf, by ktr_unf, by ktr_unf, by ktr_unf, rfl⟩
    case done =>
      rintro h4 tk4 m4 news4 F4 N4 ⟨nn, ox, t1, t2, t3, m1, m2, m3, m5, m6, rfl⟩
      clear F N
      replace N4 : News g L h4 [(l, W.listOf #[.str "s" w1, .str "sa" w0] nn), (D, W.listOf #[.str "s" w1, .str "sa" w0] 0), (x, ox)] := N4
      ktr_rel
      rename Fr _ _ _ _ => F9
      exact h _ _ _ fun b o z => F9.keep _ _ (kg b o (by simp) z)
    case turn =>
      rintro i v it oi h4 tk4 m4 news4 hv ⟨nn, ox, t1, t2, t3, m1, m2, m3, m5, m6, rfl⟩ hn hDi hDl F4 N4
      clear F N
      have li : @Ne Nat l it := hn _ (.head _)
      have xi : @Ne Nat x it := hn _ (.tail _ (.tail _ (.head _)))
      have hi : i = 0 ∨ i = 1 := by have := (Array.getElem?_eq_some_iff.mp hv).1; simp at this; omega
      rcases hi with rfl | rfl
      · obtain rfl : v = .str "s" w1 := by cases hv; rfl
        replace N4 : News g L h4 [(it, oi), (l, W.listOf #[] nn), (D, W.listOf #[.str "s" w1, .str "sa" w0] 0), (x, ox)] := N4
        ktr_rel
        rename Fr _ _ _ _ => F9
        rename News _ _ _ _ => N9
        exact ⟨_, _, _, _, rfl, F9, N9, by intro p hp; simp at hp; rcases hp with rfl | rfl | rfl <;> assumption, News.isList N9 (.tail _ (.tail _ (.head _))), _, _, t1, t2, t3, by ktr_unf, by ktr_unf, by ktr_unf, by ktr_unf, by ktr_unf, rfl⟩
      · obtain rfl : v = .str "sa" w0 := by cases hv; rfl
        replace N4 : News g L h4 [(it, oi), (l, W.listOf #[.str "s" w1] nn), (D, W.listOf #[.str "s" w1, .str "sa" w0] 0), (x, ox)] := N4
        ktr_rel
        rename Fr _ _ _ _ => F9
        rename News _ _ _ _ => N9
        exact ⟨_, _, _, _, rfl, F9, N9, by intro p hp; simp at hp; rcases hp with rfl | rfl | rfl <;> assumption, News.isList N9 (.tail _ (.tail _ (.head _))), _, _, t1, t2, t3, by ktr_unf, by ktr_unf, by ktr_unf, by ktr_unf, by ktr_unf, rfl⟩
theorem np_ok {prog : Program} {w : World} {A : Around} {s : Shared} {h₀ : Heap} {mean : ExcName → Option Value} {mg mb : Str → Option Value} {loose : List Str} {E : Value → Shared → Prop} {Q : Value → Shared → Prop}
    (X : (Mine.hd.heap_1 w.params).In h₀) (T : Top Mine.view loose mean mg mb h₀) (kp : ∀ b o, h₀.get? b = some o → s.heap.get? b = some o)
    {d : Str} {t : Tok} (hd : d = "/s" ∨ d = "/sa" ∨ d = "/s/sa") (hhd : A.handled = none) (hroom : A.depth + 20 < recursionLimit) (hunit : A.units + 90 < cLine)
    (h : ∀ (h' : Heap) (tk : Nat) u, (∀ b o, s.heap.get? b = some o → h'.get? b = some o) → Q (.str d u) { s with heap := h', toks := tk }) :
    wpAny (model prog w) A (call (.ref 145) [.str d t]) Q E s := by
  refine enterS X T kp (by k_is) (by k_is) (by omega) (hp := rfl) (hp₂ := fun D => rfl) (hk₂ := fun C D => rfl) (hloc := fun C D => locs rfl) (by decide) rfl rfl rfl ?_
  intro C D g L h₁ tk hC hD hCn hDn hCD hDs F N X' T' kg
  have nh : ∀ a, s.heap.get? a = none → h₀.get? a = none := fun a e => by
    cases q : h₀.get? a with
    | none => rfl
    | some o => rw [kp _ _ q] at e; cases e
  have kp1 : ∀ b o, h₀.get? b = some o → h₁.get? b = some o := fun b o e => F.keep _ _ (kg _ _ (kp _ _ e))
  ktr_rel
  refine cpath_ok X T kp1 (F.keep _ _ hC) (F.keep _ _ hD) (nh _ hCn) (nh _ hDn) hDs (by exact hhd) (by show A.depth + 1 + 9 < _; exact dl hroom) (by show A.units + 3 + 60 < _; exact dl hunit) fun h2 tk2 k2 => ?_
  have F2 := frKeep F k2
  have N2 := newsKeep N k2
  clear F N
  ktr_rel
  refine normp_ok (h₀ := g) X' T' F2.keep hd (by exact hhd) (by show A.depth + 1 + 9 < _; exact dl hroom) (by show A.units + 3 + 60 < _; exact dl hunit) fun h3 tk3 u3 k3 => ?_
  have F3 := frKeep F2 k3
  have N3 := newsKeep N2 k3
  clear F2 N2
  ktr_rel
  exact h _ _ _ fun b o z => F3.keep _ _ (kg b o z)
end
section
set_option maxHeartbeats 1000000

/-- all that the heap holds besides the base and the one place -/
theorem rest_ex (g h : Heap) (C : Addr) (hg : ∀ b o, g.get? b = some o → h.get? b = some o) : ∃ ot, News g C h ot ∧ ∀ b o, b ≠ C → h.get? b = some o → g.get? b = some o ∨ (b, o) ∈ ot := by
  refine ⟨(List.range h.objs.size).filterMap (fun a => if a = C then none else match g.get? a with | some _ => none | none => (h.get? a).map fun o => (a, o)), ?_, ?_⟩
  · intro p hp
    obtain ⟨a, _, e⟩ := List.mem_filterMap.mp hp
    by_cases ha : a = C
    · simp [ha] at e
    · simp only [ha, if_false] at e
      cases hga : g.get? a with
      | some o => rw [hga] at e; cases e
      | none =>
        rw [hga] at e
        cases hha : h.get? a with
        | none => rw [hha] at e; cases e
        | some o => rw [hha] at e; cases e; exact ⟨hha, ha, hga⟩
  · intro b o hb hh
    cases hgb : g.get? b with
    | some o' => left; have := hg _ _ hgb; rw [hh] at this; cases this; rfl
    | none => exact .inr (List.mem_filterMap.mpr ⟨b, List.mem_range.mpr (Heap.lt_size hh), by simp only [hb, if_false]; rw [hgb, hh]; rfl⟩)
/-- how an item of a comprehension must leave the state -/
def CEnd (s : Shared) (g : Heap) (C : Addr) (ot : List (Addr × Obj)) (J : Heap → Prop) (s' : Shared) : Prop :=
  ∃ h' tk' m' ns, s' = { s with heap := h', toks := tk' } ∧ Fr g C h' m' ∧ News g C h' ns ∧ (∀ p ∈ ot, p ∈ ns) ∧ J h'
section
variable {prog : Program} {w : World} {A : Around} {E : Value → Shared → Prop} {s : Shared} {target elt : PySem.Expr} {ifs : List PySem.Expr} {scope : Scope} {cl : List (Str × Addr)} {env : Env} {g : Heap} {L l I : Addr} {m : Str → Option Value} {news : List (Addr × Obj)}
theorem ct_any {fp : List Addr} {n : Nat} {P : Nat → Value → Prop} {St : Nat → Heap → Prop} {s₂ : Shared} (W : Walks prog w A I fp [I] n P St) (hz : n < 1000) (hst : St 0 s₂.heap) (hfp : ∀ b ∈ fp, b < s₂.heap.objs.size)
    (F : Fr g L s₂.heap m) (N : News g L s₂.heap news) (hI : g.get? I = none) (hIn : ∀ p ∈ news, p.1 ≠ I)
    (hgo : ∀ i v (s₁ : Shared) (Q : Unit → Shared → Prop) (E : Value → Shared → Prop), St (i + 1) s₁.heap → Q () s₁ → wpAny (model prog w) A (letOwnedTupleGo target (.ref I) v) Q E s₁)
    (hwt : ∀ i h, St i h → ∀ o, h.get? I = some o → ¬ IsT o)
    (J : Nat → List Value → Heap → Prop) (h0 : J 0 [] s₂.heap) (hkeep : ∀ i ys h h', J i ys h → (∀ b o, h.get? b = some o → IsT o → h'.get? b = some o) → J i ys h')
    (turn : ∀ C i v ys h tk m₃ ot, i < n → P i v → J i ys h → Fr g C h m₃ → News g C h (news ++ ot) → (∀ b o, b ≠ I → s₂.heap.get? b = some o → h.get? b = some o) ∧ (∀ b o, b ≠ C → h.get? b = some o → g.get? b = some o ∨ (b, o) ∈ ot) →
      wpAny (model prog w) A (assign target (compEnvC scope cl C env) v) (fun _ s₄ => wpAny (model prog w) A (compTest ifs (compEnvC scope cl C env)) (fun ok s₅ =>
        if ok = true then wpAny (model prog w) A (eval elt (compEnvC scope cl C env)) (fun y s₆ => CEnd s₂ g C ot (J (i + 1) (ys ++ [y])) s₆) (fun _ _ => False) s₅
        else CEnd s₂ g C ot (J (i + 1) ys) s₅) (fun _ _ => False) s₄) (fun _ _ => False) { s₂ with heap := h, toks := tk }) :
    CompTurn prog w A env scope cl target elt ifs I fp [I] n P St J (fun _ => False) s₂ where
  walks := W
  size := by rw [sizeLine_eq]; omega
  start := hst
  below := hfp
  low := fun _ x => x.elim
  nfp := fun _ x => x.elim
  go := hgo
  init := h0
  keep := fun i ys h h' j k => hkeep i ys h h' j fun b o e t => k b o e (.inl t)
  wrt := fun i h hS b hb o e => by rw [List.mem_singleton.mp hb] at e; exact hwt i h hS o e
  turn := by
    rintro C i v ys s₃ m₃ hC hi hP hns hk ⟨h', tk', rfl⟩ hJ
    have hk' : ∀ b o, b ≠ I → s₂.heap.get? b = some o → h'.get? b = some o := fun b o hb e => hk b o (by simpa using hb) id e
    have hg : ∀ b o, g.get? b = some o → h'.get? b = some o := fun b o e => hk' b o (by rintro rfl; rw [hI] at e; cases e) (F.keep b o e)
    have FC : Fr g C h' m₃ := ⟨hns, hg, Nat.le_trans F.above (Nat.le_trans (Nat.le_of_lt F.ns.lt) hC)⟩
    obtain ⟨ot, No, ho⟩ := rest_ex g h' C hg
    have NC : News g C h' (news ++ ot) := fun p hp => by
      rcases List.mem_append.mp hp with hp | hp
      · exact ⟨hk' _ _ (hIn p hp) (N p hp).1, Nat.ne_of_lt (Nat.lt_of_lt_of_le (Heap.lt_size (N p hp).1) hC), (N p hp).2.2⟩
      · exact No p hp
    have fin : ∀ (JJ : Heap → Prop) s', CEnd s₂ g C ot JJ s' → JJ s'.heap ∧ CKeeps C (fun _ => False) { s₂ with heap := h', toks := tk' } s' := by
      rintro JJ s' ⟨h6, tk6, m6, ns, rfl, F6, N6, hs, hj⟩
      refine ⟨hj, h6, tk6, m6, rfl, F6.ns, fun b o hb _ e => ?_⟩
      rcases ho b o hb e with q | q
      · exact F6.keep _ _ q
      · exact (N6 _ (hs _ q)).1
    refine wpAny_mono (turn C i v ys h' tk' m₃ ot hi hP hJ FC NC ⟨hk', ho⟩) (fun _ s4 h4 => ?_) fun _ _ e => e
    refine wpAny_mono h4 (fun ok s5 h5 => ?_) fun _ _ e => e
    split at h5
    · rename_i c
      rw [if_pos c]
      exact wpAny_mono h5 (fun y s6 h6 => fin _ _ h6) fun _ _ e => e
    · rename_i c
      rw [if_neg c]
      exact fin _ _ h5
theorem list_start2 {items : Array Value} {Q : Value → Shared → Prop} (F : Fr g L s.heap m) (N : News g L s.heap news) (hl : s.heap.IsList l items)
    (h : ∀ it h', s.heap.get? it = none → @Ne Nat l it → @Ne Nat it L → g.get? it = none → (∀ p ∈ news, @Ne Nat p.1 it) → h'.IsListIter it l 0 → h'.IsList l items → Fr g L h' m → News g L h' news → (∀ b o, s.heap.get? b = some o → h'.get? b = some o) → it < h'.objs.size → l < h'.objs.size → Q (.ref it) { s with heap := h' }) :
    wpAny (model prog w) A (pyIter (.ref l)) Q E s := by
  refine wpAny_pyIter_list hl ?_
  obtain ⟨a1, a2⟩ := frFresh F (Nat.le_refl _)
  have hk : ∀ b o, s.heap.get? b = some o → (s.heap.push { cls := .type "list_iterator", data := .fields #[.ref l, .int 0 0] }).get? b = some o := fun b o e => Heap.get?_push_of_some _ e
  obtain ⟨ol, hol, r⟩ := id hl
  exact h _ _ (noneAt (Nat.le_refl _)) (getNe hol (Nat.le_refl _)) a1 a2 (newsNe N (Nat.le_refl _)) ⟨_, Heap.get?_push_size _ rfl, rfl, rfl⟩ ⟨ol, hk _ _ hol, r⟩ (frKeep F hk) (newsKeep N hk) hk (by rw [Heap.size_push]; exact Nat.lt_succ_self _) (Heap.lt_size (hk _ _ hol))
theorem range_start2 {n : Nat} {t u v : Tok} {Q : Value → Shared → Prop} (F : Fr g L s.heap m) (N : News g L s.heap news) (hr : IsRange s.heap l 0 n 1 t u v) (hn : n < 1000)
    (h : ∀ it h', s.heap.get? it = none → @Ne Nat it L → g.get? it = none → (∀ p ∈ news, @Ne Nat p.1 it) → IsRangeIter h' it (0 + (0 : Nat) * 1) ((n : Int) - (0 : Nat)) 1 → Fr g L h' m → News g L h' news → (∀ b o, s.heap.get? b = some o → h'.get? b = some o) → it < h'.objs.size → Q (.ref it) { s with heap := h' }) :
    wpAny (model prog w) A (pyIter (.ref l)) Q E s := by
  refine wpAny_pyIter_range hr (small_one (by omega) (by omega) (by omega) (by omega)) ?_
  obtain ⟨a1, a2⟩ := frFresh F (Nat.le_refl _)
  have hk : ∀ b o, s.heap.get? b = some o → (s.heap.push { cls := .type "range_iterator", data := .fields #[rawInt 0, rawInt (Builtin.Range.rangeSize 0 n 1), rawInt 1] }).get? b = some o := fun b o e => Heap.get?_push_of_some _ e
  refine h _ _ (noneAt (Nat.le_refl _)) a1 a2 (newsNe N (Nat.le_refl _)) ?_ (frKeep F hk) (newsKeep N hk) hk (by rw [Heap.size_push]; exact Nat.lt_succ_self _)
  have e : Builtin.Range.rangeSize 0 (n : Int) 1 = (n : Int) := by unfold Builtin.Range.rangeSize; simp; omega
  show IsRangeIter _ _ _ _ _
  rw [e]
  simpa using Heap.get?_push_size _ rfl
/-- what an item must do, from the state at the start -/
def CItem (prog : Program) (w : World) (A : Around) (s : Shared) (g : Heap) (news : List (Addr × Obj)) (env : Env) (scope : Scope) (cl : List (Str × Addr)) (target elt : PySem.Expr) (ifs : List PySem.Expr) (P : Nat → Value → Prop) (J : Nat → List Value → Heap → Prop) : Prop :=
  ∀ C i v ys h tk m₃ ot, P i v → J i ys h → Fr g C h m₃ → News g C h (news ++ ot) → (∀ b o, s.heap.get? b = some o → h.get? b = some o) ∧ (∀ b o, b ≠ C → h.get? b = some o → g.get? b = some o ∨ (b, o) ∈ ot) →
      wpAny (model prog w) A (assign target (compEnvC scope cl C env) v) (fun _ s₄ => wpAny (model prog w) A (compTest ifs (compEnvC scope cl C env)) (fun ok s₅ =>
        if ok = true then wpAny (model prog w) A (eval elt (compEnvC scope cl C env)) (fun y s₆ => CEnd s g C ot (J (i + 1) (ys ++ [y])) s₆) (fun _ _ => False) s₅
        else CEnd s g C ot (J (i + 1) ys) s₅) (fun _ _ => False) s₄) (fun _ _ => False) { s with heap := h, toks := tk }
/-- what holds after -/
def CPost (s : Shared) (g : Heap) (L : Addr) (m : Str → Option Value) (news : List (Addr × Obj)) (J : List Value → Heap → Prop) (Q : Value → Shared → Prop) : Prop :=
  ∀ D h' tk ys k, Fr g L h' m → News g L h' ((D, W.listOf (List.toArray ys) k) :: news) → (∀ p ∈ news, @Ne Nat p.1 D) → s.heap.get? D = none → J ys h' → (∀ b o, s.heap.get? b = some o → h'.get? b = some o) → Q (.ref D) { s with heap := h', toks := tk }
def CStart (prog : Program) (w : World) (A : Around) (env : Env) (scope : Scope) (cl : List (Str × Addr)) (target elt : PySem.Expr) (ifs : List PySem.Expr) (Q : Value → Shared → Prop) (it : Value) (s₂ : Shared) : Prop :=
  ∃ I fp wr n P St J X, it = .ref I ∧ CompTurn prog w A env scope cl target elt ifs I fp wr n P St J X s₂ ∧
      (∀ D h' tk ys k, s₂.heap.get? D = none → h'.get? D = some (W.listOf (List.toArray ys) k) → J n ys h' → (∀ b o, b ∉ wr → ¬ X b → s₂.heap.get? b = some o → h'.get? b = some o) → Q (.ref D) { s₂ with heap := h', toks := tk })
def CStartA (prog : Program) (w : World) (A : Around) (env : Env) (scope : Scope) (cl : List (Str × Addr)) (target elt : PySem.Expr) (ifs : List PySem.Expr) (y : Str) (Q : Flow → Shared → Prop) (it : Value) (s₂ : Shared) : Prop :=
  ∃ I fp wr n P St J X m, it = .ref I ∧ CompTurn prog w A env scope cl target elt ifs I fp wr n P St J X s₂ ∧ env.locals ∉ wr ∧ ¬ X env.locals ∧ s₂.heap.Ns env.locals m ∧
      (∀ D h' tk ys k, s₂.heap.get? D = none → h'.get? D = some (W.listOf (List.toArray ys) k) → J n ys h' → h'.Ns env.locals (fun z => if z = y then some (.ref D) else m z) → (∀ b o, b ≠ env.locals → b ∉ wr → ¬ X b → s₂.heap.get? b = some o → h'.get? b = some o) → Q .next { s₂ with heap := h', toks := tk })
theorem comp_list {items : Array Value} {Q : Value → Shared → Prop} (hh : A.handled = none) (F : Fr g L s.heap m) (N : News g L s.heap news) (hl : s.heap.IsList l items) (hz : items.size < 1000)
    (hgo : ∀ (it : Addr) (v : Value) (s₁ : Shared) (o : Obj) (vs : Array Value) (Q : Unit → Shared → Prop) (E : Value → Shared → Prop), s₁.heap.get? it = some o → o.cls = .type "list_iterator" → o.data = .fields vs → Q () s₁ → wpAny (model prog w) A (letOwnedTupleGo target (.ref it) v) Q E s₁)
    (J : Nat → List Value → Heap → Prop) (h0 : ∀ h, (∀ b o, s.heap.get? b = some o → h.get? b = some o) → J 0 [] h) (hkeep : ∀ i ys h h', J i ys h → (∀ b o, h.get? b = some o → IsT o → h'.get? b = some o) → J i ys h')
    (turn : CItem prog w A s g news env scope cl target elt ifs (fun i v => items[i]? = some v) J) (post : CPost s g L m news (J items.size) Q) :
    wpAny (model prog w) A (pyIter (.ref l)) (CStart prog w A env scope cl target elt ifs Q) E s := by
  refine list_start2 F N hl fun it h' e0 n1 n2 n3 n4 hit hl' F' N' k' b1 b2 => ?_
  refine ⟨it, [it, l], [it], items.size, _, _, J, fun _ => False, rfl, ct_any (Walks.list hh it l n1 items) hz ⟨hit, hl'⟩ (by simp; exact ⟨b1, b2⟩) F' N' n3 n4 ?_ ?_ J (h0 _ k') hkeep ?_, ?_⟩
  · intro i v s₁ Q E hS hQ
    obtain ⟨o, ho, hc, hd⟩ := hS.1
    exact hgo it v s₁ o _ Q E ho hc hd hQ
  · rintro i h ⟨⟨o, ho, hc, hd⟩, _⟩ o' ho' ⟨xs, k, rfl⟩
    rw [ho] at ho'; cases ho'; simp at hc
  · intro C i v ys h tk m₃ ot hi hP hJ hF hN hk
    exact turn C i v ys h tk m₃ ot hP hJ hF hN ⟨fun b o e => hk.1 b o (by rintro rfl; rw [e0] at e; cases e) (k' b o e), hk.2⟩
  · intro D h2 tk ys k hD hl2 hJ hk
    replace hk := fun b o hb => hk b o hb id
    have k2 : ∀ b o, b ≠ it → h'.get? b = some o → h2.get? b = some o := fun b o hb e => hk b o (by simpa using hb) e
    refine post D h2 tk ys k (frWr F' hk (by simpa using Ne.symm n2) (by simpa using n3)) (newsMore (newsWr N' hk (by simpa using n4)) hl2 ?_ ?_) ?_ ?_ hJ fun b o e => k2 b o (by rintro rfl; rw [e0] at e; cases e) (k' b o e)
    · rintro rfl; obtain ⟨_, _, _, ho, _⟩ := F'.ns; rw [hD] at ho; cases ho
    · cases q : g.get? D with | none => rfl | some o => rw [F'.keep _ _ q] at hD; cases hD
    · intro p hp e; have := (N' p hp).1; rw [e, hD] at this; cases this
    · cases q : s.heap.get? D with | none => rfl | some o => rw [k' _ _ q] at hD; cases hD
theorem comp_range {x : Str} {px : Pos} {n : Nat} {t u v : Tok} {Q : Value → Shared → Prop} (hh : A.handled = none) (F : Fr g L s.heap m) (N : News g L s.heap news) (hr : IsRange s.heap l 0 n 1 t u v) (hz : n < 1000)
    (J : Nat → List Value → Heap → Prop) (h0 : ∀ h, (∀ b o, s.heap.get? b = some o → h.get? b = some o) → J 0 [] h) (hkeep : ∀ i ys h h', J i ys h → (∀ b o, h.get? b = some o → IsT o → h'.get? b = some o) → J i ys h')
    (turn : CItem prog w A s g news env scope cl (.Name x px) elt ifs (fun i v => i < n ∧ ∃ t, v = .int (i : Nat) t) J) (post : CPost s g L m news (J n) Q) :
    wpAny (model prog w) A (pyIter (.ref l)) (CStart prog w A env scope cl (.Name x px) elt ifs Q) E s := by
  refine range_start2 F N hr hz fun it h' e0 n2 n3 n4 hit F' N' k' b1 => ?_
  refine ⟨it, [it], [it], n, _, _, J, fun _ => False, rfl, ct_any (Walks.range hh it 0 1 n) hz hit (by simpa using b1) F' N' n3 n4 ?_ ?_ J (h0 _ k') hkeep ?_, ?_⟩
  · intro i v s₁ Q E hS hQ
    exact go_name it i v s₁ Q E hQ
  · rintro i h hS o' ho' ⟨xs, k, rfl⟩
    have hS' : h.get? it = some _ := hS
    rw [hS'] at ho'; simp at ho'
  · rintro C i v ys h tk m₃ ot hi ⟨tv, rfl⟩ hJ hF hN hk
    exact turn C i _ ys h tk m₃ ot ⟨hi, tv, by simp⟩ hJ hF hN ⟨fun b o e => hk.1 b o (by rintro rfl; rw [e0] at e; cases e) (k' b o e), hk.2⟩
  · intro D h2 tk ys k hD hl2 hJ hk
    replace hk := fun b o hb => hk b o hb id
    have k2 : ∀ b o, b ≠ it → h'.get? b = some o → h2.get? b = some o := fun b o hb e => hk b o (by simpa using hb) e
    refine post D h2 tk ys k (frWr F' hk (by simpa using Ne.symm n2) (by simpa using n3)) (newsMore (newsWr N' hk (by simpa using n4)) hl2 ?_ ?_) ?_ ?_ hJ fun b o e => k2 b o (by rintro rfl; rw [e0] at e; cases e) (k' b o e)
    · rintro rfl; obtain ⟨_, _, _, ho, _⟩ := F'.ns; rw [hD] at ho; cases ho
    · cases q : g.get? D with | none => rfl | some o => rw [F'.keep _ _ q] at hD; cases hD
    · intro p hp e; have := (N' p hp).1; rw [e, hD] at this; cases this
    · cases q : s.heap.get? D with | none => rfl | some o => rw [k' _ _ q] at hD; cases hD
theorem comp_rangeA {y : Str} {x : Str} {px : Pos} {n : Nat} {t u v : Tok} {Q : Flow → Shared → Prop} (hL : env.locals = L) (hh : A.handled = none) (F : Fr g L s.heap m) (N : News g L s.heap news) (hr : IsRange s.heap l 0 n 1 t u v) (hz : n < 1000)
    (J : Nat → List Value → Heap → Prop) (h0 : ∀ h, (∀ b o, s.heap.get? b = some o → h.get? b = some o) → J 0 [] h) (hkeep : ∀ i ys h h', J i ys h → (∀ b o, h.get? b = some o → IsT o → h'.get? b = some o) → J i ys h')
    (turn : CItem prog w A s g news env scope cl (.Name x px) elt ifs (fun i v => i < n ∧ ∃ t, v = .int (i : Nat) t) J) (post : ∀ D h' tk ys k, Fr g L h' (fun z => if z = y then some (.ref D) else m z) → News g L h' ((D, W.listOf (List.toArray ys) k) :: news) → (∀ p ∈ news, @Ne Nat p.1 D) → s.heap.get? D = none → J n ys h' → (∀ b o, b ≠ L → s.heap.get? b = some o → h'.get? b = some o) → Q .next { s with heap := h', toks := tk }) :
    wpAny (model prog w) A (pyIter (.ref l)) (CStartA prog w A env scope cl (.Name x px) elt ifs y Q) E s := by
  refine range_start2 F N hr hz fun it h' e0 n2 n3 n4 hit F' N' k' b1 => ?_
  subst hL
  refine ⟨it, [it], [it], n, _, _, J, fun _ => False, m, rfl, ct_any (Walks.range hh it 0 1 n) hz hit (by simpa using b1) F' N' n3 n4 ?_ ?_ J (h0 _ k') hkeep ?_, by simpa using Ne.symm n2, id, F'.ns, ?_⟩
  · intro i v s₁ Q E hS hQ
    exact go_name it i v s₁ Q E hQ
  · rintro i h hS o' ho' ⟨xs, k, rfl⟩
    have hS' : h.get? it = some _ := hS
    rw [hS'] at ho'; simp at ho'
  · rintro C i v ys h tk m₃ ot hi ⟨tv, rfl⟩ hJ hF hN hk
    exact turn C i _ ys h tk m₃ ot ⟨hi, tv, by simp⟩ hJ hF hN ⟨fun b o e => hk.1 b o (by rintro rfl; rw [e0] at e; cases e) (k' b o e), hk.2⟩
  · intro D h2 tk ys k hD hl2 hJ hns hk
    replace hk := fun b o hl hb => hk b o hl hb id
    have hLg : g.get? env.locals = none := noneAt F'.above
    refine post D h2 tk ys k ⟨hns, fun b o e => hk b o (by rintro rfl; rw [hLg] at e; cases e) (by simp; rintro rfl; rw [n3] at e; cases e) (F'.keep _ _ e), F'.above⟩ (newsMore (fun p hp => ⟨hk _ _ (N' p hp).2.1 (by simpa using n4 p hp) (N' p hp).1, (N' p hp).2⟩) hl2 ?_ ?_) ?_ ?_ hJ fun b o hb e => hk b o hb (by simp; rintro rfl; rw [e0] at e; cases e) (k' b o e)
    · rintro rfl; obtain ⟨_, _, _, ho, _⟩ := F'.ns; rw [hD] at ho; cases ho
    · cases q : g.get? D with | none => rfl | some o => rw [F'.keep _ _ q] at hD; cases hD
    · intro p hp e; have := (N' p hp).1; rw [e, hD] at this; cases this
    · cases q : s.heap.get? D with | none => rfl | some o => rw [k' _ _ q] at hD; cases hD
theorem comp_evalC {Q : Value → Shared → Prop} {iter : PySem.Expr} {pos : Pos}
    (hclos : closureFor scope env = pure cl) (hcell : ∀ y ∈ scope.names, y.2 ≠ .cell) (hkind : scope.kind = .function)
    (hnames : ∀ y ∈ scope.names, y.2 = .local → scope.names.lookup y.1 = some .local)
    (h : wpAny (model prog w) A (eval iter env) (fun xv s₁ => wpAny (model prog w) A (pyIter xv) (CStart prog w A env scope cl target elt ifs Q) E s₁) E s)
    (hs : ∀ x, foldedSetIterable iter env x = pure x := by intro _; rfl) :
    wpAny (model prog w) A (eval (.ListComp elt [⟨target, iter, ifs, 0⟩] scope pos) env) Q E s := comp_eval hclos hcell hkind hnames h hs
theorem comp_assignC {Q : Flow → Shared → Prop} {y : Str} {py spos pos : Pos} {iter : PySem.Expr}
    (hsw : swapsWith (.ListComp elt [⟨target, iter, ifs, 0⟩] scope pos) (some (.Name y py)) spos.line env = pure true)
    (hclos : closureFor scope env = pure cl) (hcell : ∀ y ∈ scope.names, y.2 ≠ .cell) (hkind : scope.kind = .function)
    (hnames : ∀ y ∈ scope.names, y.2 = .local → scope.names.lookup y.1 = some .local)
    (hy : env.kindOf y = some .local) (hp : (env.scope.kind == .class || (env.scope.kind == .module && env.locals != env.globals)) = false)
    (h : wpAny (model prog w) A (eval iter env) (fun xv s₁ => wpAny (model prog w) A (pyIter xv) (CStartA prog w A env scope cl target elt ifs y Q) E s₁) E s)
    (hs : ∀ x, foldedSetIterable iter env x = pure x := by intro _; rfl) :
    wpAny (model prog w) A (exec (.Assign [.Name y py] (.ListComp elt [⟨target, iter, ifs, 0⟩] scope pos) spos) env) Q E s := comp_assign hsw hclos hcell hkind hnames hy hp h hs
theorem cld {M : Model} {C : Addr} {x : Str} {pos : Pos} {v : Value} {Q : Value → Shared → Prop} (F : Fr g C s.heap m) (hv : m x = some v) (h : Q v s)
    (hk : (compEnvC scope cl C env).scope.kind = .function := by rfl) (hl : (compEnvC scope cl C env).kindOf x = some .local := by rfl) (hd : (x == ("__debug__" : Str)) = false := by decide) :
    wpAny M A (eval (.Name x pos) (compEnvC scope cl C env)) Q E s := wpAny_Name (wpAny_loadName_local hk hl F.ns hv h) hd
theorem cstore {C : Addr} {x : Str} {v : Value} {Q : Unit → Shared → Prop} (F : Fr g C s.heap m) (N : News g C s.heap news)
    (h : ∀ h', Fr g C h' (fun y => if y = x then some v else m y) → News g C h' news → Q () { s with heap := h', toks := s.toks + 1 })
    (hl : (compEnvC scope cl C env).kindOf x = some .local := by rfl) (hk : ((compEnvC scope cl C env).scope.kind == .class || ((compEnvC scope cl C env).scope.kind == .module && (compEnvC scope cl C env).locals != (compEnvC scope cl C env).globals)) = false := by rfl) :
    wpAny (model prog w) A (storeName (compEnvC scope cl C env) x v) Q E s :=
  wpAny_storeName_local hl F.ns (fun h' hn hs => h h' (F.set hn hs) (N.set hs)) hk
theorem ctest0 {cenv : Env} {Q : Bool → Shared → Prop} (h : Q true s) : wpAny (model prog w) A (compTest [] cenv) Q E s := wpAny_pure h
theorem ctest1 {c : PySem.Expr} {cenv : Env} {Q : Bool → Shared → Prop} (h : wpAny (model prog w) A (isTrue c cenv (eval c cenv)) Q E s) : wpAny (model prog w) A (compTest [c] cenv) Q E s := by
  unfold compTest
  simp only [List.forIn_cons, List.forIn_nil, if_true]
  refine wpAny_bind (wpAny_bind (wpAny_mono h (fun ok s' q => ?_) fun _ _ e => e))
  exact wpAny_pure (wpAny_pure q)
end
end
local macro_rules | `(tactic| walk_at "eval Name") => `(tactic| ((with_reducible show wpAny _ _ (eval (Expr.Name _ _) (compEnvC _ _ _ _)) _ _ _); k_dflt (refine' cld ?k1 ?k2 ?_; (case k1 => k_asm); (case k2 => ktr_unf))))
section
set_option maxHeartbeats 1000000
theorem lay_fresh (led : Bool) (h : Int) (x : Value) : layNew (SetTable.fresh 0 0 led) #[] h x = (#[(h, x)], { SetTable.fresh 0 0 led with place := #[SetTable.bits h % 8] }, false, false) := by
  have e : (SetTable.fresh 0 0 led).freeSlot h = some (SetTable.bits h % 8, false) := by
    unfold SetTable.freeSlot SetTable.probe
    have e1 : (10 * SetTable.turns (SetTable.fresh 0 0 led).mask) = 219 + 1 := rfl
    rw [e1, SetTable.probe.go]
    rfl
  unfold layNew
  rw [e]
  rfl
noncomputable def byTx (w : World) : Bool := w.params.followText "set-order"
noncomputable def tb1 (w : World) (j : Nat) : SetTable := { mask := 7, place := #[j], dummies := #[], finger := 0, led := !byTx w, moves := 0, plain := false }
noncomputable abbrev set1 (w : World) (j ep : Nat) (x : Str) (t : Tok) : Obj := ⟨.type "set", none, .set #[(PyData.keyHash w.params x, .str x t)] ep (tb1 w j), #[]⟩
noncomputable abbrev set0 (w : World) : Obj := ⟨.type "set", none, .set #[] 0 (.fresh 0 0 (!byTx w)), #[]⟩
section
variable {prog : Program} {w : World} {A : Around} {E : Value → Shared → Prop} {s : Shared}
theorem add1 {S : Addr} {x : Str} {t : Tok} {Q : Bool → Shared → Prop} (ho : s.heap.get? S = some (set0 w))
    (h : ∀ h' tk, Heap.SameBut S s.heap h' → h'.get? S = some (set1 w (SetTable.bits (PyData.keyHash w.params x) % 8) 1 x t) → Q true { s with heap := h', toks := tk }) :
    wpAny (model prog w) A (setAdd S (.str x t)) Q E s := by
  unfold setAdd
  refine wpAny_holding ?_
  refine wpAny_bind ((strKind prog w).pyHash (k := x) (strKind_is _ _ _ _) ?_)
  unfold setAddHashed setAddHashedIn
  refine wpAny_holding (wpAny_bind (wpAny_setState_of (s := { s with toks := s.toks + 1 }) ho rfl rfl ?_))
  dsimp only
  rw [show byScan (.str x t) #[] = true by simp [byScan, Value.scannable, scanBound]]
  simp only [↓reduceIte]
  unfold setAddByScan
  refine wpAny_bind ?_
  refine wpAny_bind (wpAny_rule ?_)
  have hsc : setScan S (.str x t) ((strKind prog w).hash x) true #[] = pure .absent := by simp [setScan, setScanStrs]
  rw [hsc]
  refine wpAny_bind (wpAny_pure ?_)
  have hh : (strKind prog w).hash x = PyData.keyHash w.params x := rfl
  rw [hh, lay_fresh]
  dsimp only
  refine wpAny_bind (wpAny_of_eq (a := ()) rfl ?_)
  rw [if_pos (show (SetTable.fresh 0 0 !byTx w).plain = true from rfl)]
  refine wpAny_bind (wpAny_of_eq (a := false) rfl ?_)
  simp only [Bool.false_eq_true, if_false]
  refine wpAny_bind (wpAny_storeSet_of (s := { s with toks := s.toks + 1 }) ho rfl ?_ (by rw [sizeLine_eq]; exact Nat.le_of_ble_eq_true rfl))
  rw [if_neg (show ¬ ((!false && SetTable.tooFull _) = true) from by simp [SetTable.tooFull, SetTable.fill, SetTable.fresh])]
  refine wpAny_pure (wpAny_pure (h _ _ (Heap.SameBut.update ..) ?_))
  have := Heap.get?_update_self (Obj.putSet #[(PyData.keyHash w.params x, Value.str x t)] (tb1 w (SetTable.bits (PyData.keyHash w.params x) % 8))) ho rfl
  exact this
theorem new_spec (prog : Program) (w : World) (a : Value) : MeetsIn prog w (Builtin.«set.__new__» ⟨[.type "set", a], []⟩) (fun _ R s => R (.ok (.ret (.ref s.heap.objs.size))) { s with heap := s.heap.push (set0 w) }) := by
  intro A R s h
  have hs := sub_set_self
  unfold Builtin.«set.__new__» Builtin.Frozenset.newClass
  wp_walk
  refine wpAny_askSetting (wpAny_pure (wpAny_newObj_type (wpAny_pure h) ?_))
  size_fits
theorem set_new (a : Value) {P : Value → Shared → Prop} (h : P (.ref s.heap.objs.size) { s with heap := s.heap.push (set0 w) }) : codeAny (model prog w) A (.call (.builtin "set.__new__") ⟨[.type "set", a], []⟩) (wants P E) s := by
  refine codeAny_call_builtin_at (plainId_quiet F.plain_set_new _) F.entry_set_new (wpAny_of_eq (F.newCall_set_1 a) ?_)
  have q := new_spec prog w a A (wants P E) s h
  rwa [← Around.under_plainId F.plain_set_new ⟨[.type "set", a], []⟩] at q
/-- one step of set.update's loop, by what it does with the iterator's next -/
theorem upd_step {S I : Addr} {R : Result → Shared → Prop} (h : wpAny (model prog w) A.in1 (pyNext (.ref I)) (fun r t => match r with
      | some v => wpAny (model prog w) A.in1 (setAdd S v) (fun _ t => codeAny (model prog w) A (.builtin "set.update.loop" ⟨[.ref S, .ref I], []⟩) R t) (fun e t => R (.error e) t) t
      | none => R (.ok (.ret .none)) t) (fun e t => R (.error e) t) s) : codeAny (model prog w) A (.builtin "set.update.loop" ⟨[.ref S, .ref I], []⟩) R s := by
  refine codeAny_builtin F.entry_set_update_loop ?_
  rw [Around.under_plainId F.plain_set_update_loop _]
  refine wpAny_bind (m := pyNext (.ref I)) (wpAny_mono h (fun r t q => ?_) fun _ _ q => q)
  match r with
  | none => exact wpAny_pure q
  | some v => exact wpAny_bind (wpAny_holding (wpAny_mono q (fun _ t k => wpAny_pure ⟨plainId_quiet F.plain_set_update_loop _, k⟩) fun _ _ k => k))
/-- the loop of set.update over one text -/
theorem upd_one {S I l : Addr} {x : Str} {t : Tok} {R : Result → Shared → Prop} (hh : A.handled = none) (hS : s.heap.get? S = some (set0 w)) (hit : s.heap.IsListIter I l 0) (hl : s.heap.IsList l #[.str x t]) (hSI : S ≠ I) (hSl : S ≠ l) (hIl : l ≠ I)
    (h : ∀ h' j tk, h'.get? S = some (set1 w j 1 x t) → (∀ b o, b ≠ S → b ≠ I → s.heap.get? b = some o → h'.get? b = some o) → R (.ok (.ret .none)) { s with heap := h', toks := tk }) :
    codeAny (model prog w) A (.builtin "set.update.loop" ⟨[.ref S, .ref I], []⟩) R s := by
  refine upd_step (wpAny_pyNext_list_item hit hl (x := .str x t) rfl fun g1 i1 b1 => ?_)
  refine add1 (s := { s with heap := g1 }) (b1.extBut _ _ hSI hS) fun g2 tk b2 o2 => ?_
  refine upd_step (wpAny_pyNext_list_end (s := { s with heap := g2, toks := tk }) (i := 1) hh (i1.extBut b2.extBut (Ne.symm hSI)) ((hl.extBut b1.extBut hIl).extBut b2.extBut (Ne.symm hSl)) rfl fun g3 b3 => ?_)
  exact h g3 _ tk (b3 _ _ hSI o2) fun b o q1 q2 e => b3 b o q2 (b2.extBut b o q1 (b1.extBut b o q2 e))
/-- set(a), by what its __init__ does with the new set -/
theorem set_call {a : Value} {Q : Value → Shared → Prop}
    (h : codeAny (model prog w) A.in1 (.call (.builtin "set.__init__") ⟨[.ref s.heap.objs.size, a], []⟩) (wants (fun r t => r = .none ∧ Q (.ref s.heap.objs.size) t) E) { s with heap := s.heap.push (set0 w) }) :
    wpAny (model prog w) A (call (.type "set") [a]) Q E s := by
  have m := F.called_set
  obtain ⟨c, tl, e1⟩ := m.mro
  have e2 := m.made
  have e3 := m.sub
  have e4 := m.notType
  have e5 := m.canCreate
  have e6 := F.typeCall_set_1 a
  have o : Shared.TypeIs { s with heap := s.heap.push (set0 w) } (.ref s.heap.objs.size) "set" := ⟨_, Heap.get?_push_size _ rfl, rfl⟩
  have e7 := m.init.lookup
  have e8 := m.init.bind (.ref s.heap.objs.size)
  refine wpAny_call (codeAny_of_tree (wpAny_pure ⟨Code.quiet_builtin _ (by decide +kernel), codeAny_builtin F.entry_type_call ?_⟩))
  rw [Around.under_plain (weight_type_call_type "set" [a] []) rfl]
  wp_walk
  refine codeAny_mono (set_new a (E := E) (P := fun v t => v = .ref s.heap.objs.size ∧ t = { s with heap := s.heap.push (set0 w) }) ⟨rfl, rfl⟩) ?_
  rintro (x | ⟨⟩ | ⟨⟩ | ⟨⟩ | v) t q
  all_goals first | exact q | exact q.elim | skip
  obtain ⟨rfl, rfl⟩ := q
  wp_walk
  refine codeAny_mono h ?_
  rintro (x | ⟨⟩ | ⟨⟩ | ⟨⟩ | v) t q
  all_goals first | exact q | exact q.elim | skip
  obtain ⟨rfl, q⟩ := q
  wp_walk
  exact q
/-- its __init__ upon a list with one text -/
theorem set_init {S l : Addr} {x : Str} {t : Tok} {n : Nat} {Q : Shared → Prop} (hh : A.handled = none) (hS : s.heap.get? S = some (set0 w)) (hl : s.heap.get? l = some (W.listOf #[.str x t] n))
    (h : ∀ h' j tk, h'.get? S = some (set1 w j 1 x t) → (∀ b o, b ≠ S → s.heap.get? b = some o → h'.get? b = some o) → Q { s with heap := h', toks := tk }) :
    codeAny (model prog w) A (.call (.builtin "set.__init__") ⟨[.ref S, .ref l], []⟩) (wants (fun r t => r = .none ∧ Q t) E) s := by
  have hT : s.TypeIs (.ref S) "set" := ⟨_, hS, rfl⟩
  have hL : s.heap.IsList l #[.str x t] := ⟨_, hl, rfl, n, rfl⟩
  refine codeAny_call_builtin F.called_set.init.plain F.entry_set_init (check_set_init_1 hT ?_)
  have k1 := F.sub_list_set
  have k2 := F.sub_list_frozenset
  unfold Builtin.«set.__init__» noKeywords Builtin.Frozenset.updateFrom
  wp_walk using wpAny_pyIter_list hL
  have sl : S ≠ l := by
    rintro rfl
    rw [hS] at hl
    simp [W.listOf] at hl
  refine upd_one hh (Heap.get?_push_of_some _ hS) ⟨_, Heap.get?_push_size _ rfl, rfl, rfl⟩ (hL.push _) (Nat.ne_of_lt (Heap.lt_size hS)) sl (Nat.ne_of_lt (Heap.lt_size hl)) fun h' j tk o k => ?_
  exact wpAny_pure (wpAny_pure ⟨rfl, h h' j tk o fun b o hb e => k b o hb (Nat.ne_of_lt (Heap.lt_size e)) (Heap.get?_push_of_some _ e)⟩)
/-- set(l) of a list with one text -/
theorem set_of_one {l : Addr} {x : Str} {t : Tok} {n : Nat} {Q : Value → Shared → Prop}
    (hh : A.handled = none) (hol0 : s.heap.get? l = some (W.listOf #[.str x t] n))
    (h : ∀ h' j tk, h'.get? s.heap.objs.size = some (set1 w j 1 x t) →
      (∀ b o, b < s.heap.objs.size → s.heap.get? b = some o → h'.get? b = some o) → Q (.ref s.heap.objs.size) { s with heap := h', toks := tk }) :
    wpAny (model prog w) A (call (.type "set") [.ref l]) Q E s :=
  set_call (set_init (A := A.in1) hh (Heap.get?_push_size _ rfl) (Heap.get?_push_of_some _ hol0) fun h' j tk o k => h h' j tk o fun b o hb e => k b o (Nat.ne_of_lt hb) (Heap.get?_push_of_some _ e))
end
end
section
set_option maxHeartbeats 1000000
theorem slot_setit_next : Slot "set_iterator" "__next__" "set_iterator.__next__" :=
  .of (owner := "set_iterator") (n := "__next__") (by rw [typeLookup_type, builtinLookup_eq_fast]; kernel_rfl) (by decide +kernel) (by decide +kernel) (by decide +kernel)
    (by first | exact .inl (by decide +kernel) | exact .inr (by decide +kernel)) (by rw [isSubtype_type]; kernel_rfl)
theorem entry_setit_next : entryFor table "set_iterator.__next__" = some Builtin.«set_iterator.__next__» := entryFor_of_tree (by kernel_rfl)
theorem args_setit_next (a : Value) : argsOk "set_iterator.__next__" ⟨[a], []⟩ := by unfold argsOk; kernel_rfl
theorem slot_setit_iter : Slot "set_iterator" "__iter__" "set_iterator.__iter__" :=
  .of (owner := "set_iterator") (n := "__iter__") (by rw [typeLookup_type, builtinLookup_eq_fast]; kernel_rfl) (by decide +kernel) (by decide +kernel) (by decide +kernel)
    (by first | exact .inl (by decide +kernel) | exact .inr (by decide +kernel)) (by rw [isSubtype_type]; kernel_rfl)
theorem entry_setit_iter : entryFor table "set_iterator.__iter__" = some Builtin.«dict_keyiterator.__iter__» :=
  entryFor_alias (id' := "dict_keyiterator.__iter__") (by kernel_rfl) (by first | rfl | decide +kernel | (unfold String.splitOn; simp +decide [String.splitOnAux])) (by decide +kernel) (by kernel_rfl)
theorem args_setit_iter (a : Value) : argsOk "set_iterator.__iter__" ⟨[a], []⟩ := by unfold argsOk; kernel_rfl
theorem entry_set_iter : entryFor table "set.__iter__" = some Builtin.«frozenset.__iter__» :=
  entryFor_alias (id' := "frozenset.__iter__") (by kernel_rfl) (by first | rfl | decide +kernel | (unfold String.splitOn; simp +decide [String.splitOnAux])) (by decide +kernel) (by kernel_rfl)
noncomputable abbrev setIt (S : Addr) (f i n ep : Nat) : Obj := ⟨.type "set_iterator", none, .fields #[rawInt f, rawInt i, .ref S, rawInt n, rawInt ep], #[]⟩
theorem le1 {α : Type} (es : Array α) (h : es.size ≤ 1) : (∃ a, es = #[a]) ∨ es = #[] := by
  obtain ⟨l⟩ := es
  match l, h with
  | [], _ => exact .inr rfl
  | [a], _ => exact .inl ⟨a, rfl⟩
theorem is1 {α β : Type} (es : Array (α × β)) (h0 : 0 < es.size) (h : es.size ≤ 1) : ∃ a b, es = #[(a, b)] := by
  rcases le1 es h with ⟨⟨a, b⟩, rfl⟩ | rfl
  · exact ⟨a, b, rfl⟩
  · exact absurd h0 (Nat.lt_irrefl _)
/-- what is known of a set of at most one text -/
structure SetSmall (w : World) (o : Obj) (es : Array (Int × Value)) (ep : Nat) (tb : SetTable) : Prop where
  eq : o = ⟨.type "set", none, .set es ep tb, #[]⟩
  small : es.size ≤ 1
  fits : tb.fits es.size = true
  led : (tb.led = true ∨ es.size = 0 ∨ byTx w = true)
theorem small0 (w : World) : SetSmall w (set0 w) #[] 0 (.fresh 0 0 (!byTx w)) := ⟨rfl, Nat.zero_le _, rfl, .inr (.inl rfl)⟩
theorem small1 (w : World) (j ep : Nat) (x : Str) (t : Tok) : SetSmall w (set1 w j ep x t) #[(PyData.keyHash w.params x, .str x t)] ep (tb1 w j) := by
  refine ⟨rfl, Nat.le_refl _, rfl, ?_⟩
  cases h : byTx w with
  | true => exact .inr (.inr rfl)
  | false => exact .inl (by simp [tb1, h])
section
variable {prog : Program} {w : World} {A : Around} {E : Value → Shared → Prop} {s : Shared} {S : Addr} {o : Obj} {es : Array (Int × Value)} {ep : Nat} {tb : SetTable}
theorem set_iter {Q : Value → Shared → Prop} (ho : s.heap.get? S = some o) (k : SetSmall w o es ep tb) (hQ : Q (.ref s.heap.objs.size) { s with heap := s.heap.push (setIt S 0 0 es.size ep) }) :
    wpAny (model prog w) A (pyIter (.ref S)) Q E s := by
  have hd : o.data = .set es ep tb := by rw [k.eq]
  have hT : s.TypeIs (.ref S) "set" := ⟨_, ho, by rw [k.eq]⟩
  refine wpAny_pyIter_slot hT F.slot_set_iter (wpAny_call_entry F.slot_set_iter hT entry_set_iter ?_ (F.args_set_iter_1 _))
  unfold Builtin.«frozenset.__iter__»
  show wpAny _ _ (Builtin.Frozenset.sizeOf S >>= _) _ _ s
  unfold Builtin.Frozenset.sizeOf setEntries
  refine wpAny_bind (wpAny_bind (wpAny_bind (wpAny_setState_of ho hd k.fits (wpAny_pure (wpAny_pure ?_)))))
  unfold setDrawn
  refine wpAny_bind (wpAny_bind (wpAny_setState_of ho hd k.fits ?_))
  unfold setsByText
  refine wpAny_bind (wpAny_bind (wpAny_askSetting (wpAny_pure (wpAny_pure ?_))))
  have hsz : decide (es.size > 1) = false := by have := k.small; simp; omega
  show wpAny _ _ (if (!byTx w && (!tb.plain && decide (es.size > 1))) = true then _ else _) _ _ _
  rw [hsz, Bool.and_false, Bool.and_false, if_neg Bool.false_ne_true]
  refine wpAny_bind (wpAny_pure ?_)
  unfold setEpoch
  refine wpAny_bind (wpAny_bind (wpAny_setState_of ho hd k.fits (wpAny_pure ?_)))
  show wpAny _ _ (newFields "set_iterator" [rawInt 0, rawInt 0, Value.ref S, rawInt es.size, rawInt ep] >>= _) _ _ _
  unfold newFields
  refine wpAny_bind (wpAny_newObj_type ?_ (by size_fits))
  exact wpAny_pure ⟨_, rfl, "set_iterator", _, ⟨_, Heap.get?_push_size _ rfl, rfl⟩, slot_setit_next.lookup, hQ⟩
theorem pick1 {α : Type} (f : Nat → Nat) (a : α) : pickOrder f #[a] = #[a] := by
  unfold pickOrder
  show pickOrder.go f 1 0 [a] #[] = #[a]
  unfold pickOrder.go
  simp [Nat.mod_one]
  rfl
theorem pick0 {α : Type} (f : Nat → Nat) : pickOrder f (#[] : Array α) = #[] := rfl
theorem below_lo (j : Nat) : SetTable.below #[j] 0 = 0 := by
  unfold SetTable.below
  show SetTable.below.go #[j] 0 1 0 1 = 0
  simp [SetTable.below.go]
theorem below_hi (j : Nat) : SetTable.below #[j] (j + 1) = 1 := by
  unfold SetTable.below
  show SetTable.below.go #[j] (j + 1) 1 0 1 = 1
  simp [SetTable.below.go]
theorem place1 (t : SetTable) (h : t.fits 1 = true) : ∃ j, t.place = #[j] := by
  have h1 : t.place.size = 1 := by
    unfold SetTable.fits at h
    simp at h
    exact h.1
  obtain ⟨l, hl⟩ : ∃ l, t.place = ⟨l⟩ := ⟨t.place.toList, rfl⟩
  rw [hl] at h1 ⊢
  match l, h1 with
  | [j], _ => exact ⟨j, rfl⟩
theorem setNext_0 {h0 : Int} {v : Value} {Q : Option (Value × Nat) → Shared → Prop} (ho : s.heap.get? S = some o) (k : SetSmall w o #[(h0, v)] ep tb)
    (hQ : ∀ f, (byTx w = true ∨ ∃ j, tb.place = #[j] ∧ f = j + 1) → Q (some (v, f)) s) : wpAny (model prog w) A (setNext S 0 0 ep) Q E s := by
  have hd : o.data = .set #[(h0, v)] ep tb := by rw [k.eq]
  unfold setNext
  refine wpAny_bind (wpAny_setState_of ho hd k.fits ?_)
  unfold setsByText
  refine wpAny_bind (wpAny_bind (wpAny_askSetting (wpAny_pure ?_)))
  show wpAny _ _ (if byTx w = true then _ else _) _ _ _
  cases hb : byTx w with
  | true =>
    rw [if_pos rfl]
    show wpAny _ _ (if (ep != ep) = true then _ else _) _ _ _
    rw [if_neg (by simp)]
    unfold setWalk
    refine wpAny_bind (wpAny_bind (wpAny_setState_of ho hd k.fits ?_))
    unfold setsByText
    refine wpAny_bind (wpAny_bind (wpAny_askSetting (wpAny_pure ?_)))
    show wpAny _ _ (if byTx w = true then _ else _) _ _ _
    rw [if_pos hb]
    refine wpAny_bind (wpAny_askSetting (wpAny_pure ?_))
    rw [pick1]
    exact wpAny_pure (hQ 0 (.inl hb))
  | false =>
    rw [if_neg Bool.false_ne_true]
    have hsz : decide ((#[(h0, v)] : Array (Int × Value)).size > 1) = false := rfl
    show wpAny _ _ (if (!tb.plain && decide ((#[(h0, v)] : Array (Int × Value)).size > 1)) = true then _ else _) _ _ _
    rw [hsz, Bool.and_false, if_neg Bool.false_ne_true]
    have hl : tb.led = true := by
      rcases k.led with h | h | h
      · exact h
      · cases h
      · rw [hb] at h; cases h
    show wpAny _ _ ((if (!tb.led && !(#[(h0, v)] : Array (Int × Value)).isEmpty) = true then unsupported "set:maker-not-led" else pure ()) >>= _) _ _ _
    rw [hl, Bool.not_true, Bool.false_and, if_neg Bool.false_ne_true]
    refine wpAny_bind (wpAny_pure ?_)
    obtain ⟨j, hj⟩ := place1 tb k.fits
    rw [hj, below_lo]
    exact wpAny_pure (hQ (j + 1) (.inr ⟨j, hj, rfl⟩))
theorem setNext_1 {f : Nat} {Q : Option (Value × Nat) → Shared → Prop} (ho : s.heap.get? S = some o) (k : SetSmall w o es ep tb) (hf : es.size = 0 ∨ byTx w = true ∨ ∃ j, tb.place = #[j] ∧ f = j + 1)
    (hQ : Q none s) : wpAny (model prog w) A (setNext S f es.size ep) Q E s := by
  have hd : o.data = .set es ep tb := by rw [k.eq]
  have hes := le1 es k.small
  unfold setNext
  refine wpAny_bind (wpAny_setState_of ho hd k.fits ?_)
  unfold setsByText
  refine wpAny_bind (wpAny_bind (wpAny_askSetting (wpAny_pure ?_)))
  show wpAny _ _ (if byTx w = true then _ else _) _ _ _
  cases hb : byTx w with
  | true =>
    rw [if_pos rfl]
    show wpAny _ _ (if (ep != ep) = true then _ else _) _ _ _
    rw [if_neg (by simp)]
    unfold setWalk
    refine wpAny_bind (wpAny_bind (wpAny_setState_of ho hd k.fits ?_))
    unfold setsByText
    refine wpAny_bind (wpAny_bind (wpAny_askSetting (wpAny_pure ?_)))
    show wpAny _ _ (if byTx w = true then _ else _) _ _ _
    rw [if_pos hb]
    refine wpAny_bind (wpAny_askSetting (wpAny_pure ?_))
    rcases hes with ⟨a, rfl⟩ | rfl
    · rw [pick1]
      exact wpAny_pure hQ
    · exact wpAny_pure hQ
  | false =>
    rw [if_neg Bool.false_ne_true]
    have hsz : decide (es.size > 1) = false := by have := k.small; simp; omega
    show wpAny _ _ (if (!tb.plain && decide (es.size > 1)) = true then _ else _) _ _ _
    rw [hsz, Bool.and_false, if_neg Bool.false_ne_true]
    have hl : (!tb.led && !es.isEmpty) = false := by
      rcases k.led with h | h | h
      · rw [h]; rfl
      · rcases hes with ⟨a, rfl⟩ | rfl
        · cases h
        · simp
      · rw [hb] at h; cases h
    show wpAny _ _ ((if (!tb.led && !es.isEmpty) = true then unsupported "set:maker-not-led" else pure ()) >>= _) _ _ _
    rw [hl, if_neg Bool.false_ne_true]
    refine wpAny_bind (wpAny_pure ?_)
    rcases hes with ⟨a, rfl⟩ | rfl
    · rcases hf with h | h | ⟨j, hj, rfl⟩
      · cases h
      · rw [hb] at h; cases h
      · rw [hj, below_hi]
        exact wpAny_pure hQ
    · exact wpAny_pure hQ
theorem set_next0 {I : Addr} {h0 : Int} {v : Value} {Q : Option Value → Shared → Prop} (ho : s.heap.get? S = some o) (k : SetSmall w o #[(h0, v)] ep tb) (hi : s.heap.get? I = some (setIt S 0 0 1 ep))
    (hQ : ∀ h' f, (byTx w = true ∨ ∃ j, tb.place = #[j] ∧ f = j + 1) → h'.get? I = some (setIt S f 1 1 ep) → Heap.SameBut I s.heap h' → Q (some v) { s with heap := h' }) :
    wpAny (model prog w) A (pyNext (.ref I)) Q E s := by
  have hd : o.data = .set #[(h0, v)] ep tb := by rw [k.eq]
  have hT : s.TypeIs (.ref I) "set_iterator" := ⟨_, hi, rfl⟩
  unfold pyNext
  refine wpAny_bind (wpAny_attempt (wpAny_callSpecial?_slot (name := Str.ofString "__next__") hT slot_setit_next
    (wpAny_call_entry slot_setit_next hT entry_setit_next ?_ (args_setit_next _))))
  unfold Builtin.«set_iterator.__next__»
  show wpAny _ _ (fieldsOf (.ref I) >>= _) _ _ s
  refine wpAny_bind (wpAny_fieldsOf hi rfl ?_)
  show wpAny _ _ (setEntries S >>= _) _ _ s
  unfold setEntries
  refine wpAny_bind (wpAny_bind (wpAny_setState_of ho hd k.fits (wpAny_pure ?_)))
  show wpAny _ _ (setNext S 0 0 ep >>= _) _ _ s
  refine wpAny_bind (setNext_0 ho k fun f hf => ?_)
  show wpAny _ _ (setField (.ref I) 0 (rawInt f) >>= _) _ _ s
  refine wpAny_bind (wpAny_setField_rec hi (by simp) fun h1 ho1 hs1 => ?_)
  show wpAny _ _ (setField (.ref I) 1 (rawInt (((0 : Nat) : Int) + 1)) >>= _) _ _ _
  refine wpAny_bind (wpAny_setField_rec (s := { s with heap := h1 }) ho1 (by simp) fun h2 ho2 hs2 => ?_)
  exact wpAny_pure ⟨v, rfl, wpAny_pure (hQ h2 f hf ho2 (hs1.trans hs2))⟩
theorem set_next1 {I : Addr} {f : Nat} {Q : Option Value → Shared → Prop} (hh : A.handled = none) (ho : s.heap.get? S = some o) (k : SetSmall w o es ep tb) (hi : s.heap.get? I = some (setIt S f es.size es.size ep))
    (hf : es.size = 0 ∨ byTx w = true ∨ ∃ j, tb.place = #[j] ∧ f = j + 1)
    (hQ : ∀ h', Heap.ExtBut I s.heap h' → Q none { s with heap := h' }) :
    wpAny (model prog w) A (pyNext (.ref I)) Q E s := by
  have hd : o.data = .set es ep tb := by rw [k.eq]
  have hT : s.TypeIs (.ref I) "set_iterator" := ⟨_, hi, rfl⟩
  unfold pyNext
  refine wpAny_bind (wpAny_attempt (wpAny_callSpecial?_slot (name := Str.ofString "__next__") hT slot_setit_next
    (wpAny_call_entry slot_setit_next hT entry_setit_next ?_ (args_setit_next _))))
  unfold Builtin.«set_iterator.__next__»
  show wpAny _ _ (fieldsOf (.ref I) >>= _) _ _ s
  refine wpAny_bind (wpAny_fieldsOf hi rfl ?_)
  show wpAny _ _ (setEntries S >>= _) _ _ s
  unfold setEntries
  refine wpAny_bind (wpAny_bind (wpAny_setState_of ho hd k.fits (wpAny_pure ?_)))
  show wpAny _ _ (if (((es.size : Nat) : Int) != ((es.size : Nat) : Int)) = true then _ else _) _ _ s
  rw [if_neg (by simp)]
  show wpAny _ _ (setNext S f es.size ep >>= _) _ _ s
  refine wpAny_bind (setNext_1 ho k hf ?_)
  show wpAny _ _ (setField (.ref I) 2 Value.none >>= _) _ _ s
  refine wpAny_bind (wpAny_setField_rec hi (by simp) fun h1 ho1 hs1 => ?_)
  refine stop_raise hh fun h2 e k he => ?_
  exact wpAny_bind (wpAny_isInstance (b := true) he isSubtype_stop (wpAny_pure (hQ h2 fun b o hb q => k b o (hs1.extBut b o hb q))))
end
/-- the walk over a set of at most one text -/
theorem walksSet {prog : Program} {w : World} {A : Around} {S : Addr} {o : Obj} {es : Array (Int × Value)} {ep : Nat} {tb : SetTable} (hh : A.handled = none) (k : SetSmall w o es ep tb) (I : Addr) (hne : S ≠ I) :
    Walks prog w A I [I, S] [I] es.size (fun i v => ∃ e, es[i]? = some e ∧ v = e.2)
      (fun i h => ∃ f, h.get? I = some (setIt S f i es.size ep) ∧ h.get? S = some o ∧ ((i = 0 → f = 0) ∧ (es.size = 0 ∨ i = 0 ∨ byTx w = true ∨ ∃ j, tb.place = #[j] ∧ f = j + 1))) where
  sub := fun b hb => by simp at hb; simp [hb]
  frame := fun _ _ _ ⟨f, a, b, c⟩ hk => ⟨f, hk I (by simp) _ a, hk S (by simp) _ b, c⟩
  item := fun i s Q E hi ⟨f, a, b, c⟩ hQ => by
    have hi0 : i = 0 := by have := k.small; omega
    subst hi0
    obtain ⟨h0, v, rfl⟩ := is1 es hi k.small
    have hf := c.1 rfl
    subst hf
    exact set_next0 b k a fun h' f' hf' hi' hs' => hQ v h' s.toks ⟨_, rfl, rfl⟩ ⟨f', hi', (hs'.2 S hne).trans b, (fun h => by cases h), .inr (.inr hf')⟩ fun b' o' hb e => hs'.extBut b' o' (fun q => hb (by simp [q])) e
  done := fun s Q E ⟨f, a, b, c⟩ hQ => by
    refine set_next1 hh b k a ?_ fun h' he' => hQ h' s.toks fun b' o' hb e => he' b' o' (fun q => hb (by simp [q])) e
    rcases c.2 with h | h | h | h
    · exact .inl h
    · exact .inl h
    · exact .inr (.inl h)
    · exact .inr (.inr h)
  self := fun i s Q E ⟨f, a, b, c⟩ hQ => by
    have hT : s.TypeIs (.ref I) "set_iterator" := ⟨_, a, rfl⟩
    refine wpAny_pyIter_slot hT slot_setit_iter (wpAny_call_entry slot_setit_iter hT entry_setit_iter ?_ (args_setit_iter _))
    show wpAny _ _ (ret (.ref I)) _ _ s
    exact wpAny_pure ⟨_, rfl, "set_iterator", _, hT, slot_setit_next.lookup, hQ⟩
end
section
set_option maxHeartbeats 1000000

theorem fillIG (w : World) (h : Heap) : (Mine.hd.heap_1 w.params).In h → PySem.Challenge.rw_oc0123_01.most = some 63 := by
  k_fill
  intro _; rfl

local macro_rules | `(tactic| ktr_rel) => `(tactic| (repeat' (first
  | (walk_at "kA"; (fail_if_success (with_reducible first | refine gFor ?_ | refine gWhile ?_ | refine gCallref ?_ | refine gCallset ?_ | refine gComp ?_)); walk1)
  | walk_at "kB")))

def folderOk (d : Str) : Prop := d = "/s" ∨ d = "/sa" ∨ d = "/s/sa"
def SetIs (w : World) (ml : List Str) (o : Obj) : Prop := (ml = [] ∧ ∃ led, o = { cls := .type "set", dict := none, data := .set #[] 0 (.fresh 0 0 led) }) ∨ ∃ x j t, ml = [x] ∧ o = set1 w j 1 x t
theorem strsGet {vs : List Value} {ys : List Str} {i : Nat} {v : Value} (h : StrsAre vs ys) (e : vs[i]? = some v) : ∃ y t, ys[i]? = some y ∧ v = .str y t := by
  induction h generalizing i with
  | nil => simp at e
  | cons y t _ ih =>
    cases i with
    | zero => simp at e; exact ⟨y, t, rfl, e.symm⟩
    | succ i => simpa using ih (by simpa using e)
theorem pushSame {h h5 : Heap} {o : Obj} (hs : Heap.SameBut h.objs.size (h.push o) h5) : ∀ b o', h.get? b = some o' → h5.get? b = some o' := fun b o' e => (hs.2 b (Nat.ne_of_lt (Heap.lt_size e))).trans (Heap.get?_push_of_some _ e)
noncomputable abbrev ignDict (w : World) (S D G : Addr) (t1 t2 t3 : Tok) : Obj := dictOf [⟨PyData.keyHash w.params "_mods", .str "_mods" t1, .ref S⟩, ⟨PyData.keyHash w.params "_dirs", .str "_dirs" t2, .ref D⟩, ⟨PyData.keyHash w.params "_ignore", .str "_ignore" t3, .ref G⟩] 3
structure IgnAt (prog : Program) (w : World) (h : Heap) (x dx S D G : Addr) (ml fl : List Str) (kvs : List (Str × Value)) : Prop where
  inst : h.get? x = some (instObj 168 dx)
  dict : ∃ t1 t2 t3, h.get? dx = some (ignDict w S D G t1 t2 t3)
  set : ∃ os, h.get? S = some os ∧ SetIs w ml os
  dirs : ∃ ys k, h.get? D = some (W.listOf (List.toArray ys) k) ∧ StrsAre ys fl
  ign : ∃ o, h.get? G = some o ∧ o.IsDictOf (strKind prog w) kvs
  ne : @Ne Nat x G ∧ @Ne Nat dx G ∧ @Ne Nat S G ∧ @Ne Nat D G
  nm : (G == sysModules) = false
theorem enterR {K : Frag} {prog : Program} {w : World} {A : Around} {s : Shared} {h₀ : Heap} {p : Program} {loose : List Str} {mean : ExcName → Option Value} {mg mb : Str → Option Value} {R : Result → Shared → Prop}
    {name qual : Str} {params : Arguments} {body : List Stmt} {scope : Scope} {dV kV doc pm cdv ct oc : Value} {an od : Option Addr} {osl : Array (Option Value)} {f : Addr} {args : List Value} {kw : List (Str × Value)} {binds : List (Str × Value)}
    (muts : List (Addr × Obj)) (X : K.In h₀) (T : Top p loose mean mg mb h₀) (kp : ∀ b o, h₀.get? b = some o → s.heap.get? b = some o)
    (hm : ∀ q ∈ muts, s.heap.get? q.1 = some q.2 ∧ h₀.get? q.1 = none)
    (ho : K.lookup f = some ⟨oc, od, .func (fnOf name qual params body scope dV kV doc pm an cdv ct), osl⟩) (hcd : codeIn K cdv qual = true) (hroom : A.depth < recursionLimit)
    (hbind : BindsTo s (fnOf name qual params body scope dV kV doc pm an cdv ct) ⟨args, kw⟩ binds) (hloc : ∀ y ∈ binds, scope.names.lookup y.1 = some .local)
    (hcell : ∀ x ∈ scope.names, x.2 ≠ .cell) (hco : scope.isCoroutine = false) (hgen : scope.isGenerator = false) (hk : scope.kind = .function)
    (h : ∀ g L h₁, Fr g L h₁ (fun y => binds.reverse.lookup y) → News g L h₁ muts → K.In g → Top p loose mean mg mb g → (∀ b o, b ∉ muts.map (·.1) → s.heap.get? b = some o → g.get? b = some o) →
      wpAny (model prog w) (A.deeper (envOf qual scope L f cdv)) (execs body (envOf qual scope L f cdv))
        (fun fl s' => R (.ok (.ret (match fl with | .ret v => v | _ => .none))) s') (fun _ _ => False) { s with heap := h₁, toks := s.toks + binds.length }) :
    codeAny (model prog w) A (.call (.ref f) ⟨args, kw⟩) R s := by
  have nm : ∀ b o, h₀.get? b = some o → b ∉ muts.map (·.1) := fun b o e q => by
    obtain ⟨p, hp, rfl⟩ := List.mem_map.mp q
    rw [(hm p hp).2] at e; cases e
  have st : ∀ b o, h₀.get? b = some o → (hideAll s.heap (muts.map (·.1))).get? b = some o := fun b o e => hideAll_get _ (kp b o e) (nm b o e)
  have X' := X.keeps st
  have T' := T.keeps st
  refine codeAny_call_def (fd := fnOf name qual params body scope dV kV doc pm an cdv ct) (body := body) (binds := binds) hroom (X.keeps kp _ _ ho) rfl (T.nolimit.keeps kp) (codeRec_of (X.keeps kp) hcd) rfl hbind hcell hloc (fun h₁ hns hk₁ => ?_) hco hgen hk
  refine wpAny_mono (h (hideAll s.heap (muts.map (·.1))) s.heap.objs.size h₁ ⟨hns, fun b o e => hk₁ b o (of_hideAll _ e), Nat.le_of_eq (hideAll_size _ _)⟩ (fun p hp => ⟨hk₁ _ _ (hm p hp).1, Nat.ne_of_lt (Heap.lt_size (hm p hp).1), hideAll_none _ (List.mem_map_of_mem hp)⟩) X' T' (fun b o hb e => hideAll_get _ e hb)) (fun fl s' q => q) fun _ _ y => y.elim
theorem init_ok {prog : Program} {w : World} {A : Around} {s : Shared} {h₀ : Heap} {mean : ExcName → Option Value} {mg mb : Str → Option Value} {loose : List Str} {R : Result → Shared → Prop}
    (X : (Mine.hd.heap_1 w.params).In h₀) (T : Top Mine.view loose mean mg mb h₀) (kp : ∀ b o, h₀.get? b = some o → s.heap.get? b = some o)
    {x dx md fd : Addr} {mv fv : List Value} {ml fl : List Str} {k1 k2 : Nat} (hx : s.heap.get? x = some (instObj 168 dx)) (hdx : s.heap.get? dx = some (dictOf [] 0)) (hmd : s.heap.get? md = some (W.listOf mv.toArray k1)) (hfd : s.heap.get? fd = some (W.listOf fv.toArray k2))
    (hms : StrsAre mv ml) (hfs : StrsAre fv fl) (hml : ml.length ≤ 1) (hfl : fl.length ≤ 2 ∧ 0 < fl.length) (hff : ∀ d ∈ fl, folderOk d)
    (hxn : h₀.get? x = none) (hdn : h₀.get? dx = none) (hne : @Ne Nat x dx) (hne1 : @Ne Nat md dx) (hne2 : @Ne Nat fd dx) (hne3 : @Ne Nat md x) (hne4 : @Ne Nat fd x)
    (hhd : A.handled = none) (hroom : A.depth + 30 < recursionLimit) (hunit : A.units + 190 < cLine)
    (h : ∀ (h' : Heap) (tk : Nat) S D G t, (∀ b o, b ≠ dx → s.heap.get? b = some o → h'.get? b = some o) → s.heap.get? G = none → s.heap.get? S = none → s.heap.get? D = none → IgnAt prog w h' x dx S D G ml fl [("<string>", .int 1 t)] → R (.ok (.ret (.ref x))) { s with heap := h', toks := tk }) :
    codeAny (model prog w) A (.call (.ref 158) ⟨[.ref x, .ref md, .ref fd], []⟩) (InitBack x R) s := by
  refine' enterR (binds := [("self", .ref x), ("modules", .ref md), ("dirs", .ref fd)]) [(x, instObj 168 dx), (dx, dictOf [] 0)] X T kp ?hm ?ho ?hcd (by first | exact dr hroom | omega) ?hbind ?hloc ?hcell ?hco ?hgen ?hk ?_
  case ho => k_is
  case hcd => k_is
  case hbind => exact binds_K (X.keeps kp) rfl (by k_is) rfl rfl rfl
  case hloc => exact locs rfl
  case hcell => decide
  case hco => rfl
  case hgen => rfl
  case hk => rfl
  case hm => intro q hq; cases hq with | head => exact ⟨hx, hxn⟩ | tail _ h => cases h with | head => exact ⟨hdx, hdn⟩ | tail _ h => cases h
  intro g L h₁ F N X' T' kg
  clear X T kp
  have hm' : g.get? md = some (W.listOf mv.toArray k1) := kg _ _ (by simp; exact ⟨hne3, hne1⟩) hmd
  have hf' : g.get? fd = some (W.listOf fv.toArray k2) := kg _ _ (by simp; exact ⟨hne4, hne2⟩) hfd
  have hfl' : g.IsList fd fv.toArray := ⟨_, hf', rfl, _, rfl⟩
  have hfv : fv.length = fl.length := strs_len hfs
  have hfe : fv.isEmpty = false := by cases fv with | nil => simp at hfv; omega | cons _ _ => rfl
  cases hms with
  | nil =>
    have hml' : g.IsList md #[] := ⟨_, hm', rfl, _, rfl⟩
    ktr_rel
    refine call_set_0 fun led => ?_
    have kS : ∀ b o, h₁.get? b = some o → (h₁.push { cls := .type "set", dict := none, data := .set #[] 0 (.fresh 0 0 led) }).get? b = some o := fun b o e => Heap.get?_push_of_some _ e
    have F2 := frKeep F kS
    have N2 := newsNew (m2 := fun _ => none) F (newsKeep N kS) (noneAt (Nat.le_refl _)) (Heap.get?_push_size _ rfl)
    have q1 : @Ne Nat h₁.objs.size x := Ne.symm (Nat.ne_of_lt (Heap.lt_size (N _ (.head _)).1))
    have q2 : @Ne Nat h₁.objs.size dx := Ne.symm (Nat.ne_of_lt (Heap.lt_size (N _ (.tail _ (.head _))).1))
    have hS : SetIs w [] { cls := .type "set", dict := none, data := .set #[] 0 (.fresh 0 0 led) } := .inl ⟨rfl, led, rfl⟩
    clear F N
    clear kS
    revert q1 q2 hS F2 N2
    generalize h₁.objs.size = S
    generalize h₁.push _ = h2
    generalize ({ cls := .type "set", dict := none, data := .set #[] 0 (.fresh 0 0 led) } : Obj) = os
    intro F2 N2 q1 q2 hS
    ktr_rel
    rename Fr _ _ _ _ => F
    rename News _ _ _ _ => N
    rw [hfe]
    ktr_rel
    refine comp_evalC (cl := []) rfl (by decide) rfl (by decide) ?_
    ktr_rel
    refine comp_list (by exact hhd) F N (by exact ⟨W.listOf fv.toArray k2, F.keep _ _ hf', rfl, k2, rfl⟩) (by simp; omega) (fun it v s1 o vs Q E _ _ _ q => go_name it 0 v s1 Q E q) (fun i ys h => StrsAre ys (fl.take i)) (fun _ _ => .nil) (fun _ _ _ _ h _ => h) ?_ ?_
    · intro C i v ys h4 tk4 m4 ot hv hJ F4 N4 k4
      obtain ⟨d, t, hd, rfl⟩ := strsGet hfs (by simpa using hv)
      clear F N
      replace N4 : News g C h4 ((S, os) :: (x, instObj 168 dx) :: (dx, _) :: ot) := N4
      ktr_rel
      refine cstore F4 N4 fun h5 F5 N5 => ?_
      clear F4 N4
      refine ctest0 ?_
      ktr_rel
      refine np_ok (h₀ := g) X' T' F5.keep (hff d (List.mem_of_getElem? hd)) (by exact hhd) (by show A.depth + 1 + 20 < _; exact dl hroom) (by show A.units + 3 + 90 < _; exact dl hunit) fun h6 tk6 u6 k6 => ?_
      refine ⟨h6, _, _, _, rfl, frKeep F5 k6, newsKeep N5 k6, fun p hp => by simp [hp], ?_⟩
      rw [List.take_add_one, hd]
      exact strs_snoc hJ d u6
    · intro D h4 tk4 ys k F4 N4 nD hDn hJ k4
      rw [List.take_of_length_le (by simp; omega)] at hJ
      have r1 : @Ne Nat x D := nD _ (.tail _ (.head _))
      have r2 : @Ne Nat dx D := nD _ (.tail _ (.tail _ (.head _)))
      clear F N
      ktr_rel
      refine ⟨[("<string>", Value.int 1 _)], ⟨strKind_is _ _ _ _, rfl, trivial⟩, Heap.DictOf.new _, fun h5 hd5 hs5 => ?_⟩
      rename Fr _ _ _ _ => Fx
      clear Fx
      rename Fr _ _ _ _ => F
      rename News _ _ _ _ => N
      obtain ⟨oi, hoi, hDi⟩ := Heap.dictOf_iff.mp hd5
      have k5 := pushSame hs5
      have F5 := frKeep F k5
      have N5 := newsNew (m2 := fun _ => none) F (newsKeep N k5) (noneAt (Nat.le_refl _)) hoi
      have q3 := newsNe N (Nat.le_refl _)
      have r3 : @Ne Nat x _ := q3 _ (.tail _ (.tail _ (.head _)))
      have r4 : @Ne Nat dx _ := q3 _ (.tail _ (.tail _ (.tail _ (.head _))))
      have r5 : @Ne Nat S _ := q3 _ (.tail _ (.head _))
      have r6 : @Ne Nat D _ := q3 _ (.head _)
      have r7 := beq_eq_false_iff_ne.mpr (Nat.ne_of_gt (modules_low (T'.nolimit.keeps F.keep)))
      replace hDi : oi.IsDictOf (strKind prog w) [(("<string>" : Str), Value.int 1 _)] := hDi
      clear F N hd5 hoi hs5 k5 q3
      ktr_rel
      rename Fr _ _ _ _ => F
      rename News _ _ _ _ => N
      have nn : ∀ a, g.get? a = none → @Ne Nat a x → @Ne Nat a dx → s.heap.get? a = none := fun a gn n1 n2 => by
        cases e : s.heap.get? a with
        | none => rfl
        | some o => rw [kg _ _ (by simp; exact ⟨n1, n2⟩) e] at gn; cases gn
      refine ⟨rfl, h _ _ S D _ _ ?_ (nn _ (N _ (.head _)).2.2 (Ne.symm r3) (Ne.symm r4)) (nn _ (N _ (.tail _ (.tail _ (.head _)))).2.2 q1 q2) (nn _ (N _ (.tail _ (.head _))).2.2 (Ne.symm r1) (Ne.symm r2)) ⟨(N _ (.tail _ (.tail _ (.tail _ (.head _))))).1, ⟨_, _, _, (N _ (.tail _ (.tail _ (.tail _ (.tail _ (.head _)))))).1⟩, ⟨os, (N _ (.tail _ (.tail _ (.head _)))).1, hS⟩, ⟨ys, k, (N _ (.tail _ (.head _))).1, hJ⟩, ⟨oi, (N _ (.head _)).1, hDi⟩, ⟨r3, r4, r5, r6⟩, r7⟩⟩
      · intro b o hb e
        by_cases hbx : b = x
        · subst hbx; rw [hx] at e; cases e; exact (N _ (.tail _ (.tail _ (.tail _ (.head _))))).1
        · exact F.keep _ _ (kg _ _ (by simp; exact ⟨hbx, hb⟩) e)
  | cons mm mt hr =>
    cases hr with
    | cons _ _ _ => simp at hml
    | nil =>
      have hml' : g.IsList md #[_] := ⟨_, hm', rfl, _, rfl⟩
      ktr_rel
      refine set_of_one (by exact hhd) (by exact F.keep _ _ hm') fun h2 j tk2 hS2 kS0 => ?_
      have kS : ∀ b o, h₁.get? b = some o → h2.get? b = some o := fun b o e => kS0 b o (Heap.lt_size e) e
      have F2 := frKeep F kS
      have N2 := newsNew (m2 := fun _ => none) F (newsKeep N kS) (noneAt (Nat.le_refl _)) hS2
      have q1 : @Ne Nat h₁.objs.size x := Ne.symm (Nat.ne_of_lt (Heap.lt_size (N _ (.head _)).1))
      have q2 : @Ne Nat h₁.objs.size dx := Ne.symm (Nat.ne_of_lt (Heap.lt_size (N _ (.tail _ (.head _))).1))
      have hS : SetIs w [mm] (set1 w j 1 mm mt) := .inr ⟨_, _, _, rfl, rfl⟩
      clear F N
      clear kS kS0 hS2
      revert q1 q2 hS F2 N2
      dsimp only
      generalize h₁.objs.size = S
      generalize (set1 w j 1 mm mt : Obj) = os
      intro F2 N2 q1 q2 hS
      ktr_rel
      rename Fr _ _ _ _ => F
      rename News _ _ _ _ => N
      rw [hfe]
      ktr_rel
      refine comp_evalC (cl := []) rfl (by decide) rfl (by decide) ?_
      ktr_rel
      refine comp_list (by exact hhd) F N (by exact ⟨W.listOf fv.toArray k2, F.keep _ _ hf', rfl, k2, rfl⟩) (by simp; omega) (fun it v s1 o vs Q E _ _ _ q => go_name it 0 v s1 Q E q) (fun i ys h => StrsAre ys (fl.take i)) (fun _ _ => .nil) (fun _ _ _ _ h _ => h) ?_ ?_
      · intro C i v ys h4 tk4 m4 ot hv hJ F4 N4 k4
        obtain ⟨d, t, hd, rfl⟩ := strsGet hfs (by simpa using hv)
        clear F N
        replace N4 : News g C h4 ((S, os) :: (x, instObj 168 dx) :: (dx, _) :: ot) := N4
        ktr_rel
        refine cstore F4 N4 fun h5 F5 N5 => ?_
        clear F4 N4
        refine ctest0 ?_
        ktr_rel
        refine np_ok (h₀ := g) X' T' F5.keep (hff d (List.mem_of_getElem? hd)) (by exact hhd) (by show A.depth + 1 + 20 < _; exact dl hroom) (by show A.units + 3 + 90 < _; exact dl hunit) fun h6 tk6 u6 k6 => ?_
        refine ⟨h6, _, _, _, rfl, frKeep F5 k6, newsKeep N5 k6, fun p hp => by simp [hp], ?_⟩
        rw [List.take_add_one, hd]
        exact strs_snoc hJ d u6
      · intro D h4 tk4 ys k F4 N4 nD hDn hJ k4
        rw [List.take_of_length_le (by simp; omega)] at hJ
        have r1 : @Ne Nat x D := nD _ (.tail _ (.head _))
        have r2 : @Ne Nat dx D := nD _ (.tail _ (.tail _ (.head _)))
        clear F N
        ktr_rel
        refine ⟨[("<string>", Value.int 1 _)], ⟨strKind_is _ _ _ _, rfl, trivial⟩, Heap.DictOf.new _, fun h5 hd5 hs5 => ?_⟩
        rename Fr _ _ _ _ => Fx
        clear Fx
        rename Fr _ _ _ _ => F
        rename News _ _ _ _ => N
        obtain ⟨oi, hoi, hDi⟩ := Heap.dictOf_iff.mp hd5
        have k5 := pushSame hs5
        have F5 := frKeep F k5
        have N5 := newsNew (m2 := fun _ => none) F (newsKeep N k5) (noneAt (Nat.le_refl _)) hoi
        have q3 := newsNe N (Nat.le_refl _)
        have r3 : @Ne Nat x _ := q3 _ (.tail _ (.tail _ (.head _)))
        have r4 : @Ne Nat dx _ := q3 _ (.tail _ (.tail _ (.tail _ (.head _))))
        have r5 : @Ne Nat S _ := q3 _ (.tail _ (.head _))
        have r6 : @Ne Nat D _ := q3 _ (.head _)
        have r7 := beq_eq_false_iff_ne.mpr (Nat.ne_of_gt (modules_low (T'.nolimit.keeps F.keep)))
        replace hDi : oi.IsDictOf (strKind prog w) [(("<string>" : Str), Value.int 1 _)] := hDi
        clear F N hd5 hoi hs5 k5 q3
        ktr_rel
        rename Fr _ _ _ _ => F
        rename News _ _ _ _ => N
        have nn : ∀ a, g.get? a = none → @Ne Nat a x → @Ne Nat a dx → s.heap.get? a = none := fun a gn n1 n2 => by
          cases e : s.heap.get? a with
          | none => rfl
          | some o => rw [kg _ _ (by simp; exact ⟨n1, n2⟩) e] at gn; cases gn
        refine ⟨rfl, h _ _ S D _ _ ?_ (nn _ (N _ (.head _)).2.2 (Ne.symm r3) (Ne.symm r4)) (nn _ (N _ (.tail _ (.tail _ (.head _)))).2.2 q1 q2) (nn _ (N _ (.tail _ (.head _))).2.2 (Ne.symm r1) (Ne.symm r2)) ⟨(N _ (.tail _ (.tail _ (.tail _ (.head _))))).1, ⟨_, _, _, (N _ (.tail _ (.tail _ (.tail _ (.tail _ (.head _)))))).1⟩, ⟨os, (N _ (.tail _ (.tail _ (.head _)))).1, hS⟩, ⟨ys, k, (N _ (.tail _ (.head _))).1, hJ⟩, ⟨oi, (N _ (.head _)).1, hDi⟩, ⟨r3, r4, r5, r6⟩, r7⟩⟩
        · intro b o hb e
          by_cases hbx : b = x
          · subst hbx; rw [hx] at e; cases e; exact (N _ (.tail _ (.tail _ (.tail _ (.head _))))).1
          · exact F.keep _ _ (kg _ _ (by simp; exact ⟨hbx, hb⟩) e)
theorem new_ok {prog : Program} {w : World} {A : Around} {s : Shared} {h₀ : Heap} {mean : ExcName → Option Value} {mg mb : Str → Option Value} {loose : List Str} {E : Value → Shared → Prop} {Q : Value → Shared → Prop}
    (X : (Mine.hd.heap_1 w.params).In h₀) (T : Top Mine.view loose mean mg mb h₀) (kp : ∀ b o, h₀.get? b = some o → s.heap.get? b = some o)
    {md fd : Addr} {mv fv : List Value} {ml fl : List Str} {k1 k2 : Nat} (hmd : s.heap.get? md = some (W.listOf mv.toArray k1)) (hfd : s.heap.get? fd = some (W.listOf fv.toArray k2))
    (hms : StrsAre mv ml) (hfs : StrsAre fv fl) (hml : ml.length ≤ 1) (hfl : fl.length ≤ 2 ∧ 0 < fl.length) (hff : ∀ d ∈ fl, folderOk d)
    (hhd : A.handled = none) (hroom : A.depth + 31 < recursionLimit) (hunit : A.units + 200 < cLine)
    (h : ∀ (h' : Heap) (tk : Nat) x dx S D G t, (∀ b o, s.heap.get? b = some o → h'.get? b = some o) → (∀ a ∈ [x, dx, S, D, G], s.heap.get? a = none) → IgnAt prog w h' x dx S D G ml fl [("<string>", .int 1 t)] → Q (.ref x) { s with heap := h', toks := tk }) :
    wpAny (model prog w) A (call (.ref 168) [.ref md, .ref fd]) Q E s := by
  have Xs := X.keeps kp
  refine wpAny_call ?_
  obtain ⟨hh, gn, dr, tk0, os⟩ := s
  dsimp only at hmd hfd h Xs kp
  refine make_core (C := 168) (init := .ref 158) (makes_of (M := model prog w) Xs (by k_is)) (looks_findIn Xs (by k_is)) (fun self => bind_fn Xs self (by k_is)) (.inl rfl) ?_
  have k2 : ∀ b o, hh.get? b = some o → ((hh.push emptyDict).push (instObj 168 hh.objs.size)).get? b = some o := fun b o e => Heap.get?_push_of_some _ (Heap.get?_push_of_some _ e)
  have l1 : @LT.lt Nat _ md hh.objs.size := Heap.lt_size hmd
  have l2 : @LT.lt Nat _ fd hh.objs.size := Heap.lt_size hfd
  have uw : (Code.builtin "type.__call__" ⟨[.ref 168, .ref md, .ref fd], []⟩).weight = 1 := by kernel_rfl
  have uu : (Code.builtin "type.__call__" ⟨[.ref 168, .ref md, .ref fd], []⟩).cUnits = 1 := by kernel_rfl
  have nh : ∀ a, hh.objs.size ≤ a → h₀.get? a = none := fun a e => by
    cases q : h₀.get? a with
    | none => rfl
    | some o => exact absurd (Heap.lt_size (kp _ _ q)) (Nat.not_lt.mpr e)
  have e1 : ((hh.push emptyDict).push (instObj 168 hh.objs.size)).get? (hh.objs.size + 1) = some (instObj 168 hh.objs.size) := by
    have : ((hh.push emptyDict).push (instObj 168 hh.objs.size)).get? (hh.push emptyDict).objs.size = some (instObj 168 hh.objs.size) := Heap.get?_push_size _ rfl
    rwa [Heap.size_push] at this
  refine init_ok (h₀ := h₀) X T (fun b o e => k2 b o (kp b o e)) e1 (Heap.get?_push_of_some _ (Heap.get?_push_size _ rfl)) (k2 _ _ hmd) (k2 _ _ hfd) hms hfs hml hfl hff (nh _ (Nat.le_succ _)) (nh _ (Nat.le_refl _)) (by omega) (by omega) (by omega) (by omega) (by omega) (by exact hhd) (by show A.depth + Code.weight _ + 30 < _; rw [uw]; omega) (by show A.units + Code.cUnits _ + 190 < _; omega) ?_
  intro h3 tk3 S D G t k3 hG hS hD I
  refine h h3 tk3 _ _ S D G t (fun b o e => k3 b o (Nat.ne_of_lt (Heap.lt_size e)) (k2 b o e)) ?_ I
  have nn : ∀ a, Heap.get? ((hh.push emptyDict).push (instObj 168 hh.objs.size)) a = none → hh.get? a = none := fun a e => by
    cases q : hh.get? a with
    | none => rfl
    | some o => rw [k2 _ _ q] at e; cases e
  intro a ha
  simp only [List.mem_cons, List.not_mem_nil, or_false] at ha
  rcases ha with rfl | rfl | rfl | rfl | rfl
  · exact noneAt (Nat.le_succ _)
  · exact noneAt (Nat.le_refl _)
  · exact nn _ hS
  · exact nn _ hD
  · exact nn _ hG
end
section
set_option maxHeartbeats 1000000

theorem fillNM (w : World) (h : Heap) : (Mine.hd.heap_1 w.params).In h → PySem.Challenge.rw_oc0123_01.most = some 63 := by
  k_fill
  intro _; rfl

local macro_rules | `(tactic| ktr_rel) => `(tactic| (repeat' (first
  | (walk_at "kA"; (fail_if_success (with_reducible first | refine gFor ?_ | refine gWhile ?_ | refine gIf ?_ | refine gCallref ?_ | refine gCallset ?_ | refine gComp ?_)); walk1)
  | walk_at "kB")))

theorem setOf_is {prog : Program} {w : World} {ml : List Str} {o : Obj} {h : Heap} {S : Addr} (hs : SetIs w ml o) (ho : h.get? S = some o) : h.SetOf (strKind prog w) S (fun k => ml.contains k) ml.length := by
  rcases hs with ⟨rfl, led, rfl⟩ | ⟨x, j, t, rfl, rfl⟩
  · exact ⟨_, #[], 0, _, ho, ⟨rfl, rfl, rfl⟩, rfl, fun e he => by simp at he, fun k => by simp, by decide, rfl, rfl⟩
  · refine ⟨_, _, _, _, ho, ⟨rfl, rfl, rfl⟩, rfl, ?_, fun k => ?_, (by show 1 < scanBound; decide), rfl, rfl⟩
    · intro e he
      simp at he
      subst he
      exact ⟨⟨x, strKind_is _ _ _ _, rfl⟩, rfl⟩
    · simp [PySem.strKind, Value.isStrOf]
      exact ⟨Eq.symm, Eq.symm⟩
theorem setSmall_is {w : World} {ml : List Str} {o : Obj} (hs : SetIs w ml o) : ∃ (es : Array (Int × Value)) (ep : Nat) (tb : SetTable), SetSmall w o es ep tb ∧ es.size = ml.length ∧ ∀ (i : Nat) (e : Int × Value), es[i]? = some e → ∃ x t, ml[i]? = some x ∧ e.2 = .str x t := by
  rcases hs with ⟨rfl, led, rfl⟩ | ⟨x, j, t, rfl, rfl⟩
  · exact ⟨#[], 0, .fresh 0 0 led, ⟨rfl, Nat.zero_le _, rfl, .inr (.inl rfl)⟩, rfl, fun i e h => by simp at h⟩
  · refine ⟨_, _, _, small1 w j 1 x t, rfl, fun i e h => ?_⟩
    have hi : i = 0 := by have := (Array.getElem?_eq_some_iff.mp h).1; simp at this; omega
    subst hi
    simp at h
    subst h
    exact ⟨x, t, rfl, rfl⟩
inductive CacheIs : List (Str × Value) → List (Str × Nat) → Prop
  | nil : CacheIs [] []
  | cons {n r t kvs c} : CacheIs kvs c → CacheIs ((n, .int (r : Nat) t) :: kvs) ((n, r) :: c)
theorem CacheIs.len {kvs c} (h : CacheIs kvs c) : kvs.length = c.length := by
  induction h with
  | nil => rfl
  | cons _ ih => simp [ih]
theorem CacheIs.snoc {kvs c} (h : CacheIs kvs c) (n : Str) (r : Nat) (t : Tok) : CacheIs (kvs ++ [(n, .int (r : Nat) t)]) (c ++ [(n, r)]) := by
  induction h with
  | nil => exact .cons .nil
  | cons _ ih => exact .cons ih
theorem valueAt_cons {k : Str} {v : Value} {kvs : List (Str × Value)} (n : Str) : valueAt ((k, v) :: kvs) n = if k = n then some v else valueAt kvs n := by
  unfold valueAt
  by_cases h : k = n <;> simp [h]
theorem CacheIs.none {kvs c} (h : CacheIs kvs c) {n : Str} (e : valueAt kvs n = .none) : c.lookup n = .none := by
  induction h with
  | nil => rfl
  | @cons k r t kvs c _ ih =>
    rw [valueAt_cons] at e
    by_cases hk : k = n
    · rw [if_pos hk] at e; cases e
    · rw [if_neg hk] at e
      have : (n == k) = false := by simpa using Ne.symm hk
      simp [List.lookup, this, ih e]
theorem CacheIs.some {kvs c} (h : CacheIs kvs c) {n : Str} {v : Value} (e : valueAt kvs n = .some v) : ∃ r t, c.lookup n = .some r ∧ v = .int (r : Nat) t := by
  induction h with
  | nil => cases e
  | @cons k r t kvs c _ ih =>
    rw [valueAt_cons] at e
    by_cases hk : k = n
    · rw [if_pos hk] at e; cases e
      exact ⟨r, t, by simp [List.lookup, hk], rfl⟩
    · rw [if_neg hk] at e
      have : (n == k) = false := by simpa using Ne.symm hk
      simpa [List.lookup, this] using ih e
theorem stored_new {kvs : List (Str × Value)} {n : Str} {v : Value} (e : valueAt kvs n = .none) : stored kvs n v = kvs ++ [(n, v)] := by
  unfold stored
  rw [if_neg]
  intro h
  obtain ⟨kv, hk, h2⟩ := List.any_eq_true.mp h
  unfold valueAt at e
  have := List.find?_eq_none.mp (Option.map_eq_none_iff.mp e) kv hk
  exact this h2
noncomputable def cVal (c : List (Str × Nat)) (n : Str) (a : Nat) : Nat := (c.lookup n).getD a
noncomputable def cNext (c : List (Str × Nat)) (n : Str) (a : Nat) : List (Str × Nat) := if (c.lookup n).isSome then c else c ++ [(n, a)]
noncomputable def modHit (ml : List Str) (n : Str) : Bool := ml.contains n || ml.any fun m => Txt.startswith n (m ++ ".")
noncomputable def fileHit (fl : List Str) (f : Nat) : Bool := fl.any fun d => Txt.startswith (fileS f) (d ++ "/")
noncomputable def ans (ml fl : List Str) (f : Nat) (n : Str) : Nat := if (modHit ml n || decide (5 ≤ f) || fileHit fl f) = true then 1 else 0
theorem frSet {g h h9 : Heap} {L G : Addr} {m : Str → Option Value} {o : Obj} {ns : List (Addr × Obj)} (F : Fr g L h m) (N : News g L h ((G, o) :: ns)) (hs : Heap.SameBut G h h9) : Fr g L h9 m :=
  frWr (wr := [G]) F (fun b o hb e => (hs.2 b (by simpa using hb)).trans e) (by simpa using Ne.symm (N _ (.head _)).2.1) (by simpa using (N _ (.head _)).2.2)
theorem newsSet {g h h9 : Heap} {L G : Addr} {o o9 : Obj} {ns : List (Addr × Obj)} (N : News g L h ((G, o) :: ns)) (hs : Heap.SameBut G h h9) (ho : h9.get? G = some o9) (hne : ∀ p ∈ ns, @Ne Nat p.1 G) : News g L h9 ((G, o9) :: ns) := fun p hp => by
  cases hp with
  | head => exact ⟨ho, (N _ (.head _)).2⟩
  | tail _ hp => exact ⟨(hs.2 _ (hne p hp)).trans (N _ (.tail _ hp)).1, (N _ (.tail _ hp)).2⟩
inductive NmI (w : World) (g : Heap) (L G x dx S D : Addr) (oG os : Obj) (t1 t2 t3 : Tok) (ys : List Value) (kk f : Nat) (t5 : Tok) (n : Str) (t : Tok) (s : Shared) (ms : List Str) (s' : Shared) : Prop where
  | mk (h' : Heap) (tk : Nat) (m : Str → Option Value) (e : s' = { s with heap := h', toks := tk }) (F : Fr g L h' m) (N : News g L h' [(G, oG), (x, instObj 168 dx), (dx, ignDict w S D G t1 t2 t3), (S, os), (D, W.listOf ys.toArray kk)])
    (m1 : m "self" = some (.ref x)) (m2 : m "filename" = some (fileV f t5)) (m3 : m "modulename" = some (.str n t)) (ha : ms.any (fun m => Txt.startswith n (m ++ ".")) = false)
inductive NmJ (w : World) (G x dx S D : Addr) (oG os : Obj) (t1 t2 t3 : Tok) (ys : List Value) (kk f : Nat) (t5 : Tok) (n : Str) (t : Tok) (fs : List Str) (m₁ : Str → Option Value) (news₁ : List (Addr × Obj)) : Prop where
  | mk (m1 : m₁ "self" = some (.ref x)) (m2 : m₁ "filename" = some (.str (fileS f) t5)) (m3 : m₁ "modulename" = some (.str n t))
    (e : news₁ = [(G, oG), (x, instObj 168 dx), (dx, ignDict w S D G t1 t2 t3), (S, os), (D, W.listOf ys.toArray kk)]) (hb : fs.any (fun d => Txt.startswith (fileS f) (d ++ "/")) = false)
theorem names_ok {prog : Program} {w : World} {A : Around} {s : Shared} {h₀ : Heap} {mean : ExcName → Option Value} {mg mb : Str → Option Value} {loose : List Str} {E : Value → Shared → Prop} {Q : Value → Shared → Prop}
    (X : (Mine.hd.heap_1 w.params).In h₀) (T : Top Mine.view loose mean mg mb h₀) (kp : ∀ b o, h₀.get? b = some o → s.heap.get? b = some o)
    {x dx S D G : Addr} {ml fl : List Str} {kvs : List (Str × Value)} {c : List (Str × Nat)} {f : Nat} {n : Str} {t5 t : Tok} (hI : IgnAt prog w s.heap x dx S D G ml fl kvs) (hc : CacheIs kvs c) (hcz : c.length < 1000)
    (hn : ∀ a ∈ [x, dx, S, D, G], h₀.get? a = none) (hmo : ∀ m ∈ ml, m = "-.rws" ∨ m = "d") (hfo : ∀ d ∈ fl, folderOk d) (hhd : A.handled = none) (hroom : A.depth + 8 < recursionLimit) (hunit : A.units + 50 < cLine)
    (h : ∀ (h' : Heap) (tk : Nat) tr kvs', (∀ b o, b ≠ G → s.heap.get? b = some o → h'.get? b = some o) → IgnAt prog w h' x dx S D G ml fl kvs' → CacheIs kvs' (cNext c n (ans ml fl f n)) → Q (.int (cVal c n (ans ml fl f n) : Nat) tr) { s with heap := h', toks := tk }) :
    wpAny (model prog w) A (call (.ref 165) [.ref x, fileV f t5, .str n t]) Q E s := by
  obtain ⟨Ii, ⟨t1, t2, t3, Id⟩, ⟨os, IS, hS⟩, ⟨ys, kk, IDd, hys⟩, ⟨oG, IG, hG⟩, ⟨e1, e2, e3, e4⟩, nm⟩ := hI
  refine' enter (binds := [("self", .ref x), ("filename", fileV f t5), ("modulename", .str n t)]) [(G, oG), (x, instObj 168 dx), (dx, ignDict w S D G t1 t2 t3), (S, os), (D, W.listOf ys.toArray kk)] X T kp ?hm ?ho ?hcd (by first | exact dr hroom | omega) ?hbind ?hloc ?hcell ?hco ?hgen ?hk ?_
  case ho => k_is
  case hcd => k_is
  case hbind => exact BindsTo.of_eq rfl
  case hloc => exact locs rfl
  case hcell => decide
  case hco => rfl
  case hgen => rfl
  case hk => rfl
  case hm =>
    intro q hq
    simp only [List.mem_cons, List.not_mem_nil, or_false] at hq
    rcases hq with rfl | rfl | rfl | rfl | rfl
    · exact ⟨IG, hn _ (by simp)⟩
    · exact ⟨Ii, hn _ (by simp)⟩
    · exact ⟨Id, hn _ (by simp)⟩
    · exact ⟨IS, hn _ (by simp)⟩
    · exact ⟨IDd, hn _ (by simp)⟩
  intro g L h₁ F N X' T' kg
  clear X T kp
  have e1' : @Ne Nat G x := Ne.symm e1
  have dG : ∀ h' ns, News g L h' ((G, oG) :: ns) → h'.DictOf (strKind prog w) G kvs := fun h' ns N => Heap.dictOf_iff.mpr ⟨oG, (N _ (.head _)).1, hG⟩
  have hsz : kvs.length ≤ sizeLine := by rw [sizeLine_eq, hc.len]; omega
  have hneL : ∀ p ∈ [(x, instObj 168 dx), (dx, ignDict w S D G t1 t2 t3), (S, os), (D, W.listOf ys.toArray kk)], @Ne Nat p.1 G := by
    intro p hp
    simp only [List.mem_cons, List.not_mem_nil, or_false] at hp
    rcases hp with rfl | rfl | rfl | rfl <;> assumption
  have fin : ∀ h9 tk9 o9 m9 kvs9 tr, Fr g L h9 m9 → News g L h9 [(G, o9), (x, instObj 168 dx), (dx, ignDict w S D G t1 t2 t3), (S, os), (D, W.listOf ys.toArray kk)] → o9.IsDictOf (strKind prog w) kvs9 → CacheIs kvs9 (cNext c n (ans ml fl f n)) →
      Q (.int (cVal c n (ans ml fl f n) : Nat) tr) { s with heap := h9, toks := tk9 } := by
    intro h9 tk9 o9 m9 kvs9 tr F9 N9 hI9 hC9
    refine h h9 tk9 tr kvs9 ?_ ⟨(N9 _ (.tail _ (.head _))).1, ⟨t1, t2, t3, (N9 _ (.tail _ (.tail _ (.head _)))).1⟩, ⟨os, (N9 _ (.tail _ (.tail _ (.tail _ (.head _))))).1, hS⟩, ⟨ys, kk, (N9 _ (.tail _ (.tail _ (.tail _ (.tail _ (.head _)))))).1, hys⟩, ⟨o9, (N9 _ (.head _)).1, hI9⟩, ⟨e1, e2, e3, e4⟩, nm⟩ hC9
    intro b o hb e
    by_cases hx : b ∈ [x, dx, S, D]
    · simp only [List.mem_cons, List.not_mem_nil, or_false] at hx
      rcases hx with rfl | rfl | rfl | rfl
      · rw [Ii] at e; cases e; exact (N9 _ (.tail _ (.head _))).1
      · rw [Id] at e; cases e; exact (N9 _ (.tail _ (.tail _ (.head _)))).1
      · rw [IS] at e; cases e; exact (N9 _ (.tail _ (.tail _ (.tail _ (.head _))))).1
      · rw [IDd] at e; cases e; exact (N9 _ (.tail _ (.tail _ (.tail _ (.tail _ (.head _)))))).1
    · exact F9.keep _ _ (kg _ _ (by simp at hx ⊢; exact ⟨hb, hx⟩) e)
  ktr_rel
  refine wpAny_If ?_
  ktr_rel
  refine wpAny_in_of (strKind_is _ _ _ _) nm (dG _ _ N).mapOf ?_
  ktr_rel
  by_cases hcv : (valueAt kvs n).isSome = true
  · rw [hcv]
    obtain ⟨v, hv⟩ := Option.isSome_iff_exists.mp hcv
    obtain ⟨r, tr, hr, rfl⟩ := hc.some hv
    ktr_rel
    refine wpAny_getItem_of (strKind_is _ _ _ _) (dG _ _ N).mapOf hv ?_
    have ec : cNext c n (ans ml fl f n) = c := by simp [cNext, hr]
    have ev : cVal c n (ans ml fl f n) = r := by simp [cVal, hr]
    rw [← ev]
    exact fin _ _ _ _ _ _ F N hG (by rw [ec]; exact hc)
  · rw [Bool.not_eq_true] at hcv
    rw [hcv]
    have hvn : valueAt kvs n = none := Option.isNone_iff_eq_none.mp (by simpa [Option.isSome_eq_false_iff] using hcv)
    have hln := hc.none hvn
    have fin1 : ans ml fl f n = 1 → ∀ h9 tk9 o9 m9 tr tv, Fr g L h9 m9 → News g L h9 [(G, o9), (x, instObj 168 dx), (dx, ignDict w S D G t1 t2 t3), (S, os), (D, W.listOf ys.toArray kk)] → o9.IsDictOf (strKind prog w) (stored kvs n (.int 1 tv)) → Q (.int 1 tr) { s with heap := h9, toks := tk9 } := by
      intro ha h9 tk9 o9 m9 tr tv F9 N9 hI9
      rw [stored_new hvn] at hI9
      have ev : cVal c n (ans ml fl f n) = 1 := by simp [cVal, hln, ha]
      have := fin h9 tk9 o9 m9 _ tr F9 N9 hI9 (by unfold cNext; rw [hln, ha]; exact hc.snoc n 1 tv)
      rw [ev] at this
      exact this
    have fin0 : ans ml fl f n = 0 → ∀ h9 tk9 o9 m9 tr tv, Fr g L h9 m9 → News g L h9 [(G, o9), (x, instObj 168 dx), (dx, ignDict w S D G t1 t2 t3), (S, os), (D, W.listOf ys.toArray kk)] → o9.IsDictOf (strKind prog w) (stored kvs n (.int 0 tv)) → Q (.int 0 tr) { s with heap := h9, toks := tk9 } := by
      intro ha h9 tk9 o9 m9 tr tv F9 N9 hI9
      rw [stored_new hvn] at hI9
      have ev : cVal c n (ans ml fl f n) = 0 := by simp [cVal, hln, ha]
      have := fin h9 tk9 o9 m9 _ tr F9 N9 hI9 (by unfold cNext; rw [hln, ha]; exact hc.snoc n 0 tv)
      rw [ev] at this
      exact this
    ktr_rel
    rename News _ _ _ _ => N
    refine wpAny_If ?_
    ktr_rel
    refine wpAny_inSet_of (strKind_is _ _ _ _) rfl (setOf_is hS (N _ (.tail _ (.tail _ (.tail _ (.head _))))).1) ?_
    ktr_rel
    by_cases hm : ml.contains n = true
    · rw [hm]
      ktr_rel
      rename Fr _ _ _ _ => F5
      rename News _ _ _ _ => N5
      refine wpAny_setItem_pairs (hsz := hsz) (strKind_is _ _ _ _) (dG _ _ N5) fun h9 hd9 hs9 => ?_
      obtain ⟨o9, ho9, hI9⟩ := Heap.dictOf_iff.mp hd9
      have F9 := frSet F5 N5 hs9
      have N9 := newsSet N5 hs9 ho9 hneL
      clear F5 N5
      ktr_rel
      exact fin1 (by unfold ans modHit; rw [hm]; rfl) _ _ _ _ _ _ F9 N9 hI9
    · rw [Bool.not_eq_true] at hm
      rw [hm]
      ktr_rel
      rename News _ _ _ _ => N
      refine wpAny_For ?_
      ktr_rel
      obtain ⟨es, ep, tb, hSm, hes, hel⟩ := setSmall_is hS
      refine set_iter (N _ (.tail _ (.tail _ (.tail _ (.head _))))).1 hSm ?_
      have kI : ∀ b o, h₁.get? b = some o → (h₁.push (setIt S 0 0 es.size ep)).get? b = some o := fun b o e => Heap.get?_push_of_some _ e
      have F2 := frKeep F kI
      have N2 := newsKeep N kI
      have nI := newsNe N (Nat.le_refl _)
      have SI : @Ne Nat S h₁.objs.size := nI _ (.tail _ (.tail _ (.tail _ (.head _))))
      obtain ⟨I1, I2⟩ := frFresh F (Nat.le_refl _)
      clear F N
      refine' codeAny_mono (for_rule (R := fun r s' => (r = .ok .next ∧ NmI w g L G x dx S D oG os t1 t2 t3 ys kk f t5 n t s ml s') ∨ (∃ v, r = .ok (.ret v) ∧ Q v s')) (walksSet (by exact hhd) hSm h₁.objs.size SI)
        (fun i s' => NmI w g L G x dx S D oG os t1 t2 t3 ys kk f t5 n t s (ml.take i) s') ?hgo ?hst ?h0 ?jn ?turn ?done) ?after
      case hgo =>
        intro i v s1 Q E _ hQ
        exact go_name _ i v s1 Q E hQ
      case hst => exact ⟨0, Heap.get?_push_size _ rfl, (N2 _ (.tail _ (.tail _ (.tail _ (.head _))))).1, fun _ => rfl, .inr (.inl rfl)⟩
      case h0 => exact ⟨_, _, _, rfl, F2, N2, rfl, rfl, rfl, rfl⟩
      case jn =>
        rintro i s1 h3 tk3 hi ⟨h4, tk4, m4, rfl, F4, N4, m1, m2, m3, ha⟩ _ hk
        exact ⟨h3, tk3, m4, rfl, frWr F4 hk (by simpa using Ne.symm I1) (by simpa using I2), newsWr N4 hk (fun p hp => by simpa using nI p hp), m1, m2, m3, ha⟩
      case done =>
        rintro s1 ⟨h4, tk4, m4, rfl, F4, N4, m1, m2, m3, ha⟩
        refine wpAny_execs_nil (.inl ⟨rfl, h4, tk4, m4, rfl, F4, N4, m1, m2, m3, ?_⟩)
        rwa [hes, List.take_length] at ha
      case turn =>
        rintro i v s1 hi ⟨e, he, rfl⟩ ⟨h3, tk3, m3, rfl, F3, N3, m1, m2, m4, ha⟩ hSt
        obtain ⟨y, ty, hy, hyv⟩ := hel i e he
        rw [hyv]
        clear F2 N2
        obtain ⟨f9, z1, z2, z3⟩ := hSt
        have N4 := newsMore N3 z1 I1 I2
        clear N3
        ktr_rel
        refine wpAny_If ?_
        rcases hmo y (List.mem_of_getElem? hy) with rfl | rfl
        · ktr_rel
          by_cases hs : Txt.startswith n ("-.rws" ++ ".") = true
          · rw [if_pos hs]
            rename News _ _ _ _ => Nq
            have N5 := newsTail Nq
            clear Nq
            ktr_rel
            rename Fr _ _ _ _ => F5
            rename News _ _ _ _ => N5
            refine wpAny_setItem_pairs (hsz := hsz) (strKind_is _ _ _ _) (dG _ _ N5) fun h9 hd9 hs9 => ?_
            obtain ⟨o9, ho9, hI9⟩ := Heap.dictOf_iff.mp hd9
            have F9 := frSet F5 N5 hs9
            have N9 := newsSet N5 hs9 ho9 hneL
            clear F5 N5
            ktr_rel
            exact .inr ⟨_, rfl, fin1 (by unfold ans modHit; rw [show (ml.any fun m => Txt.startswith n (m ++ ".")) = true from List.any_eq_true.mpr ⟨_, List.mem_of_getElem? hy, hs⟩]; simp) _ _ _ _ _ _ F9 N9 hI9⟩
          · rw [if_neg hs]
            rw [Bool.not_eq_true] at hs
            ktr_rel
            rename Fr _ _ _ _ => F5
            rename News _ _ _ _ => N5
            refine ⟨⟨_, _, _, rfl, F5, newsTail N5, by ktr_unf, by ktr_unf, by ktr_unf, ?_⟩, f9, (N5 _ (.head _)).1, (N5 _ (.tail _ (.tail _ (.tail _ (.tail _ (.head _)))))).1, z3⟩
            rw [List.take_add_one, hy, List.any_append, ha]
            simpa using hs
        · ktr_rel
          by_cases hs : Txt.startswith n ("d" ++ ".") = true
          · rw [if_pos hs]
            rename News _ _ _ _ => Nq
            have N5 := newsTail Nq
            clear Nq
            ktr_rel
            rename Fr _ _ _ _ => F5
            rename News _ _ _ _ => N5
            refine wpAny_setItem_pairs (hsz := hsz) (strKind_is _ _ _ _) (dG _ _ N5) fun h9 hd9 hs9 => ?_
            obtain ⟨o9, ho9, hI9⟩ := Heap.dictOf_iff.mp hd9
            have F9 := frSet F5 N5 hs9
            have N9 := newsSet N5 hs9 ho9 hneL
            clear F5 N5
            ktr_rel
            exact .inr ⟨_, rfl, fin1 (by unfold ans modHit; rw [show (ml.any fun m => Txt.startswith n (m ++ ".")) = true from List.any_eq_true.mpr ⟨_, List.mem_of_getElem? hy, hs⟩]; simp) _ _ _ _ _ _ F9 N9 hI9⟩
          · rw [if_neg hs]
            rw [Bool.not_eq_true] at hs
            ktr_rel
            rename Fr _ _ _ _ => F5
            rename News _ _ _ _ => N5
            refine ⟨⟨_, _, _, rfl, F5, newsTail N5, by ktr_unf, by ktr_unf, by ktr_unf, ?_⟩, f9, (N5 _ (.head _)).1, (N5 _ (.tail _ (.tail _ (.tail _ (.tail _ (.head _)))))).1, z3⟩
            rw [List.take_add_one, hy, List.any_append, ha]
            simpa using hs
      case after =>
        rintro r s1 (⟨rfl, h4, tk4, m4, rfl, F4, N4, m1, m2, m3, ha⟩ | ⟨v, rfl, hq⟩)
        · clear F2 N2
          ktr_rel
          refine wpAny_If ?_
          by_cases hf : f < 5
          · rw [show fileV f t5 = .str (fileS f) t5 from if_pos hf] at m2
            ktr_rel
            rename Fr _ _ _ _ => F5
            rename News _ _ _ _ => N5
            refine wpAny_For ?_
            ktr_rel
            refine loop_list (hh := by exact hhd) F5 N5 (News.isList N5 (.tail _ (.tail _ (.tail _ (.tail _ (.head _)))))) (fun it v s1 o vs Q E _ _ _ q => go_name it 0 v s1 Q E q) (fun i => NmJ w G x dx S D oG os t1 t2 t3 ys kk f t5 n t (fl.take i)) ⟨m1, m2, m3, rfl, rfl⟩ ?turn2 ?done2
            case done2 =>
              rintro h6 tk6 m6 news6 F6 N6 ⟨n1, n2, n3, rfl, hb⟩
              rw [List.take_of_length_le (by rw [List.size_toArray, strs_len hys]; exact Nat.le_refl _)] at hb
              clear F5 N5
              ktr_rel
              rename Fr _ _ _ _ => F5
              rename News _ _ _ _ => N5
              refine wpAny_setItem_pairs (hsz := hsz) (strKind_is _ _ _ _) (dG _ _ N5) fun h9 hd9 hs9 => ?_
              obtain ⟨o9, ho9, hI9⟩ := Heap.dictOf_iff.mp hd9
              have F9 := frSet F5 N5 hs9
              have N9 := newsSet N5 hs9 ho9 hneL
              clear F5 N5
              ktr_rel
              exact fin0 (by unfold ans modHit fileHit; rw [hm, ha, hb]; simp; omega) _ _ _ _ _ _ F9 N9 hI9
            case turn2 =>
              rintro i v it oi h6 tk6 m6 news6 hv ⟨n1, n2, n3, rfl, hb⟩ hnn hDi hDl F6 N6
              obtain ⟨d, td, hd, rfl⟩ := strsGet hys (by simpa using hv)
              clear F5 N5
              ktr_rel
              refine wpAny_If ?_
              rcases hfo d (List.mem_of_getElem? hd) with rfl | rfl | rfl
              · ktr_rel
                by_cases hs : Txt.startswith (fileS f) ("/s" ++ "/") = true
                · rw [if_pos hs]
                  rename News _ _ _ _ => Nq
                  have N5 := newsTail Nq
                  clear Nq
                  ktr_rel
                  rename Fr _ _ _ _ => F5
                  rename News _ _ _ _ => N5
                  refine wpAny_setItem_pairs (hsz := hsz) (strKind_is _ _ _ _) (dG _ _ N5) fun h9 hd9 hs9 => ?_
                  obtain ⟨o9, ho9, hI9⟩ := Heap.dictOf_iff.mp hd9
                  have F9 := frSet F5 N5 hs9
                  have N9 := newsSet N5 hs9 ho9 hneL
                  clear F5 N5
                  ktr_rel
                  exact fin1 (by unfold ans fileHit; rw [show (fl.any fun d => Txt.startswith (fileS f) (d ++ "/")) = true from List.any_eq_true.mpr ⟨_, List.mem_of_getElem? hd, hs⟩]; simp) _ _ _ _ _ _ F9 N9 hI9
                · rw [if_neg hs]
                  rw [Bool.not_eq_true] at hs
                  ktr_rel
                  rename Fr _ _ _ _ => F5
                  rename News _ _ _ _ => N5
                  refine ⟨_, _, _, _, rfl, F5, N5, hnn, News.isList N5 (.tail _ (.tail _ (.tail _ (.tail _ (.tail _ (.head _)))))), by ktr_unf, by ktr_unf, by ktr_unf, rfl, ?_⟩
                  rw [List.take_add_one, hd, List.any_append, hb]
                  simpa using hs
              · ktr_rel
                by_cases hs : Txt.startswith (fileS f) ("/sa" ++ "/") = true
                · rw [if_pos hs]
                  rename News _ _ _ _ => Nq
                  have N5 := newsTail Nq
                  clear Nq
                  ktr_rel
                  rename Fr _ _ _ _ => F5
                  rename News _ _ _ _ => N5
                  refine wpAny_setItem_pairs (hsz := hsz) (strKind_is _ _ _ _) (dG _ _ N5) fun h9 hd9 hs9 => ?_
                  obtain ⟨o9, ho9, hI9⟩ := Heap.dictOf_iff.mp hd9
                  have F9 := frSet F5 N5 hs9
                  have N9 := newsSet N5 hs9 ho9 hneL
                  clear F5 N5
                  ktr_rel
                  exact fin1 (by unfold ans fileHit; rw [show (fl.any fun d => Txt.startswith (fileS f) (d ++ "/")) = true from List.any_eq_true.mpr ⟨_, List.mem_of_getElem? hd, hs⟩]; simp) _ _ _ _ _ _ F9 N9 hI9
                · rw [if_neg hs]
                  rw [Bool.not_eq_true] at hs
                  ktr_rel
                  rename Fr _ _ _ _ => F5
                  rename News _ _ _ _ => N5
                  refine ⟨_, _, _, _, rfl, F5, N5, hnn, News.isList N5 (.tail _ (.tail _ (.tail _ (.tail _ (.tail _ (.head _)))))), by ktr_unf, by ktr_unf, by ktr_unf, rfl, ?_⟩
                  rw [List.take_add_one, hd, List.any_append, hb]
                  simpa using hs
              · ktr_rel
                by_cases hs : Txt.startswith (fileS f) ("/s/sa" ++ "/") = true
                · rw [if_pos hs]
                  rename News _ _ _ _ => Nq
                  have N5 := newsTail Nq
                  clear Nq
                  ktr_rel
                  rename Fr _ _ _ _ => F5
                  rename News _ _ _ _ => N5
                  refine wpAny_setItem_pairs (hsz := hsz) (strKind_is _ _ _ _) (dG _ _ N5) fun h9 hd9 hs9 => ?_
                  obtain ⟨o9, ho9, hI9⟩ := Heap.dictOf_iff.mp hd9
                  have F9 := frSet F5 N5 hs9
                  have N9 := newsSet N5 hs9 ho9 hneL
                  clear F5 N5
                  ktr_rel
                  exact fin1 (by unfold ans fileHit; rw [show (fl.any fun d => Txt.startswith (fileS f) (d ++ "/")) = true from List.any_eq_true.mpr ⟨_, List.mem_of_getElem? hd, hs⟩]; simp) _ _ _ _ _ _ F9 N9 hI9
                · rw [if_neg hs]
                  rw [Bool.not_eq_true] at hs
                  ktr_rel
                  rename Fr _ _ _ _ => F5
                  rename News _ _ _ _ => N5
                  refine ⟨_, _, _, _, rfl, F5, N5, hnn, News.isList N5 (.tail _ (.tail _ (.tail _ (.tail _ (.tail _ (.head _)))))), by ktr_unf, by ktr_unf, by ktr_unf, rfl, ?_⟩
                  rw [List.take_add_one, hd, List.any_append, hb]
                  simpa using hs
          · rw [show fileV f t5 = .none from if_neg hf] at m2
            ktr_rel
            ktr_rel
            rename Fr _ _ _ _ => F5
            rename News _ _ _ _ => N5
            refine wpAny_setItem_pairs (hsz := hsz) (strKind_is _ _ _ _) (dG _ _ N5) fun h9 hd9 hs9 => ?_
            obtain ⟨o9, ho9, hI9⟩ := Heap.dictOf_iff.mp hd9
            have F9 := frSet F5 N5 hs9
            have N9 := newsSet N5 hs9 ho9 hneL
            clear F5 N5
            ktr_rel
            exact fin1 (by unfold ans; rw [show decide (5 ≤ f) = true from decide_eq_true (by omega)]; simp) _ _ _ _ _ _ F9 N9 hI9
        · exact hq
end
section
set_option maxHeartbeats 1000000

/-- a call of a def that has cells -/
theorem enterC {K : Frag} {prog : Program} {w : World} {A : Around} {s : Shared} {h₀ : Heap} {p : Program} {loose : List Str} {mean : ExcName → Option Value} {mg mb : Str → Option Value} {E : Value → Shared → Prop} {Q : Value → Shared → Prop}
    {name qual : Str} {params : Arguments} {body : List Stmt} {scope : Scope} {dV kV doc pm cdv ct oc : Value} {an od : Option Addr} {osl : Array (Option Value)} {f : Addr} {args : List Value} {kw : List (Str × Value)} {binds : List (Str × Value)}
    (muts : List (Addr × Obj)) (X : K.In h₀) (T : Top p loose mean mg mb h₀) (kp : ∀ b o, h₀.get? b = some o → s.heap.get? b = some o)
    (hm : ∀ q ∈ muts, s.heap.get? q.1 = some q.2 ∧ h₀.get? q.1 = none)
    (ho : K.lookup f = some ⟨oc, od, .func (fnOf name qual params body scope dV kV doc pm an cdv ct), osl⟩) (hcd : codeIn K cdv qual = true) (hroom : A.depth < recursionLimit)
    (hbind : BindsTo s (fnOf name qual params body scope dV kV doc pm an cdv ct) ⟨args, kw⟩ binds)
    (hkind : (binds.all fun y => scope.names.lookup y.1 == some .local || scope.names.lookup y.1 == some .cell) = true)
    (hnd : ((cellsFrom 0 scope.names []).map (·.1)).Nodup)
    (hco : scope.isCoroutine = false) (hgen : scope.isGenerator = false) (hk : scope.kind = .function)
    (h : ∀ g L h₁ tk cells, Fr g L h₁ (bindL (envOfC qual scope L f cdv).kindOf binds fun _ => none) → News g L h₁ (cells ++ muts) →
      CellsAre (bindC (envOfC qual scope L f cdv).kindOf binds fun _ => none) (cellsFrom (L + 1) scope.names []) cells → K.In g → Top p loose mean mg mb g → (∀ b o, b ∉ muts.map (·.1) → s.heap.get? b = some o → g.get? b = some o) → (∀ q ∈ muts, @LT.lt Nat _ q.1 L) →
      wpAny (model prog w) (A.deeper (envOfC qual scope L f cdv)) (execs body (envOfC qual scope L f cdv))
        (fun fl s' => Q (match fl with | .ret v => v | _ => .none) s') (fun _ _ => False) { s with heap := h₁, toks := tk }) :
    wpAny (model prog w) A (call (.ref f) args kw) Q E s := by
  refine wpAny_call ?_
  have nm : ∀ b o, h₀.get? b = some o → b ∉ muts.map (·.1) := fun b o e q => by
    obtain ⟨p, hp, rfl⟩ := List.mem_map.mp q
    rw [(hm p hp).2] at e; cases e
  have st : ∀ b o, h₀.get? b = some o → (hideAll s.heap (muts.map (·.1))).get? b = some o := fun b o e => hideAll_get _ (kp b o e) (nm b o e)
  have X' := X.keeps st
  have T' := T.keeps st
  refine codeAny_call_function hroom (X.keeps kp _ _ ho) rfl hco hgen rfl (codeRec_of (X.keeps kp) hcd) (hbind _ _ _ _ ?_)
  refine wpAny_newFunctionEnv_cells hk (kindsX hkind _) fun env' he s' x => ?_
  subst he
  refine ⟨(T.nolimit.keeps kp).keeps x.toInCall.keep, codeAny_func ?_⟩
  obtain ⟨h₁, tk, rfl, _⟩ := x.done
  have hk₁ := x.toInCall.keep
  have nd : ((cellsFrom (s.heap.objs.size + 1) scope.names []).map (·.1)).Nodup := cellsFrom_names scope.names 0 (s.heap.objs.size + 1) [] [] rfl ▸ hnd
  have at1 := fun n c (q : (n, c) ∈ cellsFrom (s.heap.objs.size + 1) scope.names []) => x.cell n c (lookup_of_mem_nodup nd q)
  obtain ⟨cells, NC, Y⟩ := Cl.news (h₀ := s.heap) (Nat.le_refl _) fun n c q => And.intro (at1 n c q) (x.above n c q)
  refine wpAny_mono (h (hideAll s.heap (muts.map (·.1))) s.heap.objs.size h₁ tk cells ⟨x.toInCall.ns, fun b o e => hk₁ b o (of_hideAll _ e), Nat.le_of_eq (hideAll_size _ _)⟩ (fun p hp => ?_) Y X' T' (fun b o hb e => hideAll_get _ e hb) (fun p hp => Heap.lt_size (hm p hp).1)) (fun fl s' q => q) fun _ _ y => y.elim
  rcases List.mem_append.mp hp with hp | hp
  · refine ⟨(NC p hp).1, (NC p hp).2.1, Option.eq_none_iff_forall_ne_some.mpr fun o q => ?_⟩
    have z := of_hideAll _ q
    rw [(NC p hp).2.2] at z
    cases z
  · exact ⟨hk₁ _ _ (hm p hp).1, Nat.ne_of_lt (Heap.lt_size (hm p hp).1), hideAll_none _ (List.mem_map_of_mem hp)⟩
section
variable {M : Model} {A : Around} {E : Value → Shared → Prop} {s : Shared} {g : Heap} {L f : Addr} {m : Str → Option Value} {cn : Str} {cs : Scope} {cdv : Value} {x : Str} {pos : Pos} {v : Value} {Q : Value → Shared → Prop} {news : List (Addr × Obj)} {c : Addr} {o : Obj}
theorem xld (F : Fr g L s.heap m) (hv : m x = some v) (h : Q v s) (hk : cs.kind = .function := by rfl) (hx : (envOfC cn cs L f cdv).kindOf x = some .local := by rfl) (hd : (x == ("__debug__" : Str)) = false := by decide) :
    wpAny M A (eval (.Name x pos) (envOfC cn cs L f cdv)) Q E s := wpAny_Name (wpAny_loadName_local hk hx F.ns hv h) hd
theorem xcl (N : News g L s.heap news) (hc : (cellsFrom (L + 1) cs.names []).lookup x = some c) (hm : (c, o) ∈ news) (hd : o.data = .cell (some v)) (h : Q v s) (hk : cs.kind = .function := by rfl) (hx : (envOfC cn cs L f cdv).kindOf x = some .cell := by rfl) (hb : (x == ("__debug__" : Str)) = false := by decide) :
    wpAny M A (eval (.Name x pos) (envOfC cn cs L f cdv)) Q E s := wpAny_Name (wpAny_loadName_cell hk hx hc ⟨o, N.get hm, hd⟩ h) hb
end
end
local macro_rules | `(tactic| walk_at "eval Name") => `(tactic| ((with_reducible show wpAny _ _ (eval (Expr.Name _ _) (envOfC _ _ _ _ _)) _ _ _); k_dflt (first | (refine' xcl ?N ?c ?m ?d ?_; (case N => k_asm); (case c => rfl); (case m => k_mem); (case d => k_asm)) | (refine' xld ?k1 ?k2 ?_; (case k1 => k_asm); (case k2 => ktr_unf)))))
section
set_option maxHeartbeats 1000000

theorem all_ex (h : Heap) : ∃ g₀ ot, News g₀ h.objs.size h ot ∧ ∀ b o, h.get? b = some o → (b, o) ∈ ot := by
  have e0 : ∀ b, ({} : Heap).get? b = none := fun b => noneAt (Nat.zero_le _)
  obtain ⟨ot, N, ho⟩ := rest_ex ({} : Heap) h h.objs.size (fun b o e => by rw [e0] at e; cases e)
  refine ⟨_, ot, N, fun b o e => ?_⟩
  rcases ho b o (Nat.ne_of_lt (Heap.lt_size e)) e with q | q
  · rw [e0] at q; cases q
  · exact q
/-- values of the heap and what they stand for -/
def DatsH (h : Heap) (vs : List Value) (ds : List Dat) : Prop := ∀ ot, (∀ b o, h.get? b = some o → (b, o) ∈ ot) → DatAll ot vs ds
theorem DatsH.nil {h : Heap} : DatsH h [] [] := fun _ _ => .nil
theorem DatsH.int {h : Heap} {i : Int} {t : Tok} {vs : List Value} {ds : List Dat} (r : DatsH h vs ds) : DatsH h (.int i t :: vs) (.int i :: ds) := fun ot k => .cons (.int i t) (r ot k)
theorem DatsH.str {h : Heap} {x : Str} {t : Tok} {vs : List Value} {ds : List Dat} (r : DatsH h vs ds) : DatsH h (.str x t :: vs) (.str x :: ds) := fun ot k => .cons (.str x t) (r ot k)
theorem DatsH.tup {h : Heap} {a : Addr} {us vs : List Value} {n : Nat} {es ds : List Dat} (ha : h.get? a = some ⟨.type "tuple", none, .seq us.toArray n, #[]⟩) (q : DatsH h us es) (r : DatsH h vs ds) : DatsH h (.ref a :: vs) (.tuple es :: ds) := fun ot k => .cons (.tuple (k _ _ ha) (q ot k)) (r ot k)
theorem DatsH.strs {h : Heap} {vs : List Value} {xs : List Str} (r : StrsAre vs xs) : DatsH h vs (xs.map Dat.str) := by
  induction r with
  | nil => exact .nil
  | cons y t _ ih => exact .str ih
section
variable {prog : Program} {w : World} {A : Around} {E : Value → Shared → Prop} {s : Shared} {Q : Value → Shared → Prop} {a b : Addr} {xs ys : List Value} {ka kb : Nat} {ds es : List Dat}
open Classical in
theorem eq_dats {r : Bool} (ha : s.heap.get? a = some (W.listOf xs.toArray ka)) (hb : s.heap.get? b = some (W.listOf ys.toArray kb)) (Da : DatsH s.heap xs ds) (Db : DatsH s.heap ys es)
    (oa : ∀ d ∈ ds, kqdOk 8 d = true) (ob : ∀ d ∈ es, kqdOk 8 d = true) (hu : A.units + 64 < cLine) (hr : r = true ↔ ds = es) (h : Q (.bool r) s) : wpAny (model prog w) A (compareOp .Eq (.ref a) (.ref b)) Q E s := by
  obtain ⟨g₀, ot, N, k⟩ := all_ex s.heap
  exact kqd_eq N (k _ _ ha) rfl rfl (Da ot k) (fun _ h => h) (k _ _ hb) rfl rfl (Db ot k) (fun _ h => h) oa ob hu (by rw [show decide (ds = es) = r from by cases r <;> simp_all]; exact h)
open Classical in
theorem ne_dats {r : Bool} (ha : s.heap.get? a = some (W.listOf xs.toArray ka)) (hb : s.heap.get? b = some (W.listOf ys.toArray kb)) (Da : DatsH s.heap xs ds) (Db : DatsH s.heap ys es)
    (oa : ∀ d ∈ ds, kqdOk 8 d = true) (ob : ∀ d ∈ es, kqdOk 8 d = true) (hu : A.units + 64 < cLine) (hr : r = true ↔ ds = es) (h : Q (.bool (!r)) s) : wpAny (model prog w) A (compareOp .NotEq (.ref a) (.ref b)) Q E s := by
  obtain ⟨g₀, ot, N, k⟩ := all_ex s.heap
  exact kqd_ne N (k _ _ ha) rfl rfl (Da ot k) (fun _ h => h) (k _ _ hb) rfl rfl (Db ot k) (fun _ h => h) oa ob hu (by rw [show decide (ds = es) = r from by cases r <;> simp_all]; exact h)
theorem strs_ok {us : List Str} (h : ∀ x ∈ us, PyData.strOk x = true) : ∀ d ∈ us.map Dat.str, kqdOk 8 d = true := by
  intro d hd
  obtain ⟨x, hx, rfl⟩ := List.mem_map.mp hd
  simpa [kqdOk] using h x hx
theorem eq_strs {us vs : List Str} (ha : s.heap.get? a = some (W.listOf xs.toArray ka)) (hb : s.heap.get? b = some (W.listOf ys.toArray kb)) (Da : StrsAre xs us) (Db : StrsAre ys vs)
    (oa : ∀ x ∈ us, PyData.strOk x = true) (ob : ∀ x ∈ vs, PyData.strOk x = true) (hu : A.units + 64 < cLine) (h : Q (.bool (decide (us = vs))) s) : wpAny (model prog w) A (compareOp .Eq (.ref a) (.ref b)) Q E s := by
  refine eq_dats ha hb (.strs Da) (.strs Db) (strs_ok oa) (strs_ok ob) hu (r := decide (us = vs)) ?_ h
  rw [decide_eq_true_iff]
  exact ⟨fun e => by rw [e], fun e => (List.map_inj_right (fun _ _ q => Dat.str.inj q)).mp e⟩
theorem ne_strs {us vs : List Str} (ha : s.heap.get? a = some (W.listOf xs.toArray ka)) (hb : s.heap.get? b = some (W.listOf ys.toArray kb)) (Da : StrsAre xs us) (Db : StrsAre ys vs)
    (oa : ∀ x ∈ us, PyData.strOk x = true) (ob : ∀ x ∈ vs, PyData.strOk x = true) (hu : A.units + 64 < cLine) (h : Q (.bool (!decide (us = vs))) s) : wpAny (model prog w) A (compareOp .NotEq (.ref a) (.ref b)) Q E s := by
  refine ne_dats ha hb (.strs Da) (.strs Db) (strs_ok oa) (strs_ok ob) hu (r := decide (us = vs)) ?_ h
  rw [decide_eq_true_iff]
  exact ⟨fun e => by rw [e], fun e => (List.map_inj_right (fun _ _ q => Dat.str.inj q)).mp e⟩
end
end
section
set_option maxHeartbeats 1000000

theorem fillLI (w : World) (h : Heap) : (Mine.hd.heap_1 w.params).In h → PySem.Challenge.rw_oc0123_01.most = some 63 := by
  k_fill
  intro _; rfl

local macro_rules | `(tactic| ktr_rel) => `(tactic| (repeat' (first
  | (walk_at "kA"; (fail_if_success (with_reducible first | refine gFor ?_ | refine gWhile ?_ | refine gCallref ?_ | refine gComp ?_ | refine gSplit ?_ | refine gSlice ?_ | refine gCmpref ?_)); walk1)
  | walk_at "kB")))

theorem pick_take (l : List Value) (n : Nat) (h : n ≤ l.length) : kms_pick l none (some (n : Int)) = l.take n := by
  unfold kms_pick
  have : ¬ ((n : Int) < 0) := by omega
  simp [kms_lo, kms_hi, this]
theorem lies_ok {prog : Program} {w : World} {A : Around} {s : Shared} {h₀ : Heap} {mean : ExcName → Option Value} {mg mb : Str → Option Value} {loose : List Str} {E : Value → Shared → Prop} {Q : Value → Shared → Prop}
    (X : (Mine.hd.heap_1 w.params).In h₀) (T : Top Mine.view loose mean mg mb h₀) (kp : ∀ b o, h₀.get? b = some o → s.heap.get? b = some o)
    {f : Nat} {d : Str} {t u : Tok} (hf : f < 5) (hd : folderOk d) (hhd : A.handled = none) (hroom : A.depth + 8 < recursionLimit) (hunit : A.units + 90 < cLine)
    (h : ∀ (h' : Heap) (tk : Nat), (∀ b o, s.heap.get? b = some o → h'.get? b = some o) → Q (.bool (Txt.startswith (fileS f) (d ++ "/"))) { s with heap := h', toks := tk }) :
    wpAny (model prog w) A (call (.ref 210) [.str (fileS f) t, .str d u]) Q E s := by
  refine' enter (binds := [("file", .str (fileS f) t), ("folder", .str d u)]) [] X T kp ?hm ?ho ?hcd (by first | exact dr hroom | omega) ?hbind ?hloc ?hcell ?hco ?hgen ?hk ?_
  case ho => k_is
  case hcd => k_is
  case hbind => exact BindsTo.of_eq rfl
  case hloc => exact locs rfl
  case hcell => decide
  case hco => rfl
  case hgen => rfl
  case hk => rfl
  case hm => intro q hq; cases hq
  intro g L h₁ F N X' T' kg
  clear X T kp
  have hz : (fileS f).length ≤ 10 ∧ d.length ≤ 10 ∧ (∀ x ∈ Txt.split (fileS f) "/", PyData.strOk x = true) ∧ (∀ x ∈ Txt.split d "/", PyData.strOk x = true) ∧ (Txt.split (fileS f) "/").length < 10 ∧ (Txt.split d "/").length < 10 ∧
      Txt.startswith (fileS f) (d ++ "/") = (decide ((Txt.split d "/").length < (Txt.split (fileS f) "/").length) && decide ((Txt.split (fileS f) "/").take (Txt.split d "/").length = Txt.split d "/")) := by
    have hf' : f = 0 ∨ f = 1 ∨ f = 2 ∨ f = 3 ∨ f = 4 := by omega
    rcases hf' with rfl | rfl | rfl | rfl | rfl <;> rcases hd with rfl | rfl | rfl <;> decide +kernel
  obtain ⟨z1, z2, z3, z4, z5, z6, z7⟩ := hz
  ktr_rel
  refine KSpl.split1 F N rfl (fun D l h2 k2 e2 s2 F2 N2 l2 => ?_) (by rw [sizeLine_eq]; omega)
  rw [e2] at s2
  clear F N
  ktr_rel
  rename Fr _ _ _ _ => F
  rename News _ _ _ _ => N
  refine KSpl.split1 F N rfl (fun D2 l3 h3 k3 e3 s3 F3 N3 l4 => ?_) (by rw [sizeLine_eq]; omega)
  rw [e3] at s3
  clear F N
  have hl2 := strs_len s2
  have hl3 := strs_len s3
  ktr_rel
  rename StrsAre (strValues l3) _ => s3
  rename Fr _ _ _ _ => F
  rename News _ _ _ _ => N
  by_cases hlt : (Txt.split d "/").length < (Txt.split (fileS f) "/").length
  · rw [if_pos (by simpa using hlt)]
    rw [decide_eq_true hlt, Bool.true_and] at z7
    ktr_rel
    rename Fr _ _ _ _ => F
    rename News _ _ _ _ => N
    refine' kms_slice_lit F N (News.isList N (.tail _ (.head _))) .none (.int _ _) (pick_take _ _ ?_) ?_ ?s ?t ?z
    case s => with_unfolding_all rfl
    case t => kmk_pure
    case z => rw [sizeLine_eq]; simp; omega
    · simp; omega
    intro D3 h5 F5 N5 l5
    clear F N
    ktr_rel
    rename StrsAre (strValues l3) _ => s3
    refine eq_strs (N5 _ (.head _)).1 (N5 _ (.tail _ (.head _))).1 (StrsAre.take' s2 _) s3 (fun x hx => z3 x (List.mem_of_mem_take hx)) z4 (by show A.units + 3 + 64 < _; exact dl hunit) ?_
    rw [← z7]
    exact h _ _ fun b o z => F5.keep _ _ (kg b o (by simp) z)
  · rw [if_neg (by simpa using hlt)]
    rw [decide_eq_false hlt, Bool.false_and] at z7
    rw [show decide (((Txt.split d "/").length : Int) < ((Txt.split (fileS f) "/").length : Int)) = false from decide_eq_false (by omega), ← z7]
    exact h _ _ fun b o z => F.keep _ _ (kg b o (by simp) z)
end
section
set_option maxHeartbeats 1000000

theorem fillBI (w : World) (h : Heap) : (Mine.hd.heap_1 w.params).In h → PySem.Challenge.rw_oc0123_01.most = some 63 := by
  k_fill
  intro _; rfl

local macro_rules | `(tactic| ktr_rel) => `(tactic| (repeat' (first
  | (walk_at "kA"; (fail_if_success (with_reducible first | refine gFor ?_ | refine gWhile ?_ | refine gIf ?_ | refine gCallref ?_ | refine gComp ?_ | refine gSplit ?_ | refine gSlice ?_ | refine gCmpref ?_)); walk1)
  | walk_at "kB")))

noncomputable def ownS (r : Nat) : Str := if r = 0 then "r-x" else "rws"
theorem two_own {k : Nat} (h : k < 2) (t u : Tok) : ∃ v, [Value.str "r-x" t, Value.str "rws" u][k]? = some (.str (ownS k) v) := by
  match k, h with
  | 0, _ => exact ⟨t, rfl⟩
  | 1, _ => exact ⟨u, rfl⟩
theorem hit_iff {q : Ask} (ok : q.Ok) {ml : List Str} (hmo : ml = [] ∨ ml = [("-.rws" : Str)] ∨ ml = [("d" : Str)]) : modHit ml (nameS q.k q.r) = ((ml.any fun x => x == Txt.item "d-" (q.k : Int)) || (ml.any fun x => x == Txt.item "d-" (q.k : Int) ++ "." ++ ownS q.r)) := by
  have hk := ok.k
  have hr := ok.r
  generalize q.k = k at *
  generalize q.r = r at *
  match k, hk, r, hr with
  | 0, _, 0, _ => rcases hmo with rfl | rfl | rfl <;> decide +kernel
  | 0, _, 1, _ => rcases hmo with rfl | rfl | rfl <;> decide +kernel
  | 1, _, 0, _ => rcases hmo with rfl | rfl | rfl <;> decide +kernel
  | 1, _, 1, _ => rcases hmo with rfl | rfl | rfl <;> decide +kernel
theorem ans_iff {q : Ask} (ok : q.Ok) {ml fl : List Str} (hmo : ml = [] ∨ ml = [("-.rws" : Str)] ∨ ml = [("d" : Str)]) : ans ml fl q.f (nameS q.k q.r) = 1 ↔ ((ml.any fun x => x == Txt.item "d-" (q.k : Int)) = true ∨ (ml.any fun x => x == Txt.item "d-" (q.k : Int) ++ "." ++ ownS q.r) = true ∨ 5 ≤ q.f ∨ fileHit fl q.f = true) := by
  unfold ans
  rw [hit_iff ok hmo]
  simp only [Bool.or_eq_true, decide_eq_true_eq]
  constructor
  · intro e
    split at e
    · rename_i c
      rcases c with ((c | c) | c) | c
      · exact .inl c
      · exact .inr (.inl c)
      · exact .inr (.inr (.inl c))
      · exact .inr (.inr (.inr c))
    · cases e
  · intro c
    rw [if_pos]
    rcases c with c | c | c | c
    · exact .inl (.inl (.inl c))
    · exact .inl (.inl (.inr c))
    · exact .inl (.inr c)
    · exact .inr c
theorem itself_ok {prog : Program} {w : World} {A : Around} {s : Shared} {h₀ : Heap} {mean : ExcName → Option Value} {mg mb : Str → Option Value} {loose : List Str} {E : Value → Shared → Prop} {Q : Value → Shared → Prop}
    (X : (Mine.hd.heap_1 w.params).In h₀) (T : Top Mine.view loose mean mg mb h₀) (kp : ∀ b o, h₀.get? b = some o → s.heap.get? b = some o)
    {q : Ask} {fd md : Addr} {mv fv : List Value} {ml fl : List Str} {k1 k2 : Nat} (hq : AskAt s.heap q) (ok : q.Ok) (hmd : s.heap.get? md = some (W.listOf mv.toArray k1)) (hfd : s.heap.get? fd = some (W.listOf fv.toArray k2))
    (hms : StrsAre mv ml) (hfs : StrsAre fv fl) (hmo : ml = [] ∨ ml = [("-.rws" : Str)] ∨ ml = [("d" : Str)]) (hfl : fl.length ≤ 2) (hff : ∀ d ∈ fl, folderOk d)
    (hhd : A.handled = none) (hroom : A.depth + 20 < recursionLimit) (hunit : A.units + 120 < cLine)
    (h : ∀ (h' : Heap) (tk : Nat) u, (∀ b o, s.heap.get? b = some o → h'.get? b = some o) → Q (.str (if ans ml fl q.f (nameS q.k q.r) = 1 then "1" else "0") u) { s with heap := h', toks := tk }) :
    wpAny (model prog w) A (call (.ref 215) [.ref q.a, .ref fd, .ref md]) Q E s := by
  refine' enterC (binds := [("ask", .ref q.a), ("folders", .ref fd), ("modules", .ref md)]) [] X T kp ?hm ?ho ?hcd (by first | exact dr hroom | omega) ?hbind ?hkind ?hnd ?hco ?hgen ?hk ?_
  case ho => k_is
  case hcd => k_is
  case hbind => exact BindsTo.of_eq rfl
  case hkind => rfl
  case hnd => decide
  case hco => rfl
  case hgen => rfl
  case hk => rfl
  case hm => intro q hq; cases hq
  intro g L h₁ tk cells F N C X' T' kg lm
  clear X T kp
  obtain ⟨oc, rfl, hoc⟩ := C.one
  replace hoc : oc.data = .cell (some (.ref q.a)) := hoc
  replace N : News g L h₁ [(L + 1, oc)] := N
  replace F : Fr g L h₁ (fun y => if y = "modules" then some (.ref md) else if y = "folders" then some (.ref fd) else none) := F
  obtain ⟨t1, t2, t3, t4, t5, nq, hqa⟩ := hq
  have hqg := kg _ _ (by simp) hqa
  clear C lm
  have yes : ((ml.any fun x => x == Txt.item "d-" (q.k : Int)) = true ∨ (ml.any fun x => x == Txt.item "d-" (q.k : Int) ++ "." ++ ownS q.r) = true ∨ 5 ≤ q.f ∨ fileHit fl q.f = true) → ∀ h' tk m u, Fr g L h' m → Q (.str "1" u) { s with heap := h', toks := tk } := by
    intro c h' tk m u F'
    have := h h' tk u fun b o z => F'.keep _ _ (kg b o (by simp) z)
    rwa [show ans ml fl q.f (nameS q.k q.r) = 1 from (ans_iff ok hmo).mpr c, if_pos rfl] at this
  have no : ¬ ((ml.any fun x => x == Txt.item "d-" (q.k : Int)) = true ∨ (ml.any fun x => x == Txt.item "d-" (q.k : Int) ++ "." ++ ownS q.r) = true ∨ 5 ≤ q.f ∨ fileHit fl q.f = true) → ∀ h' tk m u, Fr g L h' m → Q (.str "0" u) { s with heap := h', toks := tk } := by
    intro c h' tk m u F'
    have := h h' tk u fun b o z => F'.keep _ _ (kg b o (by simp) z)
    rwa [if_neg (fun e => c ((ans_iff ok hmo).mp e))] at this
  ktr_rel
  refine sub_tup (vs := [.int q.h t1, .int q.k t2, .int q.r t3, .int q.x t4, fileV q.f t5]) (F.keep _ _ hqg) (by first | exact Int.natCast_nonneg _ | decide | omega) (by first | decide | exact n63 (by assumption) | omega) rfl ?_
  have hk2 : ((q.k : Nat) : Int) < 2 := by have := ok.k; omega
  walk1
  have hz : (Txt.item "d-" (q.k : Int)).length = 1 := by assumption
  have hmg := kg _ _ (by simp) hmd
  have hfg := kg _ _ (by simp) hfd
  have hml' : g.IsList md mv.toArray := ⟨_, hmg, rfl, _, rfl⟩
  have hfl' : g.IsList fd fv.toArray := ⟨_, hfg, rfl, _, rfl⟩
  ktr_rel
  refine wpAny_If ?_
  ktr_rel
  by_cases c1 : (ml.any fun x => x == Txt.item "d-" (q.k : Int)) = true
  · rw [if_pos c1]
    ktr_rel
    rename Fr _ _ _ _ => F
    exact yes (.inl c1) _ _ _ _ F
  · rw [if_neg c1]
    ktr_rel
    rename Fr _ _ _ _ => F
    rename News _ _ _ _ => N
    refine sub_tup (vs := [.int q.h t1, .int q.k t2, .int q.r t3, .int q.x t4, fileV q.f t5]) (F.keep _ _ hqg) (by first | exact Int.natCast_nonneg _ | decide | omega) (by first | decide | exact n63 (by assumption) | omega) rfl ?_
    have hr2 := ok.r
    obtain ⟨to, hto⟩ := two_own ok.r _ _
    refine sub_tup (N _ (.head _)).1 (by first | exact Int.natCast_nonneg _ | decide | omega) (by first | decide | exact n63 (by assumption) | omega) hto ?_
    clear hto
    have hoz : (ownS q.r).length = 3 := by unfold ownS; split <;> rfl
    ktr_rel
    by_cases c2 : (ml.any fun x => x == Txt.item "d-" (q.k : Int) ++ "." ++ ownS q.r) = true
    · rw [if_pos c2]
      ktr_rel
      rename Fr _ _ _ _ => F
      exact yes (.inr (.inl c2)) _ _ _ _ F
    · rw [if_neg c2]
      ktr_rel
      rename Fr _ _ _ _ => F
      rename News _ _ _ _ => N
      refine sub_tup (vs := [.int q.h t1, .int q.k t2, .int q.r t3, .int q.x t4, fileV q.f t5]) (F.keep _ _ hqg) (by first | exact Int.natCast_nonneg _ | decide | omega) (by first | decide | exact n63 (by assumption) | omega) rfl ?_
      by_cases hf : q.f < 5
      · have ef : fileV q.f t5 = .str (fileS q.f) t5 := if_pos hf
        rw [ef]
        ktr_rel
        refine comp_evalC (cl := [("ask", L + 1)]) rfl (by decide) rfl (by decide) ?_
        ktr_rel
        refine comp_list (by exact hhd) F N (by exact ⟨W.listOf fv.toArray k2, F.keep _ _ hfg, rfl, k2, rfl⟩) (by simp; rw [strs_len hfs]; omega) (fun it v s1 o vs Q E _ _ _ q => go_name it 0 v s1 Q E q) (fun i ys h => StrsAre ys ((fl.take i).filter fun d => Txt.startswith (fileS q.f) (d ++ "/"))) (fun _ _ => .nil) (fun _ _ _ _ h _ => h) ?_ ?_
        · intro C i v ys h4 tk4 m4 ot hv hJ F4 N4 k4
          obtain ⟨d, td, hd, rfl⟩ := strsGet hfs (by simpa using hv)
          clear F N
          replace N4 : News g C h4 ((_, _) :: (L + 1, oc) :: ot) := N4
          ktr_rel
          refine cstore F4 N4 fun h5 F5 N5 => ?_
          clear F4 N4
          refine ctest1 ?_
          ktr_rel
          refine sub_tup (vs := [.int q.h t1, .int q.k t2, .int q.r t3, .int q.x t4, fileV q.f t5]) (F5.keep _ _ hqg) (by first | exact Int.natCast_nonneg _ | decide | omega) (by first | decide | exact n63 (by assumption) | omega) rfl ?_
          rw [ef]
          ktr_rel
          refine lies_ok (h₀ := g) X' T' F5.keep hf (hff d (List.mem_of_getElem? hd)) (by exact hhd) (by show A.depth + 1 + 8 < _; exact dl hroom) (by show A.units + 3 + 90 < _; exact dl hunit) fun h6 tk6 k6 => ?_
          have F6 := frKeep F5 k6
          have N6 := newsKeep N5 k6
          clear F5 N5
          ktr_rel
          by_cases hs : Txt.startswith (fileS q.f) (d ++ "/") = true
          · show if _ then _ else _
            rw [if_pos hs]
            ktr_rel
            refine ⟨_, _, _, _, rfl, F6, N6, fun p hp => by simp [hp], ?_⟩
            rw [List.take_add_one, hd, List.filter_append]
            simp only [Option.toList_some, List.filter_cons, hs, if_true, List.filter_nil]
            exact strs_snoc hJ d td
          · show if _ then _ else _
            rw [if_neg hs]
            refine ⟨_, _, _, _, rfl, F6, N6, fun p hp => by simp [hp], ?_⟩
            rw [List.take_add_one, hd, List.filter_append]
            rw [Bool.not_eq_true] at hs
            simp only [Option.toList_some, List.filter_cons, hs, List.filter_nil, List.append_nil, Bool.false_eq_true, if_false]
            exact hJ
        · intro D h4 tk4 ys k F4 N4 nD hDn hJ k4
          clear F N
          ktr_rel
          have hfv : fv.length = fl.length := strs_len hfs
          rw [List.take_of_length_le (by simp; omega)] at hJ
          have hyl := strs_len hJ
          have hfl2 := List.length_filter_le (fun d => Txt.startswith (fileS q.f) (d ++ "/")) fl
          have c12 : ¬ ((ml.any fun x => x == Txt.item "d-" (q.k : Int)) = true ∨ (ml.any fun x => x == Txt.item "d-" (q.k : Int) ++ "." ++ ownS q.r) = true ∨ 5 ≤ q.f) := by
            rintro (c | c | c)
            · exact c1 c
            · exact c2 c
            · omega
          refine wpAny_truthy_list (items := ys.toArray) (News.isList N4 (.head _)) (by simp; omega) ?_
          by_cases hh : fileHit fl q.f = true
          · have he : ys.toArray.isEmpty = false := by
              obtain ⟨d, hd, hs⟩ := List.any_eq_true.mp hh
              cases ys with
              | nil =>
                have : d ∈ fl.filter (fun d => Txt.startswith (fileS q.f) (d ++ "/")) := List.mem_filter.mpr ⟨hd, hs⟩
                rw [List.length_eq_zero_iff.mp hyl.symm] at this
                cases this
              | cons _ _ => rfl
            rw [he]
            ktr_rel
            exact yes (.inr (.inr (.inr hh))) _ _ _ _ F4
          · have he : ys.toArray.isEmpty = true := by
              have : fl.filter (fun d => Txt.startswith (fileS q.f) (d ++ "/")) = [] := by
                rw [List.filter_eq_nil_iff]
                intro d hd hs
                exact hh (List.any_eq_true.mpr ⟨d, hd, hs⟩)
              rw [this] at hyl
              rw [List.length_eq_zero_iff.mp hyl]; rfl
            rw [he]
            ktr_rel
            refine no ?_ _ _ _ _ F4
            rintro (c | c | c | c)
            · exact c1 c
            · exact c2 c
            · omega
            · exact hh c
      · have ef : fileV q.f t5 = .none := if_neg hf
        rw [ef]
        ktr_rel
        rename Fr _ _ _ _ => F
        exact yes (.inr (.inr (.inl (by omega)))) _ _ _ _ F
end
section
set_option maxHeartbeats 1000000

theorem fillWA (w : World) (h : Heap) : (Mine.hd.heap_1 w.params).In h → PySem.Challenge.rw_oc0123_01.most = some 63 := by
  k_fill
  intro _; rfl

local macro_rules | `(tactic| ktr_rel) => `(tactic| (repeat' (first
  | (walk_at "kA"; (fail_if_success (with_reducible first | refine gFor ?_ | refine gWhile ?_ | refine gIf ?_ | refine gCallref ?_ | refine gComp ?_ | refine gSplit ?_ | refine gSlice ?_ | refine gCmpref ?_ | refine gSetitem ?_)); walk1)
  | walk_at "kB")))

inductive FirstIs : List (Int × Value) → List (Nat × Str) → Prop
  | nil : FirstIs [] []
  | cons {n : Nat} {x : Str} {t kvs c} : FirstIs kvs c → FirstIs (((n : Int), .str x t) :: kvs) ((n, x) :: c)
theorem FirstIs.len {kvs c} (h : FirstIs kvs c) : kvs.length = c.length := by
  induction h with
  | nil => rfl
  | cons _ ih => simp [ih]
theorem FirstIs.snoc {kvs c} (h : FirstIs kvs c) (n : Nat) (x : Str) (t : Tok) : FirstIs (kvs ++ [((n : Int), .str x t)]) (c ++ [(n, x)]) := by
  induction h with
  | nil => exact .cons .nil
  | cons _ ih => exact .cons ih
theorem valueAt_consI {k : Int} {v : Value} {kvs : List (Int × Value)} (n : Int) : valueAt ((k, v) :: kvs) n = if k = n then some v else valueAt kvs n := by
  unfold valueAt
  by_cases h : k = n <;> simp [h]
theorem FirstIs.none {kvs c} (h : FirstIs kvs c) {n : Nat} (e : valueAt kvs (n : Int) = .none) : c.lookup n = .none := by
  induction h with
  | nil => rfl
  | @cons k r t kvs c _ ih =>
    rw [valueAt_consI] at e
    by_cases hk : (k : Int) = n
    · rw [if_pos hk] at e; cases e
    · rw [if_neg hk] at e
      have : (n == k) = false := by simp; omega
      simp [List.lookup, this, ih e]
theorem FirstIs.some {kvs c} (h : FirstIs kvs c) {n : Nat} {v : Value} (e : valueAt kvs (n : Int) = .some v) : ∃ x t, c.lookup n = .some x ∧ v = .str x t := by
  induction h with
  | nil => cases e
  | @cons k r t kvs c _ ih =>
    rw [valueAt_consI] at e
    by_cases hk : (k : Int) = n
    · rw [if_pos hk] at e; cases e
      exact ⟨r, t, by simp [List.lookup, show n = k by omega], rfl⟩
    · rw [if_neg hk] at e
      have : (n == k) = false := by simp; omega
      simpa [List.lookup, this] using ih e
theorem stored_newI {kvs : List (Int × Value)} {n : Int} {v : Value} (e : valueAt kvs n = .none) : stored kvs n v = kvs ++ [(n, v)] := by
  unfold stored
  rw [if_neg]
  intro h
  obtain ⟨kv, hk, h2⟩ := List.any_eq_true.mp h
  unfold valueAt at e
  have := List.find?_eq_none.mp (Option.map_eq_none_iff.mp e) kv hk
  exact this h2
theorem valueAt_snocI {kvs : List (Int × Value)} {n : Int} {v : Value} (e : valueAt kvs n = .none) : valueAt (kvs ++ [(n, v)]) n = .some v := by
  induction kvs with
  | nil => simp [valueAt]
  | cons kv kvs ih =>
    obtain ⟨k, u⟩ := kv
    rw [valueAt_consI] at e
    by_cases hk : k = n
    · rw [if_pos hk] at e; cases e
    · rw [if_neg hk] at e
      rw [List.cons_append, valueAt_consI, if_neg hk, ih e]
noncomputable def itS (ml fl : List Str) (q : Ask) : Str := if ans ml fl q.f (nameS q.k q.r) = 1 then "1" else "0"
noncomputable def wStep (ml fl : List Str) (qs : List Ask) (st : List (Nat × Str) × List Str) (r : Nat) : List (Nat × Str) × List Str :=
  match qs[r]? with
  | none => st
  | some q => match st.1.lookup (2 * q.k + q.r) with
    | some x => (st.1, st.2 ++ [x])
    | none => (st.1 ++ [(2 * q.k + q.r, itS ml fl q)], st.2 ++ [itS ml fl q])
noncomputable def wantS (ml fl : List Str) (qs : List Ask) (rs : List Nat) : List (Nat × Str) × List Str := rs.foldl (wStep ml fl qs) ([], [])
inductive NatsAre : List Value → List Nat → Prop
  | nil : NatsAre [] []
  | cons (r : Nat) (t : Tok) {vs rs} : NatsAre vs rs → NatsAre (.int (r : Nat) t :: vs) (r :: rs)
theorem NatsAre.get {vs : List Value} {rs : List Nat} (h : NatsAre vs rs) {i : Nat} {v : Value} (e : vs[i]? = some v) : ∃ r t, rs[i]? = some r ∧ v = .int (r : Nat) t := by
  induction h generalizing i with
  | nil => simp at e
  | cons y t _ ih =>
    cases i with
    | zero => simp at e; exact ⟨y, t, rfl, e.symm⟩
    | succ i => simpa using ih (by simpa using e)
theorem NatsAre.len {vs : List Value} {rs : List Nat} (h : NatsAre vs rs) : vs.length = rs.length := by
  induction h with
  | nil => rfl
  | cons _ _ _ ih => simp [ih]
def AsksAt (h : Heap) (al : Addr) (qs : List Ask) : Prop := (∃ k, h.get? al = some (W.listOf (qs.map fun q => Value.ref q.a).toArray k)) ∧ ∀ q ∈ qs, AskAt h q ∧ q.Ok
def RowIs (h : Heap) (rw : Addr) (rs : List Nat) : Prop := (∃ rv k, h.get? rw = some (W.listOf (List.toArray rv) k) ∧ NatsAre rv rs) ∨ ∃ n t u v, IsRange h rw 0 (n : Nat) 1 t u v ∧ n < 1000 ∧ rs = List.range n
theorem RowIs.keeps {h h' : Heap} {rw : Addr} {rs : List Nat} (x : RowIs h rw rs) (k : ∀ o, h.get? rw = some o → h'.get? rw = some o) : RowIs h' rw rs := by
  rcases x with ⟨rv, n, e, r⟩ | ⟨n, t, u, v, e, r⟩
  · exact .inl ⟨rv, n, k _ e, r⟩
  · exact .inr ⟨n, t, u, v, k _ e, r⟩
theorem loop_row {prog : Program} {w : World} {A : Around} {E : Value → Shared → Prop} {s : Shared} {R : Result → Shared → Prop} {x : Str} {px : Pos} {body : List Stmt} {env : Env} {g : Heap} {L l : Addr} {m : Str → Option Value} {news : List (Addr × Obj)} {rs : List Nat}
    (hh : A.handled = none) (F : Fr g L s.heap m) (N : News g L s.heap news) (hr : RowIs g l rs)
    (J : Nat → (Str → Option Value) → List (Addr × Obj) → Prop) (h0 : J 0 m news)
    (turn : ∀ i r tv it oi h tk m₁ news₁, rs[i]? = some r → J i m₁ news₁ → (∀ p ∈ news₁, @Ne Nat p.1 it) → Fr g L h m₁ → News g L h ((it, oi) :: news₁) →
      wpAny (model prog w) A (assign (.Name x px) env (.int (r : Nat) tv)) (fun _ s₂ => wpAny (model prog w) A (execs body env) (Turned s g L it oi (fun _ => True) (J (i + 1)) R) (fun _ _ => False) s₂) (fun _ _ => False) { s with heap := h, toks := tk })
    (done : ∀ h tk m₁ news₁, Fr g L h m₁ → News g L h news₁ → J rs.length m₁ news₁ → R (.ok .next) { s with heap := h, toks := tk }) :
    wpAny (model prog w) A (pyIter (.ref l)) (fun it s₂ => codeAny (model prog w) A (.forLoop (.Name x px) it body [] env) R s₂) E s := by
  rcases hr with ⟨rv, k, e, hrv⟩ | ⟨n, t, u, v, e, hn, rfl⟩
  · refine loop_list hh F N ⟨_, F.keep _ _ e, rfl, k, rfl⟩ (fun it v s1 o vs Q E _ _ _ q => go_name it 0 v s1 Q E q) J h0 ?_ ?_
    · intro i v it oi h tk m₁ news₁ hv hJ hn hl hL F1 N1
      obtain ⟨r, tr, hr, rfl⟩ := hrv.get (by simpa using hv)
      refine wpAny_mono (turn i r tr it oi h tk m₁ news₁ hr hJ hn F1 N1) (fun _ s2 h2 => wpAny_mono h2 (fun f s3 h3 => ?_) fun _ _ e => e) fun _ _ e => e
      cases f with
      | next => obtain ⟨h4, tk4, m4, n4, r1, F4, N4, r2, _, r3⟩ := h3; exact ⟨h4, tk4, m4, n4, r1, F4, N4, r2, ⟨_, F4.keep _ _ e, rfl, k, rfl⟩, r3⟩
      | cont => obtain ⟨h4, tk4, m4, n4, r1, F4, N4, r2, _, r3⟩ := h3; exact ⟨h4, tk4, m4, n4, r1, F4, N4, r2, ⟨_, F4.keep _ _ e, rfl, k, rfl⟩, r3⟩
      | brk => exact h3
      | ret v => exact h3
    · intro h tk m₁ news₁ F1 N1 hJ
      rw [List.size_toArray, hrv.len] at hJ
      exact done h tk m₁ news₁ F1 N1 hJ
  · have e' : s.heap.get? l = some _ := F.keep _ _ e
    refine loop_range hh F N (n := n) (t := t) (u := u) (v := v) e' hn J h0 ?_ ?_
    · intro i tv it oi h tk m₁ news₁ hi hJ hn F1 N1
      exact turn i i tv it oi h tk m₁ news₁ (by simp [hi]) hJ hn F1 N1
    · intro h tk m₁ news₁ F1 N1 hJ
      exact done h tk m₁ news₁ F1 N1 (by simpa using hJ)
inductive WaJ (prog : Program) (w : World) (al fd md l d : Addr) (ml fl : List Str) (qs : List Ask) (rs : List Nat) (i : Nat) (m₁ : Str → Option Value) (news₁ : List (Addr × Obj)) : Prop where
  | mk (m1 : m₁ "asks" = some (.ref al)) (m2 : m₁ "folders" = some (.ref fd)) (m3 : m₁ "modules" = some (.ref md)) (m4 : m₁ "told" = some (.ref l)) (m5 : m₁ "first" = some (.ref d)) (tv : List Value) (nn : Nat) (o : Obj) (kvs : List (Int × Value))
    (e : news₁ = [(l, W.listOf (List.toArray tv) nn), (d, o)]) (hI : o.IsDictOf (intKind prog w) kvs) (hF : FirstIs kvs (wantS ml fl qs rs).1) (hS : StrsAre tv (wantS ml fl qs rs).2) (z1 : tv.length = i) (z2 : kvs.length ≤ i)
theorem wanted_ok {prog : Program} {w : World} {A : Around} {s : Shared} {h₀ : Heap} {mean : ExcName → Option Value} {mg mb : Str → Option Value} {loose : List Str} {E : Value → Shared → Prop} {Q : Value → Shared → Prop}
    (X : (Mine.hd.heap_1 w.params).In h₀) (T : Top Mine.view loose mean mg mb h₀) (kp : ∀ b o, h₀.get? b = some o → s.heap.get? b = some o)
    {al rw fd md : Addr} {qs : List Ask} {rs : List Nat} {mv fv : List Value} {ml fl : List Str} {k1 k2 : Nat} (hal : AsksAt s.heap al qs) (hrw : RowIs s.heap rw rs) (hrs : ∀ r ∈ rs, r < qs.length) (hqz : qs.length < 100) (hrz : rs.length < 100)
    (hmd : s.heap.get? md = some (W.listOf mv.toArray k1)) (hfd : s.heap.get? fd = some (W.listOf fv.toArray k2))
    (hms : StrsAre mv ml) (hfs : StrsAre fv fl) (hmo : ml = [] ∨ ml = [("-.rws" : Str)] ∨ ml = [("d" : Str)]) (hfl : fl.length ≤ 2) (hff : ∀ d ∈ fl, folderOk d)
    (hhd : A.handled = none) (hroom : A.depth + 30 < recursionLimit) (hunit : A.units + 150 < cLine)
    (h : ∀ (h' : Heap) (tk : Nat) D tv k, (∀ b o, s.heap.get? b = some o → h'.get? b = some o) → s.heap.get? D = none → h'.get? D = some (W.listOf (List.toArray tv) k) → StrsAre tv (wantS ml fl qs rs).2 → Q (.ref D) { s with heap := h', toks := tk }) :
    wpAny (model prog w) A (call (.ref 222) [.ref al, .ref rw, .ref fd, .ref md]) Q E s := by
  refine' enter (binds := [("asks", .ref al), ("row", .ref rw), ("folders", .ref fd), ("modules", .ref md)]) [] X T kp ?hm ?ho ?hcd (by first | exact dr hroom | omega) ?hbind ?hloc ?hcell ?hco ?hgen ?hk ?_
  case ho => k_is
  case hcd => k_is
  case hbind => exact BindsTo.of_eq rfl
  case hloc => exact locs rfl
  case hcell => decide
  case hco => rfl
  case hgen => rfl
  case hk => rfl
  case hm => intro q hq; cases hq
  intro g L h₁ F N X' T' kg
  clear X T kp
  obtain ⟨⟨ka, hal⟩, hqs⟩ := hal
  have halg := kg _ _ (by simp) hal
  have hrwg : RowIs g rw rs := hrw.keeps fun o e => kg _ _ (by simp) e
  have hmdg := kg _ _ (by simp) hmd
  have hfdg := kg _ _ (by simp) hfd
  ktr_rel
  rename Fr _ _ _ _ => F
  rename News _ _ _ _ => N
  rename_i d hA o lo hs0 fs0 hI0 fi0 tr0 hB l hC hld hD
  clear hs0 fs0 fi0 tr0
  have hne : @Ne Nat l d := by omega
  refine wpAny_For ?_
  ktr_rel
  refine loop_row (hh := by exact hhd) F N hrwg
    (fun i => WaJ prog w al fd md l d ml fl qs (rs.take i) i) ?h0 ?turn ?done
  case h0 => exact ⟨rfl, rfl, rfl, rfl, rfl, [], 0, o, [], rfl, hI0, .nil, .nil, rfl, Nat.le_refl _⟩
  case done =>
    rintro h6 tk6 m6 news6 F6 N6 ⟨n1, n2, n3, n4, n5, tv, nn, o6, kvs, rfl, hI6, hF6, hS6, hz1, hz2⟩
    rw [List.take_of_length_le (Nat.le_refl _)] at hS6
    clear F N
    ktr_rel
    refine h _ _ _ tv nn (fun b o z => F6.keep _ _ (kg b o (by simp) z)) ?_ (N6 _ (.head _)).1 hS6
    cases e : s.heap.get? l with
    | none => rfl
    | some o => exact absurd (kg _ _ (by simp) e) (by rw [(N6 _ (.head _)).2.2]; simp)
  case turn =>
    rintro i r tr it oi h6 tk6 m6 news6 hr ⟨n1, n2, n3, n4, n5, tv, nn, o6, kvs, rfl, hI6, hF6, hS6, hz1, hz2⟩ hnn F6 N6
    clear F N
    have hrl := hrs r (List.mem_of_getElem? hr)
    have hil : i < rs.length := (List.getElem?_eq_some_iff.mp hr).1
    obtain ⟨q, hq⟩ : ∃ q, qs[r]? = some q := ⟨qs[r], by simp [hrl]⟩
    obtain ⟨hqa, ok⟩ := hqs q (List.mem_of_getElem? hq)
    obtain ⟨t1, t2, t3, t4, t5, nq, hqq⟩ := hqa.keeps (h' := g) (fun o e => kg _ _ (by simp) e)
    have i1 : @Ne Nat l it := hnn _ (.head _)
    have i2 : @Ne Nat d it := hnn _ (.tail _ (.head _))
    have hstep : wantS ml fl qs (rs.take (i + 1)) = wStep ml fl qs (wantS ml fl qs (rs.take i)) r := by
      unfold wantS
      rw [List.take_add_one, hr, List.foldl_append]; rfl
    ktr_rel
    rename Fr _ _ _ _ => F
    rename News _ _ _ _ => N
    refine sub_list (v := .ref q.a) (F.keep _ _ halg) (by first | exact Int.natCast_nonneg _ | decide | omega) (by first | decide | exact n63 (by assumption) | omega) (by simp [hq]) ?_
    ktr_rel
    refine sub_tup (vs := [.int q.h t1, .int q.k t2, .int q.r t3, .int q.x t4, fileV q.f t5]) (F.keep _ _ hqq) (by first | exact Int.natCast_nonneg _ | decide | omega) (by first | decide | exact n63 (by assumption) | omega) rfl ?_
    ktr_rel
    refine sub_list (v := .ref q.a) (F.keep _ _ halg) (by first | exact Int.natCast_nonneg _ | decide | omega) (by first | decide | exact n63 (by assumption) | omega) (by simp [hq]) ?_
    ktr_rel
    refine sub_tup (vs := [.int q.h t1, .int q.k t2, .int q.r t3, .int q.x t4, fileV q.f t5]) (F.keep _ _ hqq) (by first | exact Int.natCast_nonneg _ | decide | omega) (by first | decide | exact n63 (by assumption) | omega) rfl ?_
    have ek : (2 * (q.k : Int) + (q.r : Int)) = ((2 * q.k + q.r : Nat) : Int) := by omega
    ktr_rel
    rename Fr _ _ _ _ => F
    rename News _ _ _ _ => N
    have dD : ∀ h' ns, News g L h' ns → (d, o6) ∈ ns → h'.DictOf (intKind prog w) d kvs := fun h' ns N hm => Heap.dictOf_iff.mpr ⟨o6, (N _ hm).1, hI6⟩
    refine wpAny_If ?_
    ktr_rel
    refine wpAny_notIn_of (intKind_is _ _ _ _) lo (dD _ _ N (.tail _ (.tail _ (.head _)))).mapOf ?_
    ktr_rel
    rw [ek] at F ⊢
    cases hv2 : valueAt kvs ((2 * q.k + q.r : Nat) : Int) with
    | some v2 =>
      obtain ⟨x, tx, hx, rfl⟩ := hF6.some hv2
      rw [if_neg (by simp)]
      ktr_rel
      rename News _ _ _ _ => N
      refine tail_any (T := "dict") (Heap.DictOf.typeIs (by exact dD _ _ N (.tail _ (.tail _ (.head _))))) slot_dict_getitem.lookup ?_ (by with_unfolding_all rfl)
      refine wpAny_getItem_of (intKind_is _ _ _ _) (dD _ _ N (.tail _ (.tail _ (.head _)))).mapOf hv2 ?_
      ktr_rel
      rename Fr _ _ _ _ => F
      rename News _ _ _ _ => N
      rw [List.push_toArray] at N
      refine ⟨_, _, _, _, rfl, F, N, by intro p hp; simp at hp; rcases hp with rfl | rfl <;> assumption, trivial, by ktr_unf, by ktr_unf, by ktr_unf, by ktr_unf, by ktr_unf, _, _, o6, kvs, rfl, hI6, ?_, ?_, by simp [hz1], by omega⟩
      · rw [hstep]; unfold wStep; rw [hq]; simp only [hx]; exact hF6
      · rw [hstep]; unfold wStep; rw [hq]; simp only [hx]; exact strs_snoc hS6 _ _
    | none =>
      have hx := hF6.none hv2
      ktr_rel
      rename Fr _ _ _ _ => F
      rename News _ _ _ _ => N
      refine sub_list (v := .ref q.a) (F.keep _ _ halg) (by first | exact Int.natCast_nonneg _ | decide | omega) (by first | decide | exact n63 (by assumption) | omega) (by simp [hq]) ?_
      ktr_rel
      refine itself_ok (h₀ := g) X' T' F.keep (q := q) ⟨t1, t2, t3, t4, t5, nq, F.keep _ _ hqq⟩ ok (F.keep _ _ hmdg) (F.keep _ _ hfdg) hms hfs hmo hfl hff (by exact hhd) (by show A.depth + 1 + 20 < _; exact dl hroom) (by show A.units + 3 + 120 < _; exact dl hunit) fun h8 tk8 u8 k8 => ?_
      have F8 := frKeep F k8
      have N8 := newsKeep N k8
      clear F N
      ktr_rel
      refine wpAny_setItem_pairs (hsz := by rw [sizeLine_eq]; omega) (intKind_is _ _ _ _) (dD _ _ N8 (.tail _ (.tail _ (.head _)))) fun h9 hd9 hs9 => ?_
      rw [stored_newI hv2] at hd9
      obtain ⟨o9, ho9, hI9⟩ := Heap.dictOf_iff.mp hd9
      have F9 := frWr (wr := [d]) F8 (fun b o hb e => (hs9.2 b (by simpa using hb)).trans e) (by simpa using Ne.symm (N8 _ (.tail _ (.tail _ (.head _)))).2.1) (by simpa using (N8 _ (.tail _ (.tail _ (.head _)))).2.2)
      have N9 : News g L h9 [(it, oi), (l, W.listOf tv.toArray nn), (d, o9)] := newsUpd N8 (D := d) (o := o6) (o' := o9) (by k_upd) hs9 ho9
      have dD9 : ∀ h' ns, News g L h' ns → (d, o9) ∈ ns → h'.DictOf (intKind prog w) d (kvs ++ [(((2 * q.k + q.r : Nat) : Int), Value.str (if ans ml fl q.f (nameS q.k q.r) = 1 then "1" else "0") u8)]) := fun h' ns N hm => Heap.dictOf_iff.mpr ⟨o9, (N _ hm).1, hI9⟩
      clear F8 N8
      ktr_rel
      rename News _ _ _ _ => N
      refine tail_any (T := "dict") (Heap.DictOf.typeIs (by exact dD9 _ _ N (.tail _ (.tail _ (.head _))))) slot_dict_getitem.lookup ?_ (by with_unfolding_all rfl)
      refine wpAny_getItem_of (intKind_is _ _ _ _) (dD9 _ _ N (.tail _ (.tail _ (.head _)))).mapOf (valueAt_snocI hv2) ?_
      ktr_rel
      rename Fr _ _ _ _ => F
      rename News _ _ _ _ => N
      rw [List.push_toArray] at N
      refine ⟨_, _, _, _, rfl, F, N, by intro p hp; simp at hp; rcases hp with rfl | rfl <;> assumption, trivial, by ktr_unf, by ktr_unf, by ktr_unf, by ktr_unf, by ktr_unf, _, _, o9, _, rfl, hI9, ?_, ?_, by simp [hz1], by simp; omega⟩
      · rw [hstep]; unfold wStep; rw [hq]; simp only [hx]; exact hF6.snoc _ _ _
      · rw [hstep]; unfold wStep; rw [hq]; simp only [hx]; exact strs_snoc hS6 _ _
end
section
set_option maxHeartbeats 1000000

/-- a tree of questions, answered by a fixed order; every question is about places below n -/
def kwp {α : Type} (lt : Nat → Nat → Bool) (n : Nat) : KasT α → (α → Prop) → Prop
  | .ret a, Q => Q a
  | .ask i j k, Q => i < n ∧ j < n ∧ i ≠ j ∧ kwp lt n (k (lt i j)) Q
theorem kwp_bind {α β : Type} {lt : Nat → Nat → Bool} {n : Nat} {f : α → KasT β} {Q : β → Prop} : ∀ (t : KasT α), kwp lt n t (fun a => kwp lt n (f a) Q) → kwp lt n (t.bind f) Q
  | .ret _, h => h
  | .ask i j k, h => ⟨h.1, h.2.1, h.2.2.1, kwp_bind (k (lt i j)) h.2.2.2⟩
theorem kwp_mono {α : Type} {lt : Nat → Nat → Bool} {n : Nat} {Q Q' : α → Prop} (hq : ∀ a, Q a → Q' a) : ∀ (t : KasT α), kwp lt n t Q → kwp lt n t Q'
  | .ret _, h => hq _ h
  | .ask i j k, h => ⟨h.1, h.2.1, h.2.2.1, kwp_mono hq (k (lt i j)) h.2.2.2⟩
theorem kwp_wp {α : Type} {lt : Nat → Nat → Bool} {n : Nat} {cmp : Nat → Nat → (Bool → Shared → Prop) → Shared → Prop} {R : Shared → Prop}
    (hc : ∀ i j C s, i < n → j < n → i ≠ j → R s → (∀ s', R s' → C (lt i j) s') → cmp i j C s) {Q : α → Shared → Prop} : ∀ (t : KasT α) (s : Shared), R s → kwp lt n t (fun a => ∀ s', R s' → Q a s') → t.kasWp cmp Q s
  | .ret _, s, r, h => h s r
  | .ask i j k, s, r, h => hc i j _ s h.1 h.2.1 h.2.2.1 r fun s' r' => kwp_wp hc (k (lt i j)) s' r' h.2.2.2
section
variable {n : Nat} {key : Nat → Nat}
noncomputable def klt (key : Nat → Nat) (i j : Nat) : Bool := decide (key i < key j)
structure Good (n : Nat) (p : Array Nat) : Prop where
  perm : p.toList.Perm (List.range n)
theorem Good.size {p : Array Nat} (g : Good n p) : p.size = n := by simpa using g.perm.length_eq
theorem Good.lt {p : Array Nat} (g : Good n p) {i : Nat} (hi : i < n) : p.getD i 0 < n := by
  have hi' : i < p.size := by rw [g.size]; exact hi
  have : p[i] ∈ p.toList := by simp
  have := g.perm.mem_iff.mp this
  simpa [Array.getD, hi'] using this
theorem Good.inj {p : Array Nat} (g : Good n p) {i j : Nat} (hi : i < n) (hj : j < n) (e : p.getD i 0 = p.getD j 0) : i = j := by
  have hi' : i < p.size := by rw [g.size]; exact hi
  have hj' : j < p.size := by rw [g.size]; exact hj
  have nd : p.toList.Nodup := g.perm.nodup_iff.mpr List.nodup_range
  simp only [Array.getD, hi', hj', dite_true] at e
  exact (List.getElem_inj (h₀ := by simpa using hi') (h₁ := by simpa using hj') nd).mp (by simpa using e)
theorem Good.of {p q : Array Nat} (g : Good n p) (h : q.Perm p) : Good n q := ⟨(Array.perm_iff_toList_perm.mp h).trans g.perm⟩
def SortT (key : Nat → Nat) (p : Array Nat) (k : Nat) : Prop := ∀ i j, i < j → j < k → key (p.getD i 0) < key (p.getD j 0)
theorem SortT.snoc {p : Array Nat} {k : Nat} (h : SortT key p k) (hk : 1 ≤ k) (hl : key (p.getD (k - 1) 0) < key (p.getD k 0)) : SortT key p (k + 1) := by
  intro i j hij hj
  by_cases hjk : j = k
  · subst hjk
    by_cases hi : i = j - 1
    · subst hi; exact hl
    · exact Nat.lt_trans (h i (j - 1) (by omega) (by omega)) hl
  · exact h i j hij (by omega)
theorem asc_ok {p : Array Nat} (g : Good n p) (inj : ∀ i j, i < n → j < n → key i = key j → i = j) : ∀ f m, 1 ≤ m → m + f ≤ n → SortT key p m → kwp (klt key) n (kas_asc p f m) (fun r => m ≤ r ∧ r ≤ m + f ∧ SortT key p r ∧ (r < m + f → key (p.getD r 0) < key (p.getD (r - 1) 0)))
  | 0, m, h1, hn, hs => ⟨Nat.le_refl _, Nat.le_refl _, hs, fun h => absurd h (Nat.lt_irrefl _)⟩
  | f + 1, m, h1, hn, hs => by
    refine ⟨g.lt (by omega), g.lt (by omega), (fun e => by have := g.inj (by omega) (by omega) e; omega), ?_⟩
    by_cases c : key (p.getD m 0) < key (p.getD (m - 1) 0)
    · simp only [klt, decide_eq_true c, if_true]
      exact ⟨Nat.le_refl _, by omega, hs, fun _ => c⟩
    · simp only [klt, decide_eq_false c, Bool.false_eq_true, if_false]
      have hl : key (p.getD (m - 1) 0) < key (p.getD m 0) := by
        rcases Nat.lt_or_ge (key (p.getD (m - 1) 0)) (key (p.getD m 0)) with q | q
        · exact q
        · have := inj _ _ (g.lt (by omega)) (g.lt (by omega)) (Nat.le_antisymm q (Nat.le_of_not_lt c))
          have := g.inj (by omega) (by omega) this
          omega
      exact kwp_mono (fun r h => ⟨by omega, by omega, h.2.2.1, fun q => h.2.2.2 (by omega)⟩) _ (asc_ok g inj f (m + 1) (by omega) (by omega) (hs.snoc h1 hl))
theorem getD_of {p : Array Nat} (i : Nat) : p.getD i 0 = (p[i]?).getD 0 := by simp [Array.getD_eq_getD_getElem?]
theorem rev_getD {p : Array Nat} {m : Nat} (hm : m ≤ p.size) (i : Nat) : (kas_rev p 0 m).getD i 0 = if i < m then p.getD (m - 1 - i) 0 else p.getD i 0 := by
  unfold kas_rev
  rw [getD_of, getElem?_mirror_all hm]
  by_cases h : i < m
  · rw [if_pos ⟨Nat.zero_le _, h⟩, if_pos h, getD_of]
    simp
  · rw [if_neg (fun q => h q.2), if_neg h, getD_of]
theorem rev_good {p : Array Nat} (g : Good n p) (m : Nat) : Good n (kas_rev p 0 m) := g.of (mirror_perm _ _ _ _)
def DescT (key : Nat → Nat) (p : Array Nat) (k : Nat) : Prop := ∀ i j, i < j → j < k → key (p.getD j 0) < key (p.getD i 0)
theorem DescT.snoc {p : Array Nat} {k : Nat} (h : DescT key p k) (hk : 1 ≤ k) (hl : key (p.getD k 0) < key (p.getD (k - 1) 0)) : DescT key p (k + 1) := by
  intro i j hij hj
  by_cases hjk : j = k
  · subst hjk
    by_cases hi : i = j - 1
    · subst hi; exact hl
    · exact Nat.lt_trans hl (h i (j - 1) (by omega) (by omega))
  · exact h i j hij (by omega)
theorem DescT.rev {p : Array Nat} {m : Nat} (h : DescT key p m) (hm : m ≤ p.size) : SortT key (kas_rev p 0 m) m := by
  intro i j hij hj
  rw [rev_getD hm, rev_getD hm, if_pos (by omega), if_pos hj]
  exact h _ _ (by omega) (by omega)
theorem desc_ok {p : Array Nat} (g : Good n p) (inj : ∀ i j, i < n → j < n → key i = key j → i = j) : ∀ f m, 1 ≤ m → m + f ≤ n → DescT key p m → kwp (klt key) n (kas_desc f p m 0) (fun r => r.1 = p ∧ r.2.2 = 0 ∧ m ≤ r.2.1 ∧ r.2.1 ≤ m + f ∧ DescT key p r.2.1)
  | 0, m, h1, hn, hs => ⟨rfl, rfl, Nat.le_refl _, Nat.le_refl _, hs⟩
  | f + 1, m, h1, hn, hs => by
    refine ⟨g.lt (by omega), g.lt (by omega), (fun e => by have := g.inj (by omega) (by omega) e; omega), ?_⟩
    by_cases c : key (p.getD m 0) < key (p.getD (m - 1) 0)
    · simp only [klt, decide_eq_true c, if_true]
      rw [if_neg (by omega)]
      exact kwp_mono (fun r h => ⟨h.1, h.2.1, by omega, by omega, h.2.2.2.2⟩) _ (desc_ok g inj f (m + 1) (by omega) (by omega) (hs.snoc h1 c))
    · simp only [klt, decide_eq_false c, Bool.false_eq_true, if_false]
      have hl : key (p.getD (m - 1) 0) < key (p.getD m 0) := by
        rcases Nat.lt_or_ge (key (p.getD (m - 1) 0)) (key (p.getD m 0)) with q | q
        · exact q
        · have := inj _ _ (g.lt (by omega)) (g.lt (by omega)) (Nat.le_antisymm q (Nat.le_of_not_lt c))
          have := g.inj (by omega) (by omega) this
          omega
      refine ⟨g.lt (by omega), g.lt (by omega), (fun e => by have := g.inj (by omega) (by omega) e; omega), ?_⟩
      simp only [klt, decide_eq_true hl, if_true]
      exact ⟨rfl, rfl, Nat.le_refl _, Nat.le_add_right _ _, hs⟩
theorem tail3_ok {p : Array Nat} (g : Good n p) (inj : ∀ i j, i < n → j < n → key i = key j → i = j) {m : Nat} (h1 : 1 ≤ m) (hm : m ≤ n) (hs : DescT key p m) : kwp (klt key) n (kas_tail3 m n p) (fun r => 1 ≤ r.1 ∧ r.1 ≤ n ∧ Good n r.2 ∧ SortT key r.2 r.1) := by
  refine kwp_bind _ (kwp_mono (fun r h => ?_) _ (asc_ok (rev_good g m) inj (n - m) m h1 (by omega) (hs.rev (by rw [g.size]; exact hm))))
  exact ⟨by omega, by omega, rev_good g m, h.2.2.1⟩
theorem count_ok {p : Array Nat} (g : Good n p) (inj : ∀ i j, i < n → j < n → key i = key j → i = j) (hn : 1 ≤ n) : kwp (klt key) n (kas_count n p) (fun r => 1 ≤ r.1 ∧ r.1 ≤ n ∧ Good n r.2 ∧ SortT key r.2 r.1) := by
  refine kwp_bind _ (kwp_mono (fun r h => ?_) _ (asc_ok g inj (n - 1) 1 (Nat.le_refl _) (by omega) (by intro i j h1 h2; omega)))
  obtain ⟨h1, h2, h3, h4⟩ := h
  by_cases e : (r == n) = true
  · rw [if_pos e]; exact ⟨h1, by omega, g, h3⟩
  · rw [if_neg e]
    have hr : r < n := by
      have : r ≠ n := by simpa using e
      omega
    by_cases e2 : r > 1
    · rw [if_pos e2]
      refine ⟨g.lt (by omega), g.lt (by omega), (fun e => by have := g.inj (by omega) (by omega) e; omega), ?_⟩
      have c := h3 0 (r - 1) (by omega) (by omega)
      simp only [klt, decide_eq_true c, if_true]
      exact ⟨h1, by omega, g, h3⟩
    · rw [if_neg e2]
      have er : r = 1 := by omega
      subst er
      have c := h4 (by omega)
      have d2 : DescT key p (1 + 1) := DescT.snoc (k := 1) (by intro i j h1 h2; omega) (Nat.le_refl _) c
      refine kwp_bind _ (kwp_mono (fun r h => ?_) _ (desc_ok g inj (n - (1 + 1)) (1 + 1) (by omega) (by omega) d2))
      obtain ⟨r1, r2, r3, r4, r5⟩ := h
      rw [if_neg (by omega), r1]
      exact tail3_ok g inj (by omega) (by omega) r5
theorem place_ok {p : Array Nat} (g : Good n p) (inj : ∀ i j, i < n → j < n → key i = key j → i = j) {k : Nat} (hk : k < n) (hs : SortT key p k) : ∀ f l r, l ≤ r → r ≤ k → r - l ≤ f → (∀ i, i < l → key (p.getD i 0) < key (p.getD k 0)) → (∀ i, r ≤ i → i < k → key (p.getD k 0) < key (p.getD i 0)) →
    kwp (klt key) n (kas_place p k f l r) (fun m => m ≤ k ∧ (∀ i, i < m → key (p.getD i 0) < key (p.getD k 0)) ∧ ∀ i, m ≤ i → i < k → key (p.getD k 0) < key (p.getD i 0))
  | 0, l, r, h1, h2, h3, a, b => ⟨by omega, a, fun i hi hk => b i (by omega) hk⟩
  | f + 1, l, r, h1, h2, h3, a, b => by
    unfold kas_place
    by_cases e : l ≥ r
    · rw [if_pos e]; exact ⟨by omega, a, fun i hi hk => b i (by omega) hk⟩
    · rw [if_neg e]
      refine ⟨g.lt hk, g.lt (by omega), (fun e => by have := g.inj (by omega) (by omega) e; omega), ?_⟩
      by_cases c : key (p.getD k 0) < key (p.getD ((l + r) / 2) 0)
      · simp only [klt, decide_eq_true c, if_true]
        refine place_ok g inj hk hs f l ((l + r) / 2) (by omega) (by omega) (by omega) a fun i hi hik => ?_
        by_cases hi2 : i = (l + r) / 2
        · rw [hi2]; exact c
        · exact Nat.lt_trans c (hs _ _ (by omega) hik)
      · simp only [klt, decide_eq_false c, Bool.false_eq_true, if_false]
        have hl : key (p.getD ((l + r) / 2) 0) < key (p.getD k 0) := by
          rcases Nat.lt_or_ge (key (p.getD ((l + r) / 2) 0)) (key (p.getD k 0)) with q | q
          · exact q
          · have := inj _ _ (g.lt (by omega)) (g.lt (by omega)) (Nat.le_antisymm q (Nat.le_of_not_lt c))
            have := g.inj (by omega) (by omega) this
            omega
        refine place_ok g inj hk hs f ((l + r) / 2 + 1) r (by omega) h2 (by omega) (fun i hi => ?_) b
        by_cases hi2 : i = (l + r) / 2
        · rw [hi2]; exact hl
        · exact Nat.lt_trans (hs i _ (by omega) (by omega)) hl
theorem bub_getD {p : Array Nat} {k l : Nat} (hk : k < p.size) (hl : l ≤ k) (i : Nat) : (bubble p k (k - l)).getD i 0 = if i = l then p.getD k 0 else if l < i ∧ i ≤ k then p.getD (i - 1) 0 else p.getD i 0 := by
  rw [getD_of, getElem?_bubble hk _ (by omega), show k - (k - l) = l by omega]
  by_cases h1 : i = l
  · rw [if_pos h1, if_pos h1, getD_of]
  · rw [if_neg h1, if_neg h1]
    by_cases h2 : l < i ∧ i ≤ k
    · rw [if_pos h2, if_pos h2, getD_of]
    · rw [if_neg h2, if_neg h2, getD_of]
theorem bin_ok (inj : ∀ i j, i < n → j < n → key i = key j → i = j) : ∀ f (p : Array Nat) k, Good n p → k + f = n → SortT key p k → kwp (klt key) n (kas_bin f p k) (fun q => Good n q ∧ SortT key q n)
  | 0, p, k, g, e, hs => ⟨g, by rw [← e]; exact hs⟩
  | f + 1, p, k, g, e, hs => by
    refine kwp_bind _ (kwp_mono (fun l h => ?_) _ (place_ok g inj (k := k) (by omega) hs k 0 k (Nat.zero_le _) (Nat.le_refl _) (by omega) (fun i hi => by omega) fun i hi hk => by omega))
    obtain ⟨h1, h2, h3⟩ := h
    refine bin_ok inj f _ (k + 1) (g.of (bubble_perm _ _ _)) (by omega) ?_
    have hk : k < p.size := by rw [g.size]; omega
    intro i j hij hj
    rw [bub_getD hk h1, bub_getD hk h1]
    by_cases e1 : i = l
    · rw [if_pos e1, if_neg (by omega), if_pos (by omega)]
      exact h3 _ (by omega) (by omega)
    · rw [if_neg e1]
      by_cases e2 : l < i ∧ i ≤ k
      · rw [if_pos e2, if_neg (by omega), if_pos (by omega)]
        exact hs _ _ (by omega) (by omega)
      · rw [if_neg e2]
        by_cases e3 : j = l
        · rw [if_pos e3]; exact h2 i (by omega)
        · rw [if_neg e3]
          by_cases e4 : l < j ∧ j ≤ k
          · rw [if_pos e4]
            by_cases e5 : i = j - 1
            · omega
            · exact hs _ _ (by omega) (by omega)
          · rw [if_neg e4]; exact hs _ _ hij (by omega)
theorem sort_ok (inj : ∀ i j, i < n → j < n → key i = key j → i = j) (hn : 1 ≤ n) : kwp (klt key) n (kas_sort n) (fun q => Good n q ∧ SortT key q n) := by
  refine kwp_bind _ (kwp_mono (fun r h => ?_) _ (count_ok (p := List.toArray (List.range n)) ⟨by simp⟩ inj hn))
  obtain ⟨h1, h2, h3, h4⟩ := h
  by_cases e : r.1 < n
  · rw [if_pos e, show max r.1 1 = r.1 by omega]
    exact bin_ok inj _ _ _ h3 (by omega) h4
  · rw [if_neg e]
    exact ⟨h3, by rw [show n = r.1 by omega]; exact h4⟩
end
end
section
set_option maxHeartbeats 1000000

section
variable {prog : Program} {w : World} {A : Around} {E : Value → Shared → Prop} {s : Shared} {g : Heap} {L l : Addr} {m : Str → Option Value} {news : List (Addr × Obj)}
/-- a list of pairs whose first item is an int: what the sort needs to know of it -/
structure PairsAt (h : Heap) (vs : List Value) (key : Nat → Nat) (ad : Nat → Addr) (f : Nat → Int) (v2 : Nat → Value) : Prop where
  at' : ∀ i, i < vs.length → vs[i]? = some (.ref (ad i)) ∧ ∃ t k, h.get? (ad i) = some ⟨.type "tuple", none, .seq #[.int (f i) t, v2 i] k, #[]⟩
  ne : ∀ i j, i < vs.length → j < vs.length → f i ≠ f j → klt key i j = decide (f i < f j)
  eq : ∀ i j, i < vs.length → j < vs.length → i ≠ j → f i = f j → ∃ a t b u, v2 i = .int a t ∧ v2 j = .int b u ∧ a ≠ b ∧ klt key i j = decide (a < b)
  inj : ∀ i j, i < vs.length → j < vs.length → key i = key j → i = j
theorem PairsAt.keeps {h h' : Heap} {vs : List Value} {key : Nat → Nat} {ad : Nat → Addr} {f : Nat → Int} {v2 : Nat → Value} (x : PairsAt h vs key ad f v2) (k : ∀ b o, IsT o → h.get? b = some o → h'.get? b = some o) : PairsAt h' vs key ad f v2 :=
  ⟨fun i hi => let ⟨a, t, n, e⟩ := x.at' i hi; ⟨a, t, n, k _ _ ⟨_, _, rfl⟩ e⟩, x.ne, x.eq, x.inj⟩
theorem pair_lt {vs : List Value} {key : Nat → Nat} {ad : Nat → Addr} {f : Nat → Int} {v2 : Nat → Value} {C : Bool → Shared → Prop} (P : PairsAt s.heap vs key ad f v2) {i j : Nat} (hi : i < vs.length) (hj : j < vs.length) (hij : i ≠ j) (h : ∀ tk, C (klt key i j) { s with toks := tk }) :
    kas_ask prog w A (tuples' true) vs i j C s := by
  obtain ⟨e1, t, k, o1⟩ := P.at' i hi
  obtain ⟨e2, u, n, o2⟩ := P.at' j hj
  unfold kas_ask
  rw [show vs.getD i Value.none = .ref (ad i) by simp [List.getD, e1], show vs.getD j Value.none = .ref (ad j) by simp [List.getD, e2]]
  refine kat_lt o1 rfl o2 rfl ?_
  refine kat_cons ?_
  refine wpAny_eqBool_int ?_
  by_cases q : f i = f j
  · rw [show (f i == f j) = true by simp [q]]
    refine kat_yes ?_
    obtain ⟨a, ta, b, tb, x1, x2, hab, hk⟩ := P.eq i j hi hj hij q
    rw [x1, x2]
    refine kat_cons ?_
    refine wpAny_eqBool_int ?_
    rw [show (a == b) = false by simpa using hab]
    refine kat_no ?_
    refine kat_one _ _ ?_
    rw [hk] at h
    refine PyProof.Rows.lt_int ?_
    exact h _
  · rw [show (f i == f j) = false by simpa using q]
    refine kat_no ?_
    refine oneLt_int ?_
    rw [← P.ne i j hi hj q]
    exact h _
theorem pairs_tups {h : Heap} : ∀ (vs : List Value) (fs : List Value), vs.length = fs.length → (∀ i, i < vs.length → ∃ a t f v2 k, vs[i]? = some (.ref a) ∧ fs[i]? = some (.int f t) ∧ h.get? a = some ⟨.type "tuple", none, .seq #[.int f t, v2] k, #[]⟩) → KatTups h vs fs
  | [], [], _, _ => trivial
  | [], _ :: _, e, _ => by simp at e
  | _ :: _, [], e, _ => by simp at e
  | v :: vs, f :: fs, e, k => by
    obtain ⟨a, t, f', v2, n, e1, e2, o⟩ := k 0 (by simp)
    simp at e1 e2
    subst e1
    subst e2
    refine .cons o rfl rfl rfl (pairs_tups vs fs (by simpa using e) fun i hi => ?_)
    obtain ⟨a, t, f', v2, n, e1, e2, o⟩ := k (i + 1) (by simpa using hi)
    exact ⟨a, t, f', v2, n, by simpa using e1, by simpa using e2, o⟩
/-- sorted() of a list of pairs -/
theorem sorted_pairs {vs : List Value} {key : Nat → Nat} {ad : Nat → Addr} {f : Nat → Int} {v2 : Nat → Value} {Q : Value → Shared → Prop} (F : Fr g L s.heap m) (N : News g L s.heap news) (hl : s.heap.IsList l vs.toArray) (h2 : 2 ≤ vs.length) (h64 : vs.length < 64)
    (P : PairsAt s.heap vs key ad f v2)
    (h : ∀ D p h' tk c, Good vs.length p → SortT key p vs.length → Fr g L h' m → News g L h' ((D, W.listOf (p.toList.map fun i => Value.ref (ad i)).toArray c) :: news) → (∀ q ∈ news, q.1 < D) → (∀ b o, b ≠ L → s.heap.get? b = some o → h'.get? b = some o) → s.heap.get? D = none → Q (.ref D) { s with heap := h', toks := tk }) :
    wpAny (model prog w) A (call (.builtin "sorted") [.ref l]) Q E s := by
  obtain ⟨ot, No, ho⟩ := rest_ex g s.heap L F.keep
  have N2 : News g L s.heap (news ++ ot) := fun p hp => by
    rcases List.mem_append.mp hp with hp | hp
    · exact N p hp
    · exact No p hp
  refine kat_sorted F N2 hl h2 h64 fun D e1 h' F' N' lt' => ?_
  have kA : ∀ h3 o3, Fr g L h3 m → News g L h3 ((D, o3) :: (news ++ ot)) → ∀ b o, b ≠ L → s.heap.get? b = some o → h3.get? b = some o := fun h3 o3 F3 N3 b o hb e => by
    rcases ho b o hb e with q | q
    · exact F3.keep _ _ q
    · exact (N3 _ (.tail _ (List.mem_append_right _ q))).1
  have P' := P.keeps fun b o t e => kA h' _ F' N' b o (Ns.notT F.ns e t) e
  have hDn : s.heap.get? D = none := by
    cases q : s.heap.get? D with
    | none => rfl
    | some o =>
      rcases ho D o (N' _ (.head _)).2.1 q with z | z
      · rw [(N' _ (.head _)).2.2] at z; cases z
      · exact absurd (lt' _ (List.mem_append_right _ z)) (Nat.lt_irrefl _)
  obtain ⟨fs, hfs, htup, hint⟩ : ∃ fs : List Value, vs.length = fs.length ∧ KatTups h' vs fs ∧ ∀ v ∈ fs, ∃ i t, v = .int i t := by
    have ch : ∀ i, ∃ t, i < vs.length → ∃ k, h'.get? (ad i) = some ⟨.type "tuple", none, .seq #[.int (f i) t, v2 i] k, #[]⟩ := fun i => by
      by_cases hi : i < vs.length
      · obtain ⟨_, t, k, o⟩ := P'.at' i hi; exact ⟨t, fun _ => ⟨k, o⟩⟩
      · exact ⟨default, fun q => absurd q hi⟩
    refine ⟨(List.range vs.length).map fun i => .int (f i) (ch i).choose, by simp, pairs_tups _ _ (by simp) fun i hi => ?_, ?_⟩
    · obtain ⟨k, o⟩ := (ch i).choose_spec hi
      exact ⟨ad i, _, _, _, k, (P'.at' i hi).1, by simp [hi], o⟩
    · intro v hv
      obtain ⟨i, _, rfl⟩ := List.mem_map.mp hv
      exact ⟨_, _, rfl⟩
  refine kat_kind (T := .type "int") htup (by omega) (fun v hv => by obtain ⟨i, t, rfl⟩ := hint v hv; exact Looks.of_pure rfl) (by decide) ?_
  refine kwp_wp (lt := klt key) (n := vs.length) (R := fun s' => ∃ tk, s' = { s with heap := h', toks := tk }) ?_ _ _ ⟨_, rfl⟩ (kwp_mono ?_ _ (sort_ok P.inj (by omega)))
  · rintro i j C s' hi hj hij ⟨tk, rfl⟩ hC
    exact pair_lt (s := { s with heap := h', toks := tk }) P' hi hj hij fun tk' => hC _ ⟨tk', rfl⟩
  · rintro p ⟨gp, sp⟩ s' ⟨tk, rfl⟩
    have e : (p.toList.map fun i => vs.getD i Value.none) = p.toList.map fun i => Value.ref (ad i) := by
      refine List.map_congr_left fun i hi => ?_
      have hi' : i < vs.length := by simpa using gp.perm.mem_iff.mp hi
      simp [List.getD, (P.at' i hi').1]
    rw [e]
    refine KasFin.intro F' N' (.head ?_) fun h3 c F3 N3 => h D p h3 tk c gp sp F3 (fun q hq => by cases hq with | head => exact N3 _ (.head _) | tail _ hq => exact N3 _ (.tail _ (List.mem_append_left _ hq))) (fun q hq => lt' q (List.mem_append_left _ hq)) (kA h3 _ F3 N3) hDn
    intro q hq e
    exact absurd (lt' q hq) (by rw [e]; exact Nat.lt_irrefl _)
end
end
section
set_option maxHeartbeats 1000000
def It.le (x y : It) : Prop := x.r < y.r ∨ (x.r = y.r ∧ x.i ≤ y.i)
theorem It.lt_iff (x y : It) : x.lt y = true ↔ x.r < y.r ∨ (x.r = y.r ∧ x.i < y.i) := by
  unfold It.lt; split <;> rename_i h <;> simp [h]
theorem It.le_of_lt {x y : It} (h : x.lt y = true) : x.le y := by
  rw [It.lt_iff] at h; unfold It.le; omega
theorem It.le_of_not {x y : It} (h : ¬ x.lt y = true) : y.le x := by
  rw [It.lt_iff] at h; unfold It.le; omega
theorem It.le_trans {x y z : It} (h : x.le y) (k : y.le z) : x.le z := by
  unfold It.le at *; omega
theorem It.le_refl (x : It) : x.le x := by unfold It.le; omega
theorem perm_set {α : Type} {l : List α} {p : Nat} (a : α) (h : p < l.length) : (l.set p a).Perm (a :: l.eraseIdx p) := by
  rw [List.set_eq_take_append_cons_drop, if_pos h, List.eraseIdx_eq_take_drop_succ]
  exact List.perm_middle
theorem perm_self {α : Type} {l : List α} {p : Nat} {a : α} (h : l[p]? = some a) : l.Perm (a :: l.eraseIdx p) := by
  obtain ⟨hp, rfl⟩ := List.getElem?_eq_some_iff.mp h
  have := perm_set (l := l) l[p] hp
  rwa [List.set_getElem_self] at this
theorem perm_move {α : Type} {l : List α} {p q : Nat} {x y : α} (hp : p < l.length) (hq : l[q]? = some y) (hpq : q ≠ p) : ((l.set p y).set q x).Perm (l.set p x) := by
  obtain ⟨hql, _⟩ := List.getElem?_eq_some_iff.mp hq
  have h1 : (l.set p y)[q]? = some y := by rw [List.getElem?_set_ne (Ne.symm hpq)]; exact hq
  have h2 := perm_self h1
  have h3 := perm_set (l := l) y hp
  have h4 : ((l.set p y).eraseIdx q).Perm (l.eraseIdx p) := (h2.symm.trans h3).cons_inv
  exact (perm_set x (by simpa using hql)).trans ((h4.cons x).trans (perm_set x hp).symm)
/-- the heap's order -/
def HO (ys : List It) : Prop := ∀ i a b, 0 < i → ys[(i - 1) / 2]? = some a → ys[i]? = some b → a.le b
/-- ... but for a hole -/
structure Hole (ys : List It) (p : Nat) : Prop where
  edge : ∀ i a b, 0 < i → i ≠ p → (i - 1) / 2 ≠ p → ys[(i - 1) / 2]? = some a → ys[i]? = some b → a.le b
  over : ∀ i a b, 0 < p → 0 < i → (i - 1) / 2 = p → ys[(p - 1) / 2]? = some a → ys[i]? = some b → a.le b
theorem getSet {α : Type} {l : List α} {p i : Nat} {y a : α} (h : (l.set p y)[i]? = some a) : (i = p ∧ a = y) ∨ (i ≠ p ∧ l[i]? = some a) := by
  by_cases e : i = p
  · subst e
    rw [List.getElem?_set_self' ] at h
    cases q : l[i]? with
    | none => rw [q] at h; cases h
    | some b => rw [q] at h; simp at h; exact .inl ⟨rfl, h.symm⟩
  · rw [List.getElem?_set_ne (Ne.symm e)] at h; exact .inr ⟨e, h⟩
theorem sd_ok (x : It) : ∀ (p : Nat) (ys : List It), p < ys.length → Hole ys p → (∀ i b, 0 < i → (i - 1) / 2 = p → ys[i]? = some b → x.le b) → HO (sd ys p x) ∧ (sd ys p x).Perm (ys.set p x) := by
  intro p
  induction p using Nat.strongRecOn with
  | ind p ih =>
    intro ys hp H hx
    have fin : (∀ a, 0 < p → ys[(p - 1) / 2]? = some a → a.le x) → HO (ys.set p x) := by
      intro hpar i a b hi ha hb
      rcases getSet ha with ⟨e1, rfl⟩ | ⟨e1, ha'⟩ <;> rcases getSet hb with ⟨e2, rfl⟩ | ⟨e2, hb'⟩
      · exact It.le_refl _
      · exact hx i b hi e1 hb'
      · subst e2; exact hpar a hi ha'
      · exact H.edge i a b hi e2 e1 ha' hb'
    rw [sd]
    by_cases h0 : 0 < p
    · rw [dif_pos h0]
      obtain ⟨y, hy⟩ : ∃ y, ys[(p - 1) / 2]? = some y := ⟨ys[(p - 1) / 2]'(by omega), by simp⟩
      rw [hy]
      by_cases hc : x.lt y = true
      · simp only [hc, if_true]
        refine (fun rr => ⟨rr.1, rr.2.trans (perm_move hp hy (by omega))⟩) (ih ((p - 1) / 2) (by omega) (ys.set p y) (by simp; omega) ?_ ?_)
        · constructor
          · intro i a b hi h1 h2 ha hb
            rcases getSet ha with ⟨e1, rfl⟩ | ⟨e1, ha'⟩ <;> rcases getSet hb with ⟨e2, rfl⟩ | ⟨e2, hb'⟩
            · exact It.le_refl _
            · exact H.over i _ b h0 hi e1 hy hb'
            · subst e2; exact absurd rfl h2
            · exact H.edge i a b hi e2 e1 ha' hb'
          · intro i a b hp2 hi e ha hb
            have ha' : ys[((p - 1) / 2 - 1) / 2]? = some a := by
              rcases getSet ha with ⟨e1, _⟩ | ⟨e1, ha'⟩
              · omega
              · exact ha'
            have hay : a.le y := H.edge ((p - 1) / 2) a y hp2 (by omega) (by omega) ha' hy
            rcases getSet hb with ⟨e2, rfl⟩ | ⟨e2, hb'⟩
            · exact hay
            · exact It.le_trans hay (H.edge i y b hi e2 (by omega) (by rw [e]; exact hy) hb')
        · intro i b hi e hb
          rcases getSet hb with ⟨e2, rfl⟩ | ⟨e2, hb'⟩
          · exact It.le_of_lt hc
          · exact It.le_trans (It.le_of_lt hc) (H.edge i y b hi e2 (by omega) (by rw [e]; exact hy) hb')
      · simp only [hc, if_false]
        refine ⟨fin fun a _ ha => ?_, .refl _⟩
        rw [hy] at ha; cases ha
        exact It.le_of_not hc
    · rw [dif_neg h0]
      exact ⟨fin fun a h => absurd h h0, .refl _⟩
theorem su_ok (x : It) : ∀ (n p : Nat) (ys : List It), ys.length - p = n → p < ys.length → Hole ys p → HO (su ys p x) ∧ (su ys p x).Perm (ys.set p x) := by
  intro n
  induction n using Nat.strongRecOn with
  | ind n ih =>
    intro p ys hn hp H
    rw [su]
    by_cases h1 : 2 * p + 1 < ys.length
    · rw [dif_pos h1]
      have hk : kid ys p < ys.length ∧ (kid ys p - 1) / 2 = p ∧ 0 < kid ys p ∧ ∀ i c b, 0 < i → (i - 1) / 2 = p → ys[kid ys p]? = some c → ys[i]? = some b → c.le b := by
        have kn : ∀ a, ys[2 * p + 1]? = some a → ys[2 * p + 2]? = none → kid ys p = 2 * p + 1 := fun a q1 q2 => by unfold kid; rw [q1, q2]
        have ks : ∀ a b, ys[2 * p + 1]? = some a → ys[2 * p + 2]? = some b → kid ys p = if a.lt b = true then 2 * p + 1 else 2 * p + 2 := fun a b q1 q2 => by unfold kid; rw [q1, q2]
        obtain ⟨a, ha⟩ : ∃ a, ys[2 * p + 1]? = some a := ⟨ys[2 * p + 1], by simp⟩
        cases hb : ys[2 * p + 2]? with
        | none =>
          rw [kn a ha hb]
          refine ⟨h1, by omega, by omega, fun i c b hi e hc hb' => ?_⟩
          rcases (by omega : i = 2 * p + 1 ∨ i = 2 * p + 2) with rfl | rfl
          · rw [hc] at hb'; cases hb'; exact It.le_refl _
          · rw [hb] at hb'; cases hb'
        | some b =>
          have hb2 : 2 * p + 2 < ys.length := (List.getElem?_eq_some_iff.mp hb).1
          rw [ks a b ha hb]
          by_cases q : a.lt b = true
          · rw [if_pos q]
            refine ⟨h1, by omega, by omega, fun i c b' hi e hc hb' => ?_⟩
            rw [ha] at hc; cases hc
            rcases (by omega : i = 2 * p + 1 ∨ i = 2 * p + 2) with rfl | rfl
            · rw [ha] at hb'; cases hb'; exact It.le_refl _
            · rw [hb] at hb'; cases hb'; exact It.le_of_lt q
          · rw [if_neg q]
            refine ⟨hb2, by omega, by omega, fun i c b' hi e hc hb' => ?_⟩
            rw [hb] at hc; cases hc
            rcases (by omega : i = 2 * p + 1 ∨ i = 2 * p + 2) with rfl | rfl
            · rw [ha] at hb'; cases hb'; exact It.le_of_not q
            · rw [hb] at hb'; cases hb'; exact It.le_refl _
      obtain ⟨k1, k2, k3, k4⟩ := hk
      have k5 := kid_gt ys p
      generalize hK : kid ys p = K at *
      obtain ⟨c, hc⟩ : ∃ c, ys[K]? = some c := ⟨ys[K], by simp⟩
      rw [hc]
      dsimp only
      refine (fun rr => ⟨rr.1, rr.2.trans (perm_move hp hc (by omega))⟩) (ih ((ys.set p c).length - K) (by simp; omega) K (ys.set p c) rfl (by simpa using k1) ?_)
      · constructor
        · intro i a b hi h1 h2 ha hb
          rcases getSet ha with ⟨e1, rfl⟩ | ⟨e1, ha'⟩ <;> rcases getSet hb with ⟨e2, rfl⟩ | ⟨e2, hb'⟩
          · exact It.le_refl _
          · exact k4 i _ b hi e1 hc hb'
          · subst e2; exact H.over K a _ hi k3 k2 ha' hc
          · exact H.edge i a b hi e2 e1 ha' hb'
        · intro i a b h0 hi e ha hb
          rw [k2] at ha
          rcases getSet ha with ⟨e1, rfl⟩ | ⟨e1, ha'⟩
          · rcases getSet hb with ⟨e2, rfl⟩ | ⟨e2, hb'⟩
            · omega
            · exact H.edge i _ b hi e2 (by omega) (by rw [e]; exact hc) hb'
          · exact absurd rfl e1
    · rw [dif_neg h1]
      have hs : Hole (ys.set p x) p := by
        constructor
        · intro i a b hi e1 e2 ha hb
          rcases getSet ha with ⟨e, _⟩ | ⟨_, ha'⟩
          · exact absurd e e2
          · rcases getSet hb with ⟨e, _⟩ | ⟨_, hb'⟩
            · exact absurd e e1
            · exact H.edge i a b hi e1 e2 ha' hb'
        · intro i a b h0 hi e ha hb
          have := (List.getElem?_eq_some_iff.mp hb).1
          simp at this; omega
      refine (fun rr => ⟨rr.1, by simpa using rr.2⟩) (sd_ok x p (ys.set p x) (by simpa using hp) hs ?_)
      · intro i b hi e hb
        have := (List.getElem?_eq_some_iff.mp hb).1
        simp at this; omega
theorem HO.root {ys : List It} (H : HO ys) {m : It} (hm : ys[0]? = some m) : ∀ (i : Nat) (b : It), ys[i]? = some b → m.le b := by
  intro i
  induction i using Nat.strongRecOn with
  | ind i ih =>
    intro b hb
    by_cases h0 : 0 < i
    · have hl := (List.getElem?_eq_some_iff.mp hb).1
      obtain ⟨a, ha⟩ : ∃ a, ys[(i - 1) / 2]? = some a := ⟨ys[(i - 1) / 2]'(by omega), by simp⟩
      exact It.le_trans (ih _ (by omega) a ha) (H i a b h0 ha hb)
    · have : i = 0 := by omega
      subst this
      rw [hm] at hb; cases hb; exact It.le_refl _
theorem HO.rootM {y : It} {r : List It} (H : HO (y :: r)) : ∀ z ∈ y :: r, y.le z := by
  intro z hz
  obtain ⟨i, hi⟩ := List.getElem?_of_mem hz
  exact H.root rfl i z hi
theorem hole_root {x y : It} {r : List It} (H : HO (y :: r)) : Hole (x :: r) 0 := by
  constructor
  · intro i a b hi e1 e2 ha hb
    refine H i a b hi ?_ ?_
    · obtain ⟨k, hk⟩ : ∃ k, (i - 1) / 2 = k + 1 := ⟨(i - 1) / 2 - 1, by omega⟩
      rw [hk] at ha ⊢; simpa using ha
    · obtain ⟨k, rfl⟩ : ∃ k, i = k + 1 := ⟨i - 1, by omega⟩
      simpa using hb
  · intro i a b h0; omega
theorem push_ok {xs : List It} (H : HO xs) (x : It) : HO (sd (xs ++ [x]) xs.length x) ∧ (sd (xs ++ [x]) xs.length x).Perm (xs ++ [x]) := by
  refine (fun rr => ⟨rr.1, by simpa using rr.2⟩) (sd_ok x xs.length (xs ++ [x]) (by simp) ?_ ?_)
  · constructor
    · intro i a b hi e1 e2 ha hb
      have h1 := (List.getElem?_eq_some_iff.mp hb).1
      simp at h1
      rw [List.getElem?_append_left (by omega)] at ha hb
      exact H i a b hi ha hb
    · intro i a b h0 hi e ha hb
      have h1 := (List.getElem?_eq_some_iff.mp hb).1
      simp at h1; omega
  · intro i b hi e hb
    have h1 := (List.getElem?_eq_some_iff.mp hb).1
    simp at h1; omega
theorem pp_ok {xs : List It} (H : HO xs) (x : It) : HO (ppL xs x) ∧ (ppV xs x :: ppL xs x).Perm (x :: xs) ∧ ∀ z ∈ ppL xs x, (ppV xs x).le z := by
  cases xs with
  | nil => exact ⟨H, .refl _, fun z hz => by simp [ppL] at hz⟩
  | cons y r =>
    unfold ppL ppV
    by_cases hc : y.lt x = true
    · simp only [hc, if_true]
      obtain ⟨r1, r2⟩ := su_ok x _ 0 (x :: r) rfl (by simp) (hole_root H)
      have r3 : (su (x :: r) 0 x).Perm (x :: r) := by simpa using r2
      refine ⟨r1, (r3.cons y).trans (.swap _ _ _), fun z hz => ?_⟩
      rcases List.mem_cons.mp (r3.mem_iff.mp hz) with rfl | hz
      · exact It.le_of_lt hc
      · exact H.rootM z (.tail _ hz)
    · simp only [hc, if_false]
      exact ⟨H, .refl _, fun z hz => It.le_trans (It.le_of_not hc) (H.rootM z hz)⟩
noncomputable def popL (xs : List It) (x : It) : List It := match xs with | [] => [] | _ :: r => su (x :: r) 0 x
theorem pop_ok {xs : List It} {x : It} (H : HO (xs ++ [x])) : HO (popL xs x) ∧ ((xs ++ [x]).head (by simp) :: popL xs x).Perm (xs ++ [x]) ∧ ∀ z ∈ popL xs x, ((xs ++ [x]).head (by simp)).le z := by
  cases xs with
  | nil => exact ⟨fun i a b hi ha hb => by simp [popL] at hb, .refl _, fun z hz => by simp [popL] at hz⟩
  | cons y r =>
    have H' : HO (y :: r) := fun i a b hi ha hb => H i a b hi (by rw [List.getElem?_append_left (List.getElem?_eq_some_iff.mp ha).1]; exact ha) (by rw [List.getElem?_append_left (List.getElem?_eq_some_iff.mp hb).1]; exact hb)
    obtain ⟨r1, r2⟩ := su_ok x _ 0 (x :: r) rfl (by simp) (hole_root H')
    have r3 : (su (x :: r) 0 x).Perm (x :: r) := by simpa using r2
    have r4 : (su (x :: r) 0 x).Perm (r ++ [x]) := r3.trans (by simpa using (List.perm_append_comm (l₁ := [x]) (l₂ := r)))
    refine ⟨r1, by simpa [popL] using r4, fun z hz => ?_⟩
    have hz : z ∈ su (x :: r) 0 x := hz
    exact HO.rootM (r := r ++ [x]) H z (.tail _ (r4.mem_iff.mp hz))
end
section
set_option maxHeartbeats 1000000
noncomputable def rt (qs : List Ask) (i : Nat) : Nat := match qs[i]? with | some q => q.rights | none => 0
noncomputable def hr (qs : List Ask) (i : Nat) : Nat := match qs[i]? with | some q => q.h | none => 0
noncomputable def ky (qs : List Ask) (i : Nat) : Nat := rt qs i * 8 + i
theorem rt_of {qs : List Ask} {i : Nat} {q : Ask} (h : qs[i]? = some q) : rt qs i = q.rights := by unfold rt; rw [h]
theorem hr_of {qs : List Ask} {i : Nat} {q : Ask} (h : qs[i]? = some q) : hr qs i = q.h := by unfold hr; rw [h]
theorem hr_lt {qs : List Ask} (ok : ∀ q ∈ qs, q.Ok) (i : Nat) : hr qs i < 6 := by
  unfold hr
  cases h : qs[i]? with
  | none => simp
  | some q => exact (ok q (List.mem_of_getElem? h)).h
theorem ky_inj {qs : List Ask} {i j : Nat} (hi : i < 8) (hj : j < 8) (e : ky qs i = ky qs j) : i = j := by unfold ky at e; omega
structure Placing (qs : List Ask) (ps : List (Nat × Nat)) : Prop where
  perm : (ps.map (·.2)).Perm (List.range 8)
  asc : ps.Pairwise (fun a b => a.1 < b.1)
  ge : ∀ p ∈ ps, hr qs p.2 ≤ p.1
  full : ∀ p ∈ ps, ∀ v, hr qs p.2 ≤ v → v < p.1 → ∃ j, (v, j) ∈ ps ∧ ky qs j < ky qs p.2
theorem asc_ext : ∀ (a b : List (Nat × Nat)), a.Pairwise (fun a b => a.1 < b.1) → b.Pairwise (fun a b => a.1 < b.1) → (∀ p, p ∈ a ↔ p ∈ b) → a = b
  | [], b, _, _, h => by
    cases b with
    | nil => rfl
    | cons y b => exact absurd ((h y).mpr (.head _)) (by simp)
  | x :: a, b, ha, hb, h => by
    cases b with
    | nil => exact absurd ((h x).mp (.head _)) (by simp)
    | cons y b =>
      have ha' := List.pairwise_cons.mp ha
      have hb' := List.pairwise_cons.mp hb
      have e : x = y := by
        rcases List.mem_cons.mp ((h x).mp (.head _)) with e | e
        · exact e
        · rcases List.mem_cons.mp ((h y).mpr (.head _)) with e2 | e2
          · exact e2.symm
          · have := hb'.1 x e; have := ha'.1 y e2; omega
      subst e
      rw [asc_ext a b ha'.2 hb'.2]
      intro p
      constructor
      · intro hp
        rcases List.mem_cons.mp ((h p).mp (.tail _ hp)) with e | e
        · subst e; have := ha'.1 p hp; omega
        · exact e
      · intro hp
        rcases List.mem_cons.mp ((h p).mpr (.tail _ hp)) with e | e
        · subst e; have := hb'.1 p hp; omega
        · exact e
theorem asc_inj : ∀ {a : List (Nat × Nat)}, a.Pairwise (fun a b => a.1 < b.1) → ∀ {u i j}, (u, i) ∈ a → (u, j) ∈ a → i = j
  | [], _, _, _, _, h, _ => by cases h
  | x :: a, ha, u, i, j, h1, h2 => by
    have ha' := List.pairwise_cons.mp ha
    rcases List.mem_cons.mp h1 with e1 | e1 <;> rcases List.mem_cons.mp h2 with e2 | e2
    · rw [← e1] at e2; exact (Prod.mk.inj e2).2.symm
    · have := ha'.1 _ e2; rw [← e1] at this; exact absurd this (Nat.lt_irrefl _)
    · have := ha'.1 _ e1; rw [← e2] at this; exact absurd this (Nat.lt_irrefl _)
    · exact asc_inj ha'.2 e1 e2
theorem Placing.has {qs : List Ask} {ps : List (Nat × Nat)} (P : Placing qs ps) {i : Nat} (hi : i < 8) : ∃ u, (u, i) ∈ ps := by
  obtain ⟨⟨u, j⟩, hp, rfl⟩ := List.mem_map.mp (P.perm.mem_iff.mpr (List.mem_range.mpr hi))
  exact ⟨u, hp⟩
theorem Placing.lt {qs : List Ask} {ps : List (Nat × Nat)} (P : Placing qs ps) {u i : Nat} (h : (u, i) ∈ ps) : i < 8 :=
  List.mem_range.mp (P.perm.mem_iff.mp (List.mem_map.mpr ⟨_, h, rfl⟩))
theorem Placing.nodup {qs : List Ask} {ps : List (Nat × Nat)} (P : Placing qs ps) : (ps.map (·.2)).Nodup := P.perm.nodup_iff.mpr List.nodup_range
theorem nodup_snd : ∀ {a : List (Nat × Nat)}, (a.map (·.2)).Nodup → ∀ {u v i}, (u, i) ∈ a → (v, i) ∈ a → u = v
  | [], _, _, _, _, h, _ => by cases h
  | x :: a, ha, u, v, i, h1, h2 => by
    have ha' := List.nodup_cons.mp ha
    rcases List.mem_cons.mp h1 with e1 | e1 <;> rcases List.mem_cons.mp h2 with e2 | e2
    · rw [← e1] at e2; exact (Prod.mk.inj e2).1.symm
    · exact absurd (List.mem_map.mpr ⟨_, e2, by rw [← e1]⟩) ha'.1
    · exact absurd (List.mem_map.mpr ⟨_, e1, by rw [← e2]⟩) ha'.1
    · exact nodup_snd ha'.2 e1 e2
theorem placing_sub {qs : List Ask} {a b : List (Nat × Nat)} (P : Placing qs a) (R : Placing qs b) : ∀ (k u i : Nat), ky qs i < k → ((u, i) ∈ a ↔ (u, i) ∈ b) := by
  intro k
  induction k with
  | zero => intro u i h; omega
  | succ k ih =>
    have main : ∀ i u v, ky qs i < k + 1 → (u, i) ∈ a → (v, i) ∈ b → u = v := by
      intro i u v hk ha hb
      rcases Nat.lt_trichotomy u v with h | h | h
      · obtain ⟨j, hj, hkj⟩ := R.full _ hb u (P.ge _ ha) h
        have := (ih u j (by simp at hkj; omega)).mpr hj
        have := asc_inj P.asc ha this
        subst this; simp at hkj
      · exact h
      · obtain ⟨j, hj, hkj⟩ := P.full _ ha v (R.ge _ hb) h
        have := (ih v j (by simp at hkj; omega)).mp hj
        have := asc_inj R.asc hb this
        subst this; simp at hkj
    intro u i hk
    constructor
    · intro ha
      obtain ⟨v, hv⟩ := R.has (P.lt ha)
      rw [main i u v hk ha hv]; exact hv
    · intro hb
      obtain ⟨v, hv⟩ := P.has (R.lt hb)
      rw [← main i v u hk hv hb]; exact hv
theorem placing_one {qs : List Ask} {a b : List (Nat × Nat)} (P : Placing qs a) (R : Placing qs b) : a = b :=
  asc_ext a b P.asc R.asc fun ⟨u, i⟩ => placing_sub P R (ky qs i + 1) u i (Nat.lt_succ_self _)
/-- the sweep -/
structure Sw (qs : List Ask) (t : Nat) (pool : List Nat) (done : List (Nat × Nat)) : Prop where
  perm : (pool ++ done.map (·.2)).Perm ((List.range 8).filter (fun i => decide (hr qs i < t)))
  asc : done.Pairwise (fun a b => a.1 < b.1)
  lt : ∀ p ∈ done, hr qs p.2 ≤ p.1 ∧ p.1 < t
  c1 : ∀ p ∈ done, ∀ v, hr qs p.2 ≤ v → v < p.1 → ∃ j, (v, j) ∈ done ∧ ky qs j < ky qs p.2
  c2 : ∀ i ∈ pool, ∀ v, hr qs i ≤ v → v < t → ∃ j, (v, j) ∈ done ∧ ky qs j < ky qs i
  size : 6 ≤ t → pool.length ≤ 13 - t
theorem Sw.zero (qs : List Ask) : Sw qs 0 [] [] := ⟨by simp, .nil, (fun _ h => nomatch h), (fun _ h => nomatch h), (fun _ h => nomatch h), by omega⟩
noncomputable def comeN (qs : List Ask) (t : Nat) : List Nat := (List.range 8).filter (fun i => decide (hr qs i = t))
theorem filter_split (f : Nat → Nat) (t : Nat) : ∀ l : List Nat, (l.filter (fun i => decide (f i < t + 1))).Perm (l.filter (fun i => decide (f i < t)) ++ l.filter (fun i => decide (f i = t)))
  | [] => by simp
  | x :: l => by
    have ih := filter_split f t l
    rcases Nat.lt_trichotomy (f x) t with h | h | h
    · rw [List.filter_cons_of_pos (by simp; omega), List.filter_cons_of_pos (by simp; omega), List.filter_cons_of_neg (by simp; omega)]
      exact ih.cons x
    · rw [List.filter_cons_of_pos (by simp; omega), List.filter_cons_of_neg (by simp; omega), List.filter_cons_of_pos (by simp; omega)]
      exact (ih.cons x).trans List.perm_middle.symm
    · rw [List.filter_cons_of_neg (by simp; omega), List.filter_cons_of_neg (by simp; omega), List.filter_cons_of_neg (by simp; omega)]
      exact ih
theorem Sw.inPool {qs : List Ask} {t : Nat} {pool : List Nat} {done : List (Nat × Nat)} (S : Sw qs t pool done) {i : Nat} (h : i ∈ pool) : i < 8 ∧ hr qs i < t := by
  have := S.perm.mem_iff.mp (List.mem_append_left _ h)
  simpa using this
theorem Sw.some {qs : List Ask} {t m : Nat} {pool pool' : List Nat} {done : List (Nat × Nat)} (hh : ∀ i, hr qs i < 6) (S : Sw qs t pool done) (hp : (m :: pool').Perm (pool ++ comeN qs t)) (hm : ∀ j ∈ pool', ky qs m < ky qs j) : Sw qs (t + 1) pool' (done ++ [(t, m)]) := by
  have mem : ∀ i, i = m ∨ i ∈ pool' → i ∈ pool ∨ (i < 8 ∧ hr qs i = t) := fun i hi => by
    have : i ∈ m :: pool' := by rcases hi with rfl | hi; exact .head _; exact .tail _ hi
    rcases List.mem_append.mp (hp.mem_iff.mp this) with q | q
    · exact .inl q
    · right; simpa [comeN] using q
  constructor
  · refine List.Perm.trans ?_ (filter_split (hr qs) t (List.range 8)).symm
    refine List.Perm.trans ?_ (S.perm.append_right _)
    have e1 : (pool' ++ (done ++ [(t, m)]).map (·.2)).Perm ((m :: pool') ++ done.map (·.2)) := by
      simp only [List.map_append, List.map_cons, List.map_nil]
      rw [← List.append_assoc]
      exact (List.perm_append_comm (l₂ := [m])).trans (by simp)
    refine e1.trans ((hp.append_right _).trans ?_)
    rw [List.append_assoc, List.append_assoc]
    exact List.Perm.append_left _ List.perm_append_comm
  · rw [List.pairwise_append]
    exact ⟨S.asc, List.pairwise_singleton _ _, fun a ha b hb => by rw [List.mem_singleton.mp hb]; exact (S.lt a ha).2⟩
  · intro p hp
    rcases List.mem_append.mp hp with hp | hp
    · have := S.lt p hp; exact ⟨this.1, by omega⟩
    · rw [List.mem_singleton.mp hp]
      refine ⟨?_, Nat.lt_succ_self _⟩
      rcases mem m (.inl rfl) with q | q
      · exact Nat.le_of_lt (S.inPool q).2
      · exact Nat.le_of_eq q.2
  · intro p hp v h1 h2
    rcases List.mem_append.mp hp with hp | hp
    · obtain ⟨j, hj, hk⟩ := S.c1 p hp v h1 h2
      exact ⟨j, List.mem_append_left _ hj, hk⟩
    · rw [List.mem_singleton.mp hp] at h1 h2 ⊢
      dsimp only at h1 h2 ⊢
      rcases mem m (.inl rfl) with q | q
      · obtain ⟨j, hj, hk⟩ := S.c2 m q v h1 h2
        exact ⟨j, List.mem_append_left _ hj, hk⟩
      · omega
  · intro i hi v h1 h2
    by_cases e : v = t
    · subst e
      exact ⟨m, by simp, hm i hi⟩
    · rcases mem i (.inr hi) with q | q
      · obtain ⟨j, hj, hk⟩ := S.c2 i q v h1 (by omega)
        exact ⟨j, List.mem_append_left _ hj, hk⟩
      · omega
  · intro h6
    have l1 := hp.length_eq
    simp only [List.length_cons, List.length_append] at l1
    by_cases e : t = 5
    · subst e
      have l2 := S.perm.length_eq
      have l3 := (filter_split (hr qs) 5 (List.range 8)).length_eq
      have l4 := List.length_filter_le (fun i => decide (hr qs i < 5 + 1)) (List.range 8)
      simp only [List.length_append, List.length_map, List.length_range] at l2 l3 l4
      have : (comeN qs 5).length = ((List.range 8).filter (fun i => decide (hr qs i = 5))).length := rfl
      omega
    · have : comeN qs t = [] := by
        unfold comeN
        rw [List.filter_eq_nil_iff]
        intro i _
        have := hh i
        simp; omega
      rw [this] at l1
      have := S.size (by omega)
      simp at l1
      omega
theorem Sw.none {qs : List Ask} {t : Nat} {done : List (Nat × Nat)} (S : Sw qs t [] done) (hc : comeN qs t = []) : Sw qs (t + 1) [] done := by
  constructor
  · refine S.perm.trans (List.Perm.trans ?_ (filter_split (hr qs) t (List.range 8)).symm)
    have : (List.range 8).filter (fun i => decide (hr qs i = t)) = [] := hc
    rw [this]; simp
  · exact S.asc
  · intro p hp; have := S.lt p hp; exact ⟨this.1, by omega⟩
  · exact S.c1
  · exact fun _ h => nomatch h
  · intro _; simp
theorem Sw.last {qs : List Ask} {pool : List Nat} {done : List (Nat × Nat)} (hh : ∀ i, hr qs i < 6) (S : Sw qs 14 pool done) : pool = [] ∧ Placing qs done := by
  have e : pool = [] := List.eq_nil_of_length_eq_zero (by have := S.size (by omega); omega)
  subst e
  refine ⟨rfl, ⟨?_, S.asc, fun p hp => (S.lt p hp).1, S.c1⟩⟩
  have := S.perm
  rw [List.filter_eq_self.mpr (fun i _ => by have := hh i; simp; omega)] at this
  simpa using this
/-- placing one by one -/
structure Gr (qs : List Ask) (is : List Nat) (tk : List (Nat × Nat)) : Prop where
  idx : tk.map (·.2) = is
  nodup : (tk.map (·.1)).Nodup
  ge : ∀ p ∈ tk, hr qs p.2 ≤ p.1
  full : ∀ p ∈ tk, ∀ v, hr qs p.2 ≤ v → v < p.1 → ∃ j, (v, j) ∈ tk ∧ ky qs j < ky qs p.2
  small : ∀ p ∈ tk, p.1 < 6 + tk.length
theorem Gr.zero (qs : List Ask) : Gr qs [] [] := ⟨rfl, .nil, (fun _ h => nomatch h), (fun _ h => nomatch h), (fun _ h => nomatch h)⟩
theorem Gr.step {qs : List Ask} {is : List Nat} {tk : List (Nat × Nat)} (hh : ∀ i, hr qs i < 6) (G : Gr qs is tk) {i u : Nat} (hk : ∀ j ∈ is, ky qs j < ky qs i) (h1 : hr qs i ≤ u) (h2 : ∀ p ∈ tk, p.1 ≠ u) (h3 : ∀ v, hr qs i ≤ v → v < u → ∃ j, (v, j) ∈ tk) : Gr qs (is ++ [i]) (tk ++ [(u, i)]) := by
  constructor
  · rw [List.map_append, G.idx]; rfl
  · rw [List.map_append, List.nodup_append]
    refine ⟨G.nodup, by simp, ?_⟩
    intro a ha b hb e
    obtain ⟨p, hp, rfl⟩ := List.mem_map.mp ha
    simp at hb
    exact h2 p hp (e.trans hb)
  · intro p hp
    rcases List.mem_append.mp hp with hp | hp
    · exact G.ge p hp
    · rw [List.mem_singleton.mp hp]; exact h1
  · intro p hp v q1 q2
    rcases List.mem_append.mp hp with hp | hp
    · obtain ⟨j, hj, r⟩ := G.full p hp v q1 q2
      exact ⟨j, List.mem_append_left _ hj, r⟩
    · rw [List.mem_singleton.mp hp] at q1 q2 ⊢
      obtain ⟨j, hj⟩ := h3 v q1 q2
      exact ⟨j, List.mem_append_left _ hj, hk j (by rw [← G.idx]; exact List.mem_map.mpr ⟨_, hj, rfl⟩)⟩
  · intro p hp
    rcases List.mem_append.mp hp with hp | hp
    · have := G.small p hp; simp; omega
    · rw [List.mem_singleton.mp hp]
      simp only [List.length_append, List.length_singleton]
      apply Classical.byContradiction
      intro c
      obtain ⟨j, hj⟩ := h3 (6 + tk.length) (by have := hh i; omega) (by omega)
      have := G.small _ hj
      simp at this
theorem Gr.last {qs : List Ask} {is : List Nat} {tk ps : List (Nat × Nat)} (G : Gr qs is tk) (hi : is.Perm (List.range 8)) (hp : ps.Perm tk) (ha : ps.Pairwise (fun a b => a.1 < b.1)) : Placing qs ps := by
  refine ⟨(hp.map _).trans (by rw [G.idx]; exact hi), ha, fun p h => G.ge p (hp.mem_iff.mp h), fun p h v h1 h2 => ?_⟩
  obtain ⟨j, hj, r⟩ := G.full p (hp.mem_iff.mp h) v h1 h2
  exact ⟨j, hp.mem_iff.mpr hj, r⟩
/-- items of the heap and asks -/
def ItOf (qs : List Ask) (x : It) (i : Nat) : Prop := i < 8 ∧ x.i = (i : Int) ∧ x.r = (rt qs i : Int)
theorem ItOf.le {qs : List Ask} {x y : It} {i j : Nat} (hx : ItOf qs x i) (hy : ItOf qs y j) (h : x.le y) : ky qs i ≤ ky qs j := by
  obtain ⟨a, b, c⟩ := hx
  obtain ⟨d, e, f⟩ := hy
  unfold It.le at h
  unfold ky
  omega
noncomputable def itN (x : It) : Nat := x.i.toNat
def ItsOf (qs : List Ask) (xs : List It) : Prop := ∀ x ∈ xs, ItOf qs x (itN x)
/-- one hour, in terms of the heap -/
theorem Sw.heap {qs : List Ask} {t : Nat} {hp hp' come : List It} {m : It} {done : List (Nat × Nat)} (hh : ∀ i, hr qs i < 6) (S : Sw qs t (hp.map itN) done) (hc : come.map itN = comeN qs t) (o1 : ItsOf qs hp) (o2 : ItsOf qs come)
    (h : (m :: hp').Perm (hp ++ come)) (hm : ∀ z ∈ hp', m.le z) : Sw qs (t + 1) (hp'.map itN) (done ++ [(t, itN m)]) ∧ ItsOf qs hp' ∧ ItOf qs m (itN m) := by
  have all : ∀ x ∈ m :: hp', ItOf qs x (itN x) := fun x hx => by
    rcases List.mem_append.mp (h.mem_iff.mp hx) with q | q
    · exact o1 x q
    · exact o2 x q
  refine ⟨S.some hh ?_ ?_, fun x hx => all x (.tail _ hx), all m (.head _)⟩
  · have := h.map itN
    simpa [hc] using this
  · have nd : ((m :: hp').map itN).Nodup := by
      refine (h.map itN).nodup_iff.mpr ?_
      rw [List.map_append, hc]
      have p := (filter_split (hr qs) t (List.range 8)).nodup_iff.mp (List.nodup_range.sublist List.filter_sublist)
      have p2 : ((hp.map itN ++ done.map (·.2)) ++ comeN qs t).Nodup := ((S.perm.append_right _).nodup_iff).mpr p
      rw [List.append_assoc] at p2
      have p3 : (hp.map itN ++ (comeN qs t ++ done.map (·.2))).Nodup := ((List.perm_append_comm.append_left _).nodup_iff).mp p2
      rw [← List.append_assoc] at p3
      exact (List.nodup_append.mp p3).1
    intro j hj
    obtain ⟨z, hz, rfl⟩ := List.mem_map.mp hj
    have le := (all m (.head _)).le (all z (.tail _ hz)) (hm z hz)
    have ne : itN m ≠ itN z := fun e => by
      rw [List.map_cons, List.nodup_cons] at nd
      exact nd.1 (by rw [e]; exact List.mem_map.mpr ⟨z, hz, rfl⟩)
    have := ky_inj (qs := qs) (all m (.head _)).1 (all z (.tail _ hz)).1
    rcases Nat.lt_or_eq_of_le le with q | q
    · exact q
    · exact absurd (this q) ne
end
section
set_option maxHeartbeats 1000000
noncomputable def strN (a : Nat) : Str := if a = 1 then "1" else "0"
noncomputable def askA (ml fl : List Str) (q : Ask) : Nat := ans ml fl q.f (nameS q.k q.r)
noncomputable def rStep (ml fl : List Str) (qs : List Ask) (st : List (Str × Nat) × List Str) (i : Nat) : List (Str × Nat) × List Str :=
  match qs[i]? with
  | none => st
  | some q => (cNext st.1 (nameS q.k q.r) (askA ml fl q), st.2 ++ [strN (cVal st.1 (nameS q.k q.r) (askA ml fl q))])
noncomputable def readS (ml fl : List Str) (qs : List Ask) (rs : List Nat) : List (Str × Nat) × List Str := rs.foldl (rStep ml fl qs) ([("<string>", 1)], [])
theorem readS_snoc (ml fl : List Str) (qs : List Ask) (rs : List Nat) (r : Nat) : readS ml fl qs (rs ++ [r]) = rStep ml fl qs (readS ml fl qs rs) r := by
  unfold readS; rw [List.foldl_append]; rfl
theorem wantS_snoc (ml fl : List Str) (qs : List Ask) (rs : List Nat) (r : Nat) : wantS ml fl qs (rs ++ [r]) = wStep ml fl qs (wantS ml fl qs rs) r := by
  unfold wantS; rw [List.foldl_append]; rfl
theorem name_injF : ∀ k r k' r' : Fin 2, (nameS k r == nameS k' r') = (2 * (k : Nat) + r == 2 * (k' : Nat) + r') := by decide
theorem name_neF : ∀ k r : Fin 2, (nameS k r == ("<string>" : Str)) = false := by decide
theorem name_inj (k r k' r' : Nat) (a : k < 2) (b : r < 2) (c : k' < 2) (d : r' < 2) : (nameS k r == nameS k' r') = (2 * k + r == 2 * k' + r') := name_injF ⟨k, a⟩ ⟨r, b⟩ ⟨k', c⟩ ⟨r', d⟩
theorem name_ne (k r : Nat) (a : k < 2) (b : r < 2) : (nameS k r == ("<string>" : Str)) = false := name_neF ⟨k, a⟩ ⟨r, b⟩
theorem snoc_ind {α : Type} {P : List α → Prop} (h0 : P []) (h1 : ∀ l a, P l → P (l ++ [a])) (l : List α) : P l := by
  have : ∀ r : List α, P r.reverse := by
    intro r
    induction r with
    | nil => exact h0
    | cons a r ih => rw [List.reverse_cons]; exact h1 _ _ ih
  have := this l.reverse
  rwa [List.reverse_reverse] at this
theorem lookup_snoc {α β : Type} [BEq α] [LawfulBEq α] : ∀ (l : List (α × β)) (a b : α) (v : β), (l ++ [(a, v)]).lookup b = (l.lookup b).or (if b == a then some v else none)
  | [], a, b, v => by simp only [List.nil_append, List.lookup_nil, Option.none_or, List.lookup]; split <;> simp_all
  | (x, y) :: l, a, b, v => by
    simp only [List.cons_append, List.lookup]
    split
    · rfl
    · exact lookup_snoc l a b v
theorem strN_itS (ml fl : List Str) (q : Ask) : strN (askA ml fl q) = itS ml fl q := rfl
/-- the cache and the first of each sort go together -/
def Tog (c : List (Str × Nat)) (d : List (Nat × Str)) : Prop := ∀ k r : Nat, k < 2 → r < 2 → (c.lookup (nameS k r)).map strN = d.lookup (2 * k + r)
theorem tog_all {ml fl : List Str} {qs : List Ask} (ok : ∀ q ∈ qs, q.Ok) (rs : List Nat) : (readS ml fl qs rs).2 = (wantS ml fl qs rs).2 ∧ Tog (readS ml fl qs rs).1 (wantS ml fl qs rs).1 := by
  refine snoc_ind (P := fun rs => (readS ml fl qs rs).2 = (wantS ml fl qs rs).2 ∧ Tog (readS ml fl qs rs).1 (wantS ml fl qs rs).1) ?_ ?_ rs
  · refine ⟨rfl, fun k r hk hr => ?_⟩
    show (List.lookup (nameS k r) [("<string>", 1)]).map strN = none
    simp only [List.lookup, name_ne k r hk hr]; rfl
  · intro rs i ih
    rw [readS_snoc, wantS_snoc]
    generalize readS ml fl qs rs = R at *
    generalize wantS ml fl qs rs = Wn at *
    obtain ⟨c, o⟩ := R
    obtain ⟨d, o'⟩ := Wn
    obtain ⟨rfl, T⟩ := ih
    dsimp only at T
    unfold rStep wStep
    cases hq : qs[i]? with
    | none => exact ⟨rfl, T⟩
    | some q =>
      have okq := ok q (List.mem_of_getElem? hq)
      have t0 := T q.k q.r okq.k okq.r
      dsimp only
      cases e : c.lookup (nameS q.k q.r) with
      | some a =>
        rw [e] at t0
        rw [← t0]
        simp only [Option.map_some]
        refine ⟨by simp [cVal, e], ?_⟩
        simp only [cNext, e, Option.isSome_some, if_true]
        exact T
      | none =>
        rw [e] at t0
        rw [← t0]
        simp only [Option.map_none]
        refine ⟨by simp [cVal, e, strN_itS], ?_⟩
        simp only [cNext, e, Option.isSome_none, Bool.false_eq_true, if_false]
        intro k r hk hr
        rw [lookup_snoc, lookup_snoc, ← T k r hk hr, name_inj k r q.k q.r hk hr okq.k okq.r]
        cases c.lookup (nameS k r) with
        | some a => rfl
        | none =>
          simp only [Option.none_or]
          split
          · simp [strN_itS]
          · rfl
theorem read_keep {ml fl : List Str} {qs : List Ask} (ok : ∀ q ∈ qs, q.Ok) (rs : List Nat) (hrs : ∀ i ∈ rs, i < qs.length) : 
    (∀ i ∈ rs, ∀ q, qs[i]? = some q → ((readS ml fl qs rs).1.lookup (nameS q.k q.r)).isSome) ∧ (readS ml fl qs rs).2 = rs.map (fun i => match qs[i]? with | some q => strN (cVal (readS ml fl qs rs).1 (nameS q.k q.r) 1) | none => "") := by
  revert hrs
  refine snoc_ind (P := fun rs => (∀ i ∈ rs, i < qs.length) → (∀ i ∈ rs, ∀ q, qs[i]? = some q → ((readS ml fl qs rs).1.lookup (nameS q.k q.r)).isSome) ∧ (readS ml fl qs rs).2 = rs.map (fun i => match qs[i]? with | some q => strN (cVal (readS ml fl qs rs).1 (nameS q.k q.r) 1) | none => "")) ?_ ?_ rs
  · exact fun _ => ⟨fun _ h => by simp at h, rfl⟩
  · intro rs i ih hrs
    obtain ⟨h1, h2⟩ := ih fun j hj => hrs j (List.mem_append_left _ hj)
    have hi := hrs i (by simp)
    obtain ⟨q, hq⟩ : ∃ q, qs[i]? = some q := ⟨qs[i], by simp [hi]⟩
    rw [readS_snoc]
    have e : rStep ml fl qs (readS ml fl qs rs) i = (cNext (readS ml fl qs rs).1 (nameS q.k q.r) (askA ml fl q), (readS ml fl qs rs).2 ++ [strN (cVal (readS ml fl qs rs).1 (nameS q.k q.r) (askA ml fl q))]) := by
      unfold rStep; rw [hq]
    rw [e]
    dsimp only
    have up : ∀ n, ((readS ml fl qs rs).1.lookup n).isSome → (cNext (readS ml fl qs rs).1 (nameS q.k q.r) (askA ml fl q)).lookup n = (readS ml fl qs rs).1.lookup n := by
      intro n hn
      unfold cNext
      split
      · rfl
      · rw [lookup_snoc]
        obtain ⟨v, hv⟩ := Option.isSome_iff_exists.mp hn
        rw [hv]; rfl
    have me : (cNext (readS ml fl qs rs).1 (nameS q.k q.r) (askA ml fl q)).lookup (nameS q.k q.r) = some (cVal (readS ml fl qs rs).1 (nameS q.k q.r) (askA ml fl q)) := by
      unfold cNext cVal
      cases e : (readS ml fl qs rs).1.lookup (nameS q.k q.r) with
      | some a => simp [e]
      | none => simp [lookup_snoc, e]
    refine ⟨fun j hj p hp => ?_, ?_⟩
    · rcases List.mem_append.mp hj with hj | hj
      · have := h1 j hj p hp
        rw [up _ this]; exact this
      · rw [List.mem_singleton.mp hj, hq] at hp
        cases hp
        rw [me]; rfl
    · rw [List.map_append, h2]
      congr 1
      · refine List.map_congr_left fun j hj => ?_
        cases hp : qs[j]? with
        | none => rfl
        | some p => 
          dsimp only
          unfold cVal
          rw [up _ (h1 j hj p hp)]
      · simp only [List.map_cons, List.map_nil, hq]
        conv => rhs; unfold cVal
        rw [me]; rfl
theorem cVal_same {c : List (Str × Nat)} {n : Str} (h : (c.lookup n).isSome) (a b : Nat) : cVal c n a = cVal c n b ∧ cNext c n a = c := by
  obtain ⟨v, hv⟩ := Option.isSome_iff_exists.mp h
  unfold cVal cNext
  rw [hv]; exact ⟨rfl, rfl⟩
end
section
set_option maxHeartbeats 1000000

theorem tups_ex {g h : Heap} {L : Addr} {m : Str → Option Value} (F : Fr g L h m) : ∃ ot, News g L h ot ∧ (∀ p ∈ ot, IsT p.2) ∧ ∀ b o, IsT o → h.get? b = some o → g.get? b = some o ∨ (b, o) ∈ ot := by
  classical
  obtain ⟨ot, N, ho⟩ := rest_ex g h L F.keep
  refine ⟨ot.filter fun p => decide (IsT p.2), fun p hp => N p (List.mem_filter.mp hp).1, fun p hp => by simpa using (List.mem_filter.mp hp).2, fun b o t e => ?_⟩
  rcases ho b o (Ns.notT F.ns e t) e with q | q
  · exact .inl q
  · exact .inr (List.mem_filter.mpr ⟨q, by simpa using t⟩)
section
variable {prog : Program} {w : World} {A : Around} {E : Value → Shared → Prop} {s : Shared} {g : Heap} {L l : Addr} {m : Str → Option Value} {news : List (Addr × Obj)}
theorem lsort_pairs {D : Addr} {n : Nat} {vs : List Value} {key : Nat → Nat} {ad : Nat → Addr} {f : Nat → Int} {v2 : Nat → Value} {Q : Value → Shared → Prop} (F : Fr g L s.heap m) (N : News g L s.heap ((D, W.listOf vs.toArray n) :: news)) (hD : ∀ q ∈ news, q.1 ≠ D) (h2 : 2 ≤ vs.length) (h64 : vs.length < 64)
    (P : PairsAt s.heap vs key ad f v2)
    (h : ∀ p h' tk c, Good vs.length p → SortT key p vs.length → Fr g L h' m → News g L h' ((D, W.listOf (p.toList.map fun i => Value.ref (ad i)).toArray c) :: news) → (∀ b o, b ≠ L → b ≠ D → s.heap.get? b = some o → h'.get? b = some o) → Q .none { s with heap := h', toks := tk }) :
    wpAny (model prog w) A (call (.builtin "list.sort") [.ref D]) Q E s := by
  classical
  obtain ⟨ot₀, No₀, ho₀⟩ := rest_ex g s.heap L F.keep
  obtain ⟨ot, No, hoD, ho⟩ : ∃ ot, News g L s.heap ot ∧ (∀ q ∈ ot, q.1 ≠ D) ∧ ∀ b o, b ≠ L → b ≠ D → s.heap.get? b = some o → g.get? b = some o ∨ (b, o) ∈ ot := by
    refine ⟨ot₀.filter fun p => decide (p.1 ≠ D), fun p hp => No₀ p (List.mem_filter.mp hp).1, fun p hp => by simpa using (List.mem_filter.mp hp).2, fun b o hb hbD e => ?_⟩
    rcases ho₀ b o hb e with q | q
    · exact .inl q
    · exact .inr (List.mem_filter.mpr ⟨q, by simpa using hbD⟩)
  have hne : ∀ q ∈ news ++ ot, q.1 ≠ D := fun q hq => by
    rcases List.mem_append.mp hq with hq | hq
    · exact hD q hq
    · exact hoD q hq
  have N2 : News g L s.heap ((D, W.listOf vs.toArray n) :: (news ++ ot)) := fun p hp => by
    rcases List.mem_cons.mp hp with rfl | hp
    · exact N _ (.head _)
    · rcases List.mem_append.mp hp with hp | hp
      · exact N p (.tail _ hp)
      · exact No p hp
  refine kat_lsort F N2 (.head hne) (vs := vs) (by simp) h2 h64 fun e1 h' F' N' => ?_
  have kA : ∀ h3 o3, Fr g L h3 m → News g L h3 ((D, o3) :: (news ++ ot)) → ∀ b o, b ≠ L → b ≠ D → s.heap.get? b = some o → h3.get? b = some o := fun h3 o3 F3 N3 b o hb hbD e => by
    rcases ho b o hb hbD e with q | q
    · exact F3.keep _ _ q
    · exact (N3 _ (.tail _ (List.mem_append_right _ q))).1
  have notD : ∀ b o, IsT o → s.heap.get? b = some o → b ≠ D := by
    rintro b o ⟨xs, k, rfl⟩ e rfl
    rw [(N _ (.head _)).1] at e
    simp at e
  have P' := P.keeps fun b o t e => kA h' _ F' N' b o (Ns.notT F.ns e t) (notD b o t e) e
  obtain ⟨fs, hfs, htup, hint⟩ : ∃ fs : List Value, vs.length = fs.length ∧ KatTups h' vs fs ∧ ∀ v ∈ fs, ∃ i t, v = .int i t := by
    have ch : ∀ i, ∃ t, i < vs.length → ∃ k, h'.get? (ad i) = some ⟨.type "tuple", none, .seq #[.int (f i) t, v2 i] k, #[]⟩ := fun i => by
      by_cases hi : i < vs.length
      · obtain ⟨_, t, k, o⟩ := P'.at' i hi; exact ⟨t, fun _ => ⟨k, o⟩⟩
      · exact ⟨default, fun q => absurd q hi⟩
    refine ⟨(List.range vs.length).map fun i => .int (f i) (ch i).choose, by simp, pairs_tups _ _ (by simp) fun i hi => ?_, ?_⟩
    · obtain ⟨k, o⟩ := (ch i).choose_spec hi
      exact ⟨ad i, _, _, _, k, (P'.at' i hi).1, by simp [hi], o⟩
    · intro v hv
      obtain ⟨i, _, rfl⟩ := List.mem_map.mp hv
      exact ⟨_, _, rfl⟩
  refine kat_kind (T := .type "int") htup (by omega) (fun v hv => by obtain ⟨i, t, rfl⟩ := hint v hv; exact Looks.of_pure rfl) (by decide) ?_
  refine kwp_wp (lt := klt key) (n := vs.length) (R := fun s' => ∃ tk, s' = { s with heap := h', toks := tk }) ?_ _ _ ⟨_, rfl⟩ (kwp_mono ?_ _ (sort_ok P.inj (by omega)))
  · rintro i j C s' hi hj hij ⟨tk, rfl⟩ hC
    exact pair_lt (s := { s with heap := h', toks := tk }) P' hi hj hij fun tk' => hC _ ⟨tk', rfl⟩
  · rintro p ⟨gp, sp⟩ s' ⟨tk, rfl⟩
    have e : (p.toList.map fun i => vs.getD i Value.none) = p.toList.map fun i => Value.ref (ad i) := by
      refine List.map_congr_left fun i hi => ?_
      have hi' : i < vs.length := by simpa using gp.perm.mem_iff.mp hi
      simp [List.getD, (P.at' i hi').1]
    rw [e]
    exact KasFin.intro F' N' (.head hne) fun h3 c F3 N3 => h p h3 tk c gp sp F3 (fun q hq => by cases hq with | head => exact N3 _ (.head _) | tail _ hq => exact N3 _ (.tail _ (List.mem_append_left _ hq))) (kA h3 _ F3 N3)
inductive PairsV (h : Heap) : List Value → List (Int × Value) → Prop
  | nil : PairsV h [] []
  | cons {a : Addr} {t : Tok} {n : Nat} {p : Int × Value} {vs ps} (ha : h.get? a = some ⟨.type "tuple", none, .seq #[.int p.1 t, p.2] n, #[]⟩) : PairsV h vs ps → PairsV h (.ref a :: vs) (p :: ps)
theorem SortT.pw {key : Nat → Nat} {p : Array Nat} {n : Nat} (g : Good n p) (h : SortT key p n) : p.toList.Pairwise (fun a b => key a < key b) := by
  rw [List.pairwise_iff_getElem]
  intro i j hi hj hij
  have hn := g.size
  have h1 : i < p.size := by simpa using hi
  have h2 : j < p.size := by simpa using hj
  have := h i j hij (by omega)
  simpa [Array.getD, h1, h2] using this
/-- sorted() of a dict's items, the keys ints -/
theorem sorted_items {v d : Addr} {od : Obj} {kvs : List (Int × Value)} {Q : Value → Shared → Prop} (hh : A.handled = none) (F : Fr g L s.heap m) (N : News g L s.heap news) (hvw : (v, { cls := .type "dict_items", data := .fields #[.ref d] }) ∈ news) (hmd : (d, od) ∈ news) (hod : od.IsDictOf (intKind prog w) kvs)
    (h2 : 2 ≤ kvs.length) (h64 : kvs.length < 64) (nd : (kvs.map (·.1)).Nodup) (nn : ∀ p ∈ kvs, 0 ≤ p.1)
    (h : ∀ B ps vs h' tk c, ps.Perm kvs → ps.Pairwise (fun a b => a.1 < b.1) → PairsV h' vs ps → Fr g L h' m → News g L h' ((B, W.listOf (List.toArray vs) c) :: news) → s.heap.get? B = none → (∀ b o, b ≠ L → s.heap.get? b = some o → h'.get? b = some o) → Q (.ref B) { s with heap := h', toks := tk }) :
    wpAny (model prog w) A (call (.builtin "sorted") [.ref v]) Q E s := by
  obtain ⟨ep, hat⟩ := KdkAt.of hod
  refine Calls.call_function_entry kind_sorted plain_sorted entry_sorted (args_sorted1 _) ?_
  unfold Builtin.«sorted»
  refine wpAny_bind (m := checkCount "sorted" 1 1 _) (wpAny_pure ?_)
  refine wpAny_bind (kdx_collect (A := A.in1) (knd := intKind prog w) (kvs := kvs) (ep := ep) hh ⟨_, (N _ hvw).1, rfl, rfl⟩ (hat.dictAt (N _ hmd).1) (kdl_size (by omega)) fun h' tk as hk hl hG => ?_)
  refine wpAny_bind (wpAny_newList ?_ (by rw [List.length_map, hl]; exact kdl_size (by omega)))
  have F1 := (frKeep F hk)
  have N1 := newsKeep N hk
  have hk2 : ∀ b o, h'.get? b = some o → (h'.push { cls := .type "list", data := .seq (as.map Value.ref).toArray }).get? b = some o := fun b o e => Heap.get?_push_of_some _ e
  have F2 := frKeep F1 hk2
  have N2 : News g L (h'.push { cls := .type "list", data := .seq (as.map Value.ref).toArray }) ((h'.objs.size, W.listOf (as.map Value.ref).toArray 0) :: news) := newsMore (newsKeep N1 hk2) (Heap.get?_push_size _ rfl) (frFresh F1 (Nat.le_refl _)).1 (frFresh F1 (Nat.le_refl _)).2
  have hlk : ∀ i, i < as.length → ∃ p, kvs[i]? = some p ∧ (kvs.getD i (0, .none)) = p := fun i hi => ⟨kvs[i]'(by omega), by simp, by simp [List.getD, show i < kvs.length by omega]⟩
  have hat2 : ∀ i, i < as.length → ∃ t, h'.get? (as.getD i 0) = some ⟨.type "tuple", none, .seq #[.int (kvs.getD i (0, .none)).1 t, (kvs.getD i (0, .none)).2] 0, #[]⟩ := fun i hi => by
    obtain ⟨p, hp, hpd⟩ := hlk i hi
    obtain ⟨key, k, x, e1, e2, e3⟩ := hG.pairs i as[i] (by simp)
    rw [hp] at e1; cases e1
    obtain ⟨t, rfl⟩ := Value.isInt_shape e2
    rw [hpd]
    exact ⟨t, by simpa [List.getD, hi] using e3⟩
  have kinj : ∀ i j, i < as.length → j < as.length → (kvs.getD i (0, .none)).1 = (kvs.getD j (0, .none)).1 → i = j := fun i j hi hj e => by
    have hi' : i < (kvs.map (·.1)).length := by simp; omega
    have hj' : j < (kvs.map (·.1)).length := by simp; omega
    refine (List.getElem_inj (h₀ := hi') (h₁ := hj') nd).mp ?_
    simpa [List.getD, show i < kvs.length by omega, show j < kvs.length by omega] using e
  have knn : ∀ i, i < as.length → 0 ≤ (kvs.getD i (0, .none)).1 := fun i hi => by
    obtain ⟨p, hp, hpd⟩ := hlk i hi
    rw [hpd]; exact nn p (List.mem_of_getElem? hp)
  refine wpAny_bind (wpAny_holding (lsort_pairs (A := A.in1) (key := fun i => (kvs.getD i (0, .none)).1.toNat) (ad := fun i => as.getD i 0) (f := fun i => (kvs.getD i (0, .none)).1) (v2 := fun i => (kvs.getD i (0, .none)).2) F2 N2 (newsNe N1 (Nat.le_refl _)) (by simp; omega) (by simp; omega) ⟨?_, ?_, ?_, ?_⟩ ?_))
  · intro i hi
    have hi : i < as.length := by simpa using hi
    obtain ⟨t, e⟩ := hat2 i hi
    exact ⟨by simp [List.getD, hi], t, 0, hk2 _ _ e⟩
  · intro i j hi hj hne
    have a := knn i (by simpa using hi)
    have b := knn j (by simpa using hj)
    unfold klt
    rw [decide_eq_decide]
    dsimp only at a b hne ⊢
    omega
  · intro i j hi hj hij e
    exact absurd (kinj i j (by simpa using hi) (by simpa using hj) e) hij
  · intro i j hi hj e
    have a := knn i (by simpa using hi)
    have b := knn j (by simpa using hj)
    exact kinj i j (by simpa using hi) (by simpa using hj) (by omega)
  · intro p h3 tk3 c gp sp F3 N3 k3
    rw [List.length_map] at gp sp
    refine wpAny_pure ⟨_, rfl, h _ (p.toList.map fun i => kvs.getD i (0, .none)) _ h3 tk3 c ?_ ?_ ?_ F3 N3 ?_ ?_⟩
    · have e : kvs = (List.range as.length).map fun i => kvs.getD i (0, .none) := by
        apply List.ext_getElem
        · simp [hl]
        · intro i h1 h2
          simp [List.getD, h1]
      exact (gp.perm.map _).trans (by rw [← e])
    · rw [List.pairwise_map]
      refine (sp.pw gp).imp_of_mem fun {a b} ha hb hab => ?_
      have ha' : a < as.length := by simpa using gp.perm.mem_iff.mp ha
      have hb' : b < as.length := by simpa using gp.perm.mem_iff.mp hb
      have := knn a ha'
      have := knn b hb'
      omega
    · have hlt : ∀ i ∈ p.toList, i < as.length := fun i hi => by simpa using gp.perm.mem_iff.mp hi
      revert hlt
      generalize p.toList = is
      intro hlt
      induction is with
      | nil => exact .nil
      | cons i is ih =>
        obtain ⟨t, e⟩ := hat2 i (hlt i (.head _))
        have e' := hk2 _ _ e
        refine .cons (k3 _ _ (Ns.notT F2.ns e' ⟨_, _, rfl⟩) (Nat.ne_of_lt (Heap.lt_size e)) e') (ih fun j hj => hlt j (.tail _ hj))
    · obtain ⟨a, ha⟩ : ∃ a, a ∈ as := ⟨as[0]'(by omega), by simp⟩
      exact noneAt (Nat.le_of_lt (Nat.lt_trans (hG.above a ha) (hG.there ha)))
    · intro b o hb e
      have e1 := hk _ _ e
      exact k3 b o hb (Nat.ne_of_lt (Heap.lt_size e1)) (hk2 _ _ e1)
end
end
section
set_option maxHeartbeats 1000000

theorem fillPL (w : World) (h : Heap) : (Mine.hd.heap_1 w.params).In h → PySem.Challenge.rw_oc0123_01.most = some 63 := by
  k_fill
  intro _; rfl

local macro_rules | `(tactic| ktr_rel) => `(tactic| (repeat' (first
  | (walk_at "kA"; (fail_if_success (with_reducible first | refine gFor ?_ | refine gWhile ?_ | refine gIf ?_ | refine gCallref ?_ | refine gComp ?_ | refine gSplit ?_ | refine gSlice ?_ | refine gCmpref ?_ | refine gSetitem ?_ | refine gCallb ?_)); walk1)
  | walk_at "kB")))

theorem TupAt.keeps' {h h' : Heap} {x : It} (t : TupAt h x) (k : ∀ b o, h.get? b = some o → IsT o → h'.get? b = some o) : TupAt h' x := by
  obtain ⟨a, b, n, e⟩ := t; exact ⟨a, b, n, k _ _ e ⟨_, _, rfl⟩⟩
theorem pairs_its {h : Heap} {qs : List Ask} {its : List It} (hT : ∀ x ∈ its, TupAt h x) (hlen : its.length = 8) (hget : ∀ (i : Nat) (x : It), its[i]? = some x → x.r = (rt qs i : Int) ∧ x.i = (i : Int)) :
    ∃ U : Nat → Tok, PairsAt h (vals its) (ky qs) (fun i => (its.map (·.a)).getD i 0) (fun i => (rt qs i : Int)) (fun i => .int (i : Nat) (U i)) := by
  have ch : ∀ i, ∃ u : Tok, i < 8 → ∃ t k, h.get? ((its.map (·.a)).getD i 0) = some ⟨.type "tuple", none, .seq #[.int (rt qs i : Int) t, .int (i : Nat) u] k, #[]⟩ := fun i => by
    by_cases hi : i < 8
    · have hx : its[i]? = some (its[i]'(by omega)) := by simp
      obtain ⟨t, u, n, e⟩ := hT _ (List.mem_of_getElem? hx)
      obtain ⟨e1, e2⟩ := hget i _ hx
      rw [e1, e2] at e
      exact ⟨u, fun _ => ⟨t, n, by simpa [List.getD, show i < its.length by omega] using e⟩⟩
    · exact ⟨default, fun q => absurd q hi⟩
  refine ⟨fun i => (ch i).choose, ?_, ?_, ?_, ?_⟩
  · intro i hi
    have hi : i < 8 := by simpa [hlen] using hi
    obtain ⟨t, k, e⟩ := (ch i).choose_spec hi
    exact ⟨by simp [List.getD, show i < its.length by omega], t, k, e⟩
  · intro i j hi hj hne
    have hi : i < 8 := by simpa [hlen] using hi
    have hj : j < 8 := by simpa [hlen] using hj
    unfold klt ky
    rw [decide_eq_decide]
    omega
  · intro i j hi hj hij e
    have hi : i < 8 := by simpa [hlen] using hi
    have hj : j < 8 := by simpa [hlen] using hj
    refine ⟨_, _, _, _, rfl, rfl, by omega, ?_⟩
    unfold klt ky
    rw [decide_eq_decide]
    omega
  · intro i j hi hj e
    exact ky_inj (by simpa [hlen] using hi) (by simpa [hlen] using hj) e
inductive TakenIs (qs : List Ask) (ot : List (Addr × Obj)) : List (Int × Value) → List (Nat × Nat) → Prop
  | nil : TakenIs qs ot [] []
  | cons {u i : Nat} {b : Addr} {t v : Tok} {n : Nat} {kvs tk} (hb : (b, tupObj (.int (i : Nat) t) (.int (rt qs i : Nat) v) n) ∈ ot) : TakenIs qs ot kvs tk → TakenIs qs ot (((u : Nat), .ref b) :: kvs) ((u, i) :: tk)
theorem TakenIs.mono {qs : List Ask} {ot ot' : List (Addr × Obj)} {kvs tk} (h : TakenIs qs ot kvs tk) (k : ∀ p ∈ ot, p ∈ ot') : TakenIs qs ot' kvs tk := by
  induction h with
  | nil => exact .nil
  | cons hb _ ih => exact .cons (k _ hb) ih
theorem TakenIs.snoc {qs : List Ask} {ot : List (Addr × Obj)} {kvs tk} (h : TakenIs qs ot kvs tk) {u i : Nat} {b : Addr} {t v : Tok} {n : Nat} (hb : (b, tupObj (.int (i : Nat) t) (.int (rt qs i : Nat) v) n) ∈ ot) : TakenIs qs ot (kvs ++ [(((u : Nat) : Int), .ref b)]) (tk ++ [(u, i)]) := by
  induction h with
  | nil => exact .cons hb .nil
  | cons hb' _ ih => exact .cons hb' ih
theorem TakenIs.len {qs : List Ask} {ot : List (Addr × Obj)} {kvs tk} (h : TakenIs qs ot kvs tk) : kvs.length = tk.length := by
  induction h with
  | nil => rfl
  | cons _ _ ih => simp [ih]
theorem TakenIs.fst {qs : List Ask} {ot : List (Addr × Obj)} {kvs tk} (h : TakenIs qs ot kvs tk) : kvs.map (·.1) = tk.map (fun p => ((p.1 : Nat) : Int)) := by
  induction h with
  | nil => rfl
  | cons _ _ ih => simp [ih]
theorem TakenIs.none {qs : List Ask} {ot : List (Addr × Obj)} {kvs tk} (h : TakenIs qs ot kvs tk) {u : Nat} (e : valueAt kvs (u : Int) = .none) : ∀ p ∈ tk, p.1 ≠ u := by
  induction h with
  | nil => exact fun _ h => nomatch h
  | @cons k r b t v n kvs c _ _ ih =>
    rw [valueAt_consI] at e
    by_cases hk : (k : Int) = u
    · rw [if_pos hk] at e; cases e
    · rw [if_neg hk] at e
      intro p hp
      rcases List.mem_cons.mp hp with rfl | hp
      · show k ≠ u
        omega
      · exact ih e p hp
theorem TakenIs.some {qs : List Ask} {ot : List (Addr × Obj)} {kvs tk} (h : TakenIs qs ot kvs tk) {u : Nat} {v : Value} (e : valueAt kvs (u : Int) = .some v) : ∃ j, (u, j) ∈ tk := by
  induction h with
  | nil => cases e
  | @cons k r b t v n kvs c _ _ ih =>
    rw [valueAt_consI] at e
    by_cases hk : (k : Int) = u
    · have : k = u := by omega
      subst this
      exact ⟨r, .head _⟩
    · rw [if_neg hk] at e
      obtain ⟨j, hj⟩ := ih e
      exact ⟨j, .tail _ hj⟩
theorem TakenIs.perm {qs : List Ask} {ot : List (Addr × Obj)} {kvs' kvs} (hp : kvs'.Perm kvs) : ∀ {tk}, TakenIs qs ot kvs tk → ∃ tk' : List (Nat × Nat), tk'.Perm tk ∧ TakenIs qs ot kvs' tk' := by
  induction hp with
  | nil => intro tk h; exact ⟨tk, .refl _, h⟩
  | cons x _ ih =>
    intro tk h
    cases h with
    | cons hb h =>
      obtain ⟨tk', p, r⟩ := ih h
      exact ⟨_ :: tk', p.cons _, .cons hb r⟩
  | swap x y l =>
    intro tk h
    cases h with
    | cons hb h =>
      cases h with
      | cons hb' h => exact ⟨_, .swap _ _ _, .cons hb' (.cons hb h)⟩
  | trans _ _ ih1 ih2 =>
    intro tk h
    obtain ⟨tk1, p1, r1⟩ := ih2 h
    obtain ⟨tk2, p2, r2⟩ := ih1 r1
    exact ⟨tk2, p2.trans p1, r2⟩
/-- what _law_placed gives -/
inductive PlacedAt (qs : List Ask) (h : Heap) : List Value → List (Nat × Nat) → Prop
  | nil : PlacedAt qs h [] []
  | cons {u i : Nat} {a b : Addr} {t v z : Tok} {n n' : Nat} {vs tk} (ha : h.get? a = some (tupObj (.int (u : Nat) z) (.ref b) n')) (hb : h.get? b = some (tupObj (.int (i : Nat) t) (.int (rt qs i : Nat) v) n)) : PlacedAt qs h vs tk → PlacedAt qs h (.ref a :: vs) ((u, i) :: tk)
theorem PlacedAt.of {qs : List Ask} {h : Heap} {ot : List (Addr × Obj)} (ho : ∀ p ∈ ot, h.get? p.1 = some p.2) {vs kvs} (P : PairsV h vs kvs) : ∀ {tk}, TakenIs qs ot kvs tk → PlacedAt qs h vs tk := by
  induction P with
  | nil => intro tk T; cases T; exact .nil
  | cons ha _ ih =>
    intro tk T
    cases T with
    | cons hb T => exact .cons ha (ho _ hb) (ih T)
theorem dict_notT {prog : Program} {w : World} {o : Obj} {kvs : List (Int × Value)} (h : o.IsDictOf (intKind prog w) kvs) : ¬ IsT o := by
  rintro ⟨xs, n, rfl⟩
  obtain ⟨es, ep, _, hd, _⟩ := h
  cases hd
theorem newsPut {g h h9 : Heap} {L d : Addr} {o8 o9 : Obj} {ns ns' : List (Addr × Obj)} (N : News g L h ns) (hd : (d, o8) ∈ ns) (hs : Heap.SameBut d h h9) (ho : h9.get? d = some o9) (k : ∀ q ∈ ns', q = (d, o9) ∨ (q.1 ≠ d ∧ q ∈ ns)) : News g L h9 ns' := fun q hq => by
  rcases k q hq with rfl | ⟨h1, h2⟩
  · exact ⟨ho, (N _ hd).2⟩
  · exact ⟨(hs.2 _ h1).trans (N q h2).1, (N q h2).2⟩
inductive PlC (qs : List Ask) (k : Nat) (ys : List Value) (h : Heap) : Prop where
  | mk (its : List It) (e : ys = vals its) (hT : ∀ x ∈ its, TupAt h x) (hl : its.length = k) (hx : ∀ (i : Nat) (x : It), its[i]? = some x → x.r = (rt qs i : Int) ∧ x.i = (i : Int))
inductive PlJ (prog : Program) (w : World) (L d D2 : Addr) (oc oD : Obj) (ot : List (Addr × Obj)) (qs : List Ask) (pl : List Nat) (j : Nat) (m₁ : Str → Option Value) (news₁ : List (Addr × Obj)) : Prop where
  | mk (m1 : m₁ "taken" = some (.ref d)) (o : Obj) (kvs : List (Int × Value)) (tk : List (Nat × Nat)) (ot' : List (Addr × Obj)) (e : news₁ = (d, o) :: (L + 1, oc) :: (D2, oD) :: ot') (hT : ∀ q ∈ ot', IsT q.2) (hs : ∀ q ∈ ot, q ∈ ot')
    (hI : o.IsDictOf (intKind prog w) kvs) (hTk : TakenIs qs ot' kvs tk) (hGr : Gr qs (pl.take j) tk)
inductive PlW (g : Heap) (L d : Addr) (rs : List (Addr × Obj)) (qs : List Ask) (idx : Nat) (u1 t1 : Tok) (tkn : List (Nat × Nat)) (s : Shared) (P : Nat → Prop) (s' : Shared) : Prop where
  | mk (h' : Heap) (tk : Nat) (m : Str → Option Value) (t : Tok) (u : Nat) (e : s' = { s with heap := h', toks := tk }) (F : Fr g L h' m) (N : News g L h' rs) (m1 : m "taken" = some (.ref d)) (m2 : m "i" = some (.int (idx : Nat) u1)) (m3 : m "rights" = some (.int (rt qs idx : Nat) t1)) (m4 : m "hour" = some (.int (u : Nat) t))
    (hu : hr qs idx ≤ u) (hv : ∀ v, hr qs idx ≤ v → v < u → ∃ j, (v, j) ∈ tkn) (hP : P u)
theorem placed_ok {prog : Program} {w : World} {A : Around} {s : Shared} {h₀ : Heap} {mean : ExcName → Option Value} {mg mb : Str → Option Value} {loose : List Str} {E : Value → Shared → Prop} {Q : Value → Shared → Prop}
    (X : (Mine.hd.heap_1 w.params).In h₀) (T : Top Mine.view loose mean mg mb h₀) (kp : ∀ b o, h₀.get? b = some o → s.heap.get? b = some o)
    {al : Addr} {qs : List Ask} (hal : AsksAt s.heap al qs) (hqz : qs.length = 8)
    (hhd : A.handled = none) (hroom : A.depth + 30 < recursionLimit) (hunit : A.units + 150 < cLine)
    (h : ∀ (h' : Heap) (tk : Nat) D tv k ps, (∀ b o, s.heap.get? b = some o → h'.get? b = some o) → s.heap.get? D = none → h'.get? D = some (W.listOf (List.toArray tv) k) → PlacedAt qs h' tv ps → Placing qs ps → Q (.ref D) { s with heap := h', toks := tk }) :
    wpAny (model prog w) A (call (.ref 203) [.ref al]) Q E s := by
  refine' enterC (binds := [("asks", .ref al)]) [] X T kp ?hm ?ho ?hcd (by first | exact dr hroom | omega) ?hbind ?hkind ?hnd ?hco ?hgen ?hk ?_
  case ho => k_is
  case hcd => k_is
  case hbind => exact BindsTo.of_eq rfl
  case hkind => rfl
  case hnd => decide
  case hco => rfl
  case hgen => rfl
  case hk => rfl
  case hm => intro q hq; cases hq
  intro g L h₁ tk cells F N C X' T' kg lm
  clear X T kp
  obtain ⟨oc, rfl, hoc⟩ := C.one
  replace hoc : oc.data = .cell (some (.ref al)) := hoc
  replace N : News g L h₁ [(L + 1, oc)] := N
  replace F : Fr g L h₁ (fun y => none) := F
  obtain ⟨⟨ka, hal⟩, hqs⟩ := hal
  have halg := kg _ _ (by simp) hal
  clear C lm
  ktr_rel
  rename Fr _ _ _ _ => F
  rename News _ _ _ _ => N
  refine wpAny_For ?_
  ktr_rel
  rename_i d hA o lo hs0 fs0 hI0 fi0 l1 hB
  clear hs0 fs0 fi0
  refine comp_evalC (cl := [("asks", L + 1)]) rfl (by decide) rfl (by decide) ?_
  ktr_rel
  rename IsRange _ _ _ _ _ _ _ _ => hR
  rename Fr _ _ _ _ => F
  rename News _ _ _ _ => N
  refine comp_range (n := 8) (by exact hhd) F N hR (by decide) (PlC qs) (fun h _ => ⟨[], rfl, (fun _ h => nomatch h), rfl, fun _ _ h => by simp at h⟩) ?hkeep ?item ?post
  case hkeep =>
    rintro i ys h h' ⟨its, rfl, hT, hm, hm2⟩ hk
    exact ⟨its, rfl, fun x hx => (hT x hx).keeps' hk, hm, hm2⟩
  case item =>
    rintro C i v ys h4 tk4 m4 ot ⟨hi, tv, rfl⟩ hJ F4 N4 k4
    clear F N
    have F40 := F4.ns
    replace N4 : News g C h4 ((d, o) :: (L + 1, oc) :: ot) := N4
    ktr_rel
    refine cstore F4 N4 fun h5 F5 N5 => ?_
    clear F4 N4
    refine ctest0 ?_
    ktr_rel
    rename Fr _ _ _ _ => F
    rename News _ _ _ _ => N
    obtain ⟨q, hq⟩ : ∃ q, qs[i]? = some q := ⟨qs[i]'(by omega), by simp⟩
    obtain ⟨hqa, ok⟩ := hqs q (List.mem_of_getElem? hq)
    obtain ⟨t1, t2, t3, t4, t5, nq, hqq⟩ := hqa.keeps (h' := g) (fun o e => kg _ _ (by simp) e)
    refine sub_list (v := .ref q.a) (F.keep _ _ halg) (by first | exact Int.natCast_nonneg _ | decide | omega) (by first | decide | exact n63 (by assumption) | omega) (by simp [hq]) ?_
    ktr_rel
    refine sub_tup (vs := [.int q.h t1, .int q.k t2, .int q.r t3, .int q.x t4, fileV q.f t5]) (F.keep _ _ hqq) (by first | exact Int.natCast_nonneg _ | decide | omega) (by first | decide | exact n63 (by assumption) | omega) rfl ?_
    have hr2 := ok.r
    refine sub_tup (N _ (.head _)).1 (by first | exact Int.natCast_nonneg _ | decide | omega) (by first | decide | exact n63 (by assumption) | omega) (two_nats hr2 _ _ _ _).choose_spec ?_
    ktr_rel
    refine sub_list (v := .ref q.a) (F.keep _ _ halg) (by first | exact Int.natCast_nonneg _ | decide | omega) (by first | decide | exact n63 (by assumption) | omega) (by simp [hq]) ?_
    ktr_rel
    refine sub_tup (vs := [.int q.h t1, .int q.k t2, .int q.r t3, .int q.x t4, fileV q.f t5]) (F.keep _ _ hqq) (by first | exact Int.natCast_nonneg _ | decide | omega) (by first | decide | exact n63 (by assumption) | omega) rfl ?_
    ktr_rel
    rename Fr _ _ _ _ => F6
    rename News _ _ _ _ => N6
    obtain ⟨its, rfl, hT, hlen, hget⟩ := hJ
    have hrq : rt qs i = q.rights := rt_of hq
    refine ⟨_, _, _, _, rfl, F6, N6, fun p hp => by simp [hp], its ++ [⟨_, (if q.r = 0 then 320 else 2496) + (q.x : Int), i⟩], (by simp only [vals, List.map_append, List.map_cons, List.map_nil]; rfl), ?_, by simp [hlen], ?_⟩
    · intro x hx
      rcases List.mem_append.mp hx with hx | hx
      · obtain ⟨ta, tb, nn, e⟩ := hT x hx
        rcases k4.2 x.a _ (Ns.notT F40 e ⟨_, _, rfl⟩) e with z | z
        · exact ⟨ta, tb, nn, F6.keep _ _ z⟩
        · exact ⟨ta, tb, nn, (N6 _ (.tail _ (.tail _ (.tail _ (.tail _ z))))).1⟩
      · cases List.mem_singleton.mp hx
        exact ⟨_, _, _, (N6 _ (.head _)).1⟩
    · intro i' x hx
      by_cases hi' : i' < its.length
      · rw [List.getElem?_append_left hi'] at hx
        exact hget i' x hx
      · have hl := (List.getElem?_eq_some_iff.mp hx).1
        have : i' = its.length := by simp at hl; omega
        subst this
        simp at hx
        subst hx
        dsimp only
        rw [hlen, hrq]
        refine ⟨?_, rfl⟩
        unfold Ask.rights ownN
        match hr : q.r, hr2 with
        | 0, _ => simp
        | 1, _ => simp
  case post =>
    rintro D h4 tk4 ys k4 F4 N4 hnD hDn ⟨its, rfl, hT, hlen, hget⟩ hk4
    clear F N hDn hk4
    obtain ⟨U, hP⟩ := pairs_its (qs := qs) hT hlen hget
    ktr_rel
    refine sorted_pairs F4 N4 ⟨_, (N4 _ (.head _)).1, rfl, k4, rfl⟩ (by simp [hlen]) (by simp [hlen]) hP fun D2 p h6 tk6 c6 gp sp F6 N6 lt6 k6 hD2n => ?_
    simp only [List.length_map, hlen] at gp sp
    have hns4 := F4.ns
    clear F4 N4 hnD
    obtain ⟨ot, No, hot, hoT⟩ := tups_ex F6
    have hat : ∀ i, i < 8 → ∃ t u n, h6.get? ((its.map (·.a)).getD i 0) = some (tupObj (.int (rt qs i : Int) t) (.int (i : Nat) u) n) := fun i hi => by
      obtain ⟨_, t, n, e⟩ := (hP.keeps (h' := h6) fun b o z e => k6 b o (Ns.notT hns4 e z) e).at' i (by simpa [hlen] using hi)
      exact ⟨t, _, n, e⟩
    have hlt8 : ∀ i ∈ p.toList, i < 8 := fun i hi => by simpa using gp.perm.mem_iff.mp hi
    have N7 : News g L h6 ((d, o) :: (L + 1, oc) :: (D2, W.listOf (List.map (fun i => Value.ref ((List.map (fun x => x.a) its).getD i 0)) p.toList).toArray c6) :: ot) := fun q hq => by
      revert q hq
      refine fC ?_ (fC ?_ (fC ?_ (fun q hq => ?_)))
      · exact N6 _ (.tail _ (.tail _ (.head _)))
      · exact N6 _ (.tail _ (.tail _ (.tail _ (.head _))))
      · exact N6 _ (.head _)
      · exact No q hq
    have n1 : @Ne Nat D2 d := Ne.symm (Nat.ne_of_lt (lt6 _ (.tail _ (.head _))))
    have n2 : @Ne Nat D2 (L + 1) := Ne.symm (Nat.ne_of_lt (lt6 _ (.tail _ (.tail _ (.head _)))))
    have n3 : @Ne Nat d (L + 1) := by omega
    clear N6
    ktr_rel
    refine loop_list (by exact hhd) F6 N7 ⟨_, (N7 _ (.tail _ (.tail _ (.head _)))).1, rfl, c6, rfl⟩ (fun it v s1 o vs Q E h1 h2 h3 q => go_plain (T := "list_iterator") (by decide) h1 h2 h3 q)
      (PlJ prog w L d D2 oc (W.listOf (List.map (fun i => Value.ref ((List.map (fun x => x.a) its).getD i 0)) p.toList).toArray c6) ot qs p.toList) ?h0 ?turn ?done
    case h0 => exact ⟨rfl, o, [], [], ot, rfl, hot, fun _ h => h, hI0, .nil, .zero qs⟩
    case turn =>
      rintro j v it oi h8 tk8 m8 news8 hv ⟨hm1, o8, kvs, tkn, ot8, rfl, hT8, hs8, hI8, hTk, hGr⟩ hn8 hl8 hL8 F8 N8
      clear F6 N7
      obtain ⟨idx, hidx, rfl⟩ : ∃ idx, p.toList[j]? = some idx ∧ v = .ref ((its.map (·.a)).getD idx 0) := by
        rw [List.getElem?_toArray, List.getElem?_map] at hv
        cases e : p.toList[j]? with
        | none => rw [e] at hv; cases hv
        | some x => rw [e] at hv; exact ⟨x, rfl, (Option.some.inj hv).symm⟩
      have hi8 := hlt8 idx (List.mem_of_getElem? hidx)
      obtain ⟨t1, u1, n1', e1⟩ := hat idx hi8
      have e8 : h8.get? ((its.map (·.a)).getD idx 0) = some (tupObj (.int (rt qs idx : Int) t1) (.int (idx : Nat) u1) n1') := by
        rcases hoT _ _ ⟨_, _, rfl⟩ e1 with q | q
        · exact F8.keep _ _ q
        · exact (N8 _ (.tail _ (.tail _ (.tail _ (.tail _ (hs8 _ q)))))).1
      refine assign_Tuple_tuple (by exact hhd) ⟨_, e8, rfl, _, rfl⟩ rfl rfl fun h9 e9 => ?_
      have F9 := frExt F8 e9
      have N9 := newsExt N8 e9
      clear F8 N8
      ktr_rel
      rename Fr _ _ _ _ => F
      rename News _ _ _ _ => N
      obtain ⟨q, hq⟩ : ∃ q, qs[idx]? = some q := ⟨qs[idx]'(by omega), by simp⟩
      obtain ⟨hqa, ok⟩ := hqs q (List.mem_of_getElem? hq)
      obtain ⟨a1, a2, a3, a4, a5, nq, hqq⟩ := hqa.keeps (h' := g) (fun o e => kg _ _ (by simp) e)
      refine sub_list (v := .ref q.a) (F.keep _ _ halg) (by first | exact Int.natCast_nonneg _ | decide | omega) (by first | decide | exact n63 (by assumption) | omega) (by simp [hq]) ?_
      ktr_rel
      refine sub_tup (vs := [.int q.h a1, .int q.k a2, .int q.r a3, .int q.x a4, fileV q.f a5]) (F.keep _ _ hqq) (by first | exact Int.natCast_nonneg _ | decide | omega) (by first | decide | exact n63 (by assumption) | omega) rfl ?_
      ktr_rel
      rename Fr _ _ _ _ => F
      rename News _ _ _ _ => N
      have hj8 : j < 8 := by
        have := (List.getElem?_eq_some_iff.mp hidx).1
        have := gp.size
        simp at *; omega
      have hlt : tkn.length = j := by
        have := congrArg List.length hGr.idx
        have := gp.size
        simp at *; omega
      have hrq : hr qs idx = q.h := hr_of hq
      have hq6 := ok.h
      have dD : ∀ h' ns, News g L h' ns → (d, o8) ∈ ns → h'.DictOf (intKind prog w) d kvs := fun h' ns N hm => Heap.dictOf_iff.mpr ⟨o8, (N _ hm).1, hI8⟩
      refine wpAny_While (codeAny_mono (codeAny_whileLoop
        (R := fun r s' => r = .ok .next ∧ PlW g L d ((it, oi) :: (d, o8) :: (L + 1, oc) :: (D2, W.listOf (List.map (fun i => Value.ref ((List.map (fun x => x.a) its).getD i 0)) p.toList).toArray c6) :: ot8) qs idx u1 t1 tkn s (fun u => valueAt kvs (u : Int) = none) s')
        (fun k => PlW g L d ((it, oi) :: (d, o8) :: (L + 1, oc) :: (D2, W.listOf (List.map (fun i => Value.ref ((List.map (fun x => x.a) its).getD i 0)) p.toList).toArray c6) :: ot8) qs idx u1 t1 tkn s (fun u => u + k = 20)) ?wturn (20 - q.h) ⟨_, _, _, _, q.h, rfl, F, N, by ktr_unf, by ktr_unf, by ktr_unf, by ktr_unf, by omega, (fun v v1 v2 => by omega), by omega⟩) ?after)
      case wturn =>
        rintro k s' ⟨h', tk, m, t, u, rfl, F2, N2, w1, w2, w3, w4, w5, w6, w7⟩
        clear F N
        ktr_rel
        refine wpAny_in_of (intKind_is _ _ _ _) lo (dD _ _ N2 (.tail _ (.head _))).mapOf ?_
        ktr_rel
        cases hv2 : valueAt kvs (u : Int) with
        | some v2 =>
          obtain ⟨j', hj'⟩ := hTk.some hv2
          have hu := hGr.small _ hj'
          dsimp only at hu
          rw [if_pos (by simp)]
          ktr_rel
          rename Fr _ _ _ _ => F
          rename News _ _ _ _ => N
          refine ⟨k - 1, by omega, _, _, _, _, u + 1, rfl, F, N, by ktr_unf, by ktr_unf, by ktr_unf, by ktr_unf, by omega, fun v v1 v2 => ?_, by omega⟩
          by_cases e : v = u
          · subst e; exact ⟨j', hj'⟩
          · exact w6 v v1 (by omega)
        | none =>
          rw [if_neg (by simp)]
          ktr_rel
          exact ⟨rfl, _, _, _, _, u, rfl, F2, N2, w1, w2, w3, w4, w5, w6, hv2⟩
      case after =>
        rintro r s' ⟨rfl, h', tk, m, t, u, rfl, F2, N2, w1, w2, w3, w4, w5, w6, w7⟩
        clear F N
        ktr_rel
        rename Fr _ _ _ _ => F
        rename News _ _ _ _ => N
        rename_i D9 h10 l9
        refine wpAny_setItem_pairs (hsz := by rw [sizeLine_eq, hTk.len]; omega) (intKind_is _ _ _ _) (dD _ _ N (.tail _ (.tail _ (.head _)))) fun h11 hd11 hs11 => ?_
        rw [stored_newI w7] at hd11
        obtain ⟨o11, ho11, hI11⟩ := Heap.dictOf_iff.mp hd11
        have F11 := frWr (wr := [d]) F (fun b o hb e => (hs11.2 b (by simpa using hb)).trans e) (by simpa using Ne.symm (N _ (.tail _ (.tail _ (.head _)))).2.1) (by simpa using (N _ (.tail _ (.tail _ (.head _)))).2.2)
        have hdo := (N _ (.tail _ (.tail _ (.head _)))).1
        have hTd : ∀ q ∈ ot8, q.1 ≠ d := fun q hq e => by
          have z := (N q (.tail _ (.tail _ (.tail _ (.tail _ (.tail _ hq)))))).1
          rw [e, hdo] at z
          cases z
          exact dict_notT hI8 (hT8 q hq)
        have N11 : News g L h11 ((it, oi) :: (d, o11) :: (L + 1, oc) :: (D2, W.listOf (List.map (fun i => Value.ref ((List.map (fun x => x.a) its).getD i 0)) p.toList).toArray c6) :: (D9, { cls := Value.type "tuple", data := Data.seq #[Value.int (idx : Nat) u1, Value.int (rt qs idx : Nat) t1] }) :: ot8) := by
          refine newsPut N (.tail _ (.tail _ (.head _))) hs11 ho11 fun q hq => ?_
          revert q hq
          refine fC ?_ (fC ?_ (fC ?_ (fC ?_ (fC ?_ (fun q hq => ?_)))))
          · exact .inr ⟨Ne.symm (hn8 _ (.head _)), .tail _ (.head _)⟩
          · exact .inl rfl
          · exact .inr ⟨Ne.symm n3, .tail _ (.tail _ (.tail _ (.head _)))⟩
          · exact .inr ⟨n1, .tail _ (.tail _ (.tail _ (.tail _ (.head _))))⟩
          · exact .inr ⟨Ne.symm (Nat.ne_of_lt l9.2.1), .head _⟩
          · exact .inr ⟨hTd q hq, .tail _ (.tail _ (.tail _ (.tail _ (.tail _ hq))))⟩
        clear F N
        ktr_rel
        refine ⟨_, _, _, _, rfl, F11, N11, ?_, ⟨_, (N11 _ (.tail _ (.tail _ (.tail _ (.head _))))).1, rfl, c6, rfl⟩, w1, o11, _, tkn ++ [(u, idx)], _, rfl, ?_, fun q hq => .tail _ (hs8 q hq), hI11, ?_, ?_⟩
        · intro q hq
          revert q hq
          refine fC ?_ (fC ?_ (fC ?_ (fC ?_ (fun q hq => ?_))))
          · exact hn8 (d, o8) (.head _)
          · exact hn8 _ (.tail _ (.head _))
          · exact hl8
          · exact Ne.symm (Nat.ne_of_lt l9.1)
          · exact hn8 _ (.tail _ (.tail _ (.tail _ hq)))
        · intro q hq
          revert q hq
          refine fC ?_ (fun q hq => ?_)
          · exact ⟨_, _, rfl⟩
          · exact hT8 q hq
        · exact (hTk.mono fun q hq => .tail _ hq).snoc (.head _)
        · rw [List.take_add_one, hidx]
          refine hGr.step (hr_lt fun q hq => (hqs q hq).2) (fun j' hj' => ?_) w5 (hTk.none w7) w6
          have pw := sp.pw gp
          rw [← List.take_append_drop j p.toList, List.pairwise_append] at pw
          refine pw.2.2 j' hj' idx ?_
          rw [List.drop_eq_getElem_cons (List.getElem?_eq_some_iff.mp hidx).1, (List.getElem?_eq_some_iff.mp hidx).2]
          exact .head _
    case done =>
      rintro h8 tk8 m8 news8 F8 N8 ⟨hm1, o8, kvs, tkn, ot8, rfl, hT8, hs8, hI8, hTk, hGr⟩
      clear F6 N7
      ktr_rel
      refine kdx_view (knd := intKind prog w) F8 N8 (.head _) hI8 lo fun D9 h9 F9 N9 l9 => ?_
      clear F8 N8
      have hsz := gp.size
      rw [List.take_of_length_le (by simp)] at hGr
      have hlt : tkn.length = 8 := by
        have := congrArg List.length hGr.idx
        simp at *; omega
      ktr_rel
      refine sorted_items (by exact hhd) F9 N9 (.head _) (.tail _ (.head _)) hI8 (by rw [hTk.len]; omega) (by rw [hTk.len]; omega) ?_ ?_ fun B ps vs h11 tk11 c11 hpp hpa hpv F11 N11 hBn k11 => ?_
      · rw [hTk.fst, List.nodup_iff_pairwise_ne, List.pairwise_map]
        have := hGr.nodup
        rw [List.nodup_iff_pairwise_ne, List.pairwise_map] at this
        exact this.imp fun h e => h (by omega)
      · intro q hq
        have : q.1 ∈ kvs.map (·.1) := List.mem_map.mpr ⟨q, hq, rfl⟩
        rw [hTk.fst] at this
        obtain ⟨z, _, e⟩ := List.mem_map.mp this
        rw [← e]; omega
      · obtain ⟨tk', tp, T'⟩ := hTk.perm hpp
        ktr_rel
        refine h _ _ _ vs _ tk' (fun b o z => F11.keep _ _ (kg b o (by simp) z)) ?_ (N11 _ (.head _)).1 (.of (ot := ot8) (fun q hq => (N11 q (.tail _ (.tail _ (.tail _ (.tail _ (.tail _ hq)))))).1) hpv T') (hGr.last gp.perm tp ?_)
        · cases e : s.heap.get? B with
          | none => rfl
          | some o => exact absurd (F9.keep _ _ (kg _ _ (by simp) e)) (by rw [hBn]; simp)
        · have e := T'.fst
          have e2 : (ps.map (·.1)).Pairwise (· < ·) := List.pairwise_map.mpr hpa
          rw [e, List.pairwise_map] at e2
          exact e2.imp fun h => by omega
end
section
set_option maxHeartbeats 1000000

/-- a continuation, hidden: the walk's terms stay small -/
structure Hid {α : Type} (Q T : α → Shared → Prop) : Prop where
  out : ∀ a s, Q a s → T a s
theorem hideQ {M : Model} {A : Around} {α : Type} {t : Sem α} {Q : α → Shared → Prop} {E : Value → Shared → Prop} {s : Shared} (h : ∀ T : α → Shared → Prop, Hid Q T → wpAny M A t T E s) : wpAny M A t Q E s := h Q ⟨fun _ _ q => q⟩
/-- the rest of the ledger: the reader's objects and tuples -/
structure RestOk (prog : Program) (w : World) (L x dx S D G : Addr) (os : Obj) (ys : List Value) (kk : Nat) (t1 t2 t3 : Tok) (kvs : List (Str × Value)) (rest : List (Addr × Obj)) : Prop where
  inst : (x, instObj 168 dx) ∈ rest
  dict : (dx, ignDict w S D G t1 t2 t3) ∈ rest
  set : (S, os) ∈ rest
  dirs : (D, W.listOf ys.toArray kk) ∈ rest
  ign : ∃ o, (G, o) ∈ rest ∧ o.IsDictOf (strKind prog w) kvs
  low : ∀ q ∈ rest, @LT.lt Nat _ q.1 L ∨ IsT q.2
def TupIn (g : Heap) (rest : List (Addr × Obj)) (y : It) : Prop := ∃ t u n, g.get? y.a = some (tupObj (.int y.r t) (.int y.i u) n) ∨ (y.a, tupObj (.int y.r t) (.int y.i u) n) ∈ rest
theorem TupIn.at {g h : Heap} {rest : List (Addr × Obj)} {y : It} (x : TupIn g rest y) (k : ∀ b o, g.get? b = some o → h.get? b = some o) (k2 : ∀ q ∈ rest, h.get? q.1 = some q.2) : TupAt h y := by
  obtain ⟨t, u, n, e | e⟩ := x
  · exact ⟨t, u, n, k _ _ e⟩
  · exact ⟨t, u, n, k2 _ e⟩
theorem TupIn.mono {g : Heap} {rest rest' : List (Addr × Obj)} {y : It} (x : TupIn g rest y) (k : ∀ q ∈ rest, IsT q.2 → q ∈ rest') : TupIn g rest' y := by
  obtain ⟨t, u, n, e | e⟩ := x
  · exact ⟨t, u, n, .inl e⟩
  · exact ⟨t, u, n, .inr (k _ e ⟨_, _, rfl⟩)⟩
noncomputable abbrev tup4 (u i r : Nat) (x : Str) (z1 z2 z3 z4 : Tok) (n : Nat) : Obj := ⟨.type "tuple", none, .seq #[.int (u : Nat) z1, .int (i : Nat) z2, .int (r : Nat) z3, .str x z4] n, #[]⟩
inductive ToldR (qs : List Ask) (rest : List (Addr × Obj)) : List Value → List (Nat × Nat) → List Str → Prop
  | nil : ToldR qs rest [] [] []
  | cons {u i : Nat} {a : Addr} {x : Str} {z1 z2 z3 z4 : Tok} {n : Nat} {vs ds xs} (ha : (a, tup4 u i (rt qs i) x z1 z2 z3 z4 n) ∈ rest) : ToldR qs rest vs ds xs → ToldR qs rest (.ref a :: vs) ((u, i) :: ds) (x :: xs)
theorem ToldR.mono {qs : List Ask} {rest rest' : List (Addr × Obj)} {vs ds xs} (h : ToldR qs rest vs ds xs) (k : ∀ q ∈ rest, IsT q.2 → q ∈ rest') : ToldR qs rest' vs ds xs := by
  induction h with
  | nil => exact .nil
  | cons ha _ ih => exact .cons (k _ ha ⟨_, _, rfl⟩) ih
theorem ToldR.snoc {qs : List Ask} {rest : List (Addr × Obj)} {vs ds xs} (h : ToldR qs rest vs ds xs) {u i : Nat} {a : Addr} {x : Str} {z1 z2 z3 z4 : Tok} {n : Nat} (ha : (a, tup4 u i (rt qs i) x z1 z2 z3 z4 n) ∈ rest) : ToldR qs rest (vs ++ [.ref a]) (ds ++ [(u, i)]) (xs ++ [x]) := by
  induction h with
  | nil => exact .cons ha .nil
  | cons hb _ ih => exact .cons hb ih
inductive ToldH (qs : List Ask) (h : Heap) : List Value → List (Nat × Nat) → List Str → Prop
  | nil : ToldH qs h [] [] []
  | cons {u i : Nat} {a : Addr} {x : Str} {z1 z2 z3 z4 : Tok} {n : Nat} {vs ds xs} (ha : h.get? a = some (tup4 u i (rt qs i) x z1 z2 z3 z4 n)) : ToldH qs h vs ds xs → ToldH qs h (.ref a :: vs) ((u, i) :: ds) (x :: xs)
theorem ToldR.heap {qs : List Ask} {rest : List (Addr × Obj)} {h : Heap} {vs ds xs} (k : ToldR qs rest vs ds xs) (ho : ∀ q ∈ rest, h.get? q.1 = some q.2) : ToldH qs h vs ds xs := by
  induction k with
  | nil => exact .nil
  | cons ha _ ih => exact .cons (ho _ ha) ih
theorem ToldH.keeps {qs : List Ask} {h h' : Heap} {vs ds xs} (k : ToldH qs h vs ds xs) (ho : ∀ b o, IsT o → h.get? b = some o → h'.get? b = some o) : ToldH qs h' vs ds xs := by
  induction k with
  | nil => exact .nil
  | cons ha _ ih => exact .cons (ho _ _ ⟨_, _, rfl⟩ ha) ih
noncomputable def rowsD (qs : List Ask) : List (Nat × Nat) → List Str → List Dat
  | (u, i) :: ds, x :: xs => .tuple [.int (u : Nat), .int (i : Nat), .int (rt qs i : Nat), .str x] :: rowsD qs ds xs
  | _, _ => []
theorem ToldH.dats {qs : List Ask} {h : Heap} {vs ds xs} (k : ToldH qs h vs ds xs) : DatsH h vs (rowsD qs ds xs) := by
  induction k with
  | nil => exact .nil
  | cons ha _ ih => exact .tup (us := [_, _, _, _]) ha (.int (.int (.int (.str .nil)))) ih
theorem strN_of {n : Nat} (h : n ≤ 1) : Str.ofString (toString (n : Int)) = strN n := by
  match n, h with
  | 0, _ => rfl
  | 1, _ => rfl
section
variable {prog : Program} {w : World} {A : Around} {E : Value → Shared → Prop} {s : Shared} {R : Result → Shared → Prop} {target : PySem.Expr} {body : List Stmt} {env : Env} {g : Heap} {L l : Addr} {m : Str → Option Value} {news : List (Addr × Obj)}
theorem loop_rangeT {x : Str} {px : Pos} {n : Nat} {t u v : Tok} (hh : A.handled = none) (F : Fr g L s.heap m) (N : News g L s.heap news) (hr : IsRange s.heap l 0 n 1 t u v) (hn : n < 1000)
    (J : Nat → (Str → Option Value) → List (Addr × Obj) → Prop) (h0 : J 0 m news)
    (turn : ∀ i tv it oi h tk m₁ news₁, i < n → J i m₁ news₁ → (∀ p ∈ news₁, @Ne Nat p.1 it) → ¬ IsT oi → Fr g L h m₁ → News g L h ((it, oi) :: news₁) →
      wpAny (model prog w) A (assign (.Name x px) env (.int (i : Nat) tv)) (fun _ s₂ => wpAny (model prog w) A (execs body env) (Turned s g L it oi (fun h' => True) (J (i + 1)) R) (fun _ _ => False) s₂) (fun _ _ => False) { s with heap := h, toks := tk })
    (done : ∀ h tk m₁ news₁, Fr g L h m₁ → News g L h news₁ → J n m₁ news₁ → R (.ok .next) { s with heap := h, toks := tk }) :
    wpAny (model prog w) A (pyIter (.ref l)) (fun it s₂ => codeAny (model prog w) A (.forLoop (.Name x px) it body [] env) R s₂) E s := by
  refine range_start F N hr hn fun it h' n2 n3 n4 hit F' N' _ _ => ?_
  refine for_rule (Walks.range hh it 0 1 n) (fun i s' => ∃ h tk m₁ news₁, s' = { s with heap := h, toks := tk } ∧ Fr g L h m₁ ∧ News g L h news₁ ∧ (∀ p ∈ news₁, @Ne Nat p.1 it) ∧ J i m₁ news₁) ?hgo hit ⟨h', _, m, news, rfl, F', N', n4, h0⟩ ?jn ?turn ?done
  case hgo =>
    intro i v s₁ Q E hS hQ
    exact go_name it i v s₁ Q E hQ
  case jn =>
    rintro i s1 h2 tk hi ⟨h1, tk1, m1, news1, rfl, F1, N1, hn, hJ⟩ _ hk
    exact ⟨h2, tk, m1, news1, rfl, frWr F1 hk (by simpa using Ne.symm n2) (by simpa using n3), newsWr N1 hk (by simpa using hn), hn, hJ⟩
  case turn =>
    rintro i v s1 hi hP ⟨h1, tk1, m1, news1, rfl, F1, N1, hn, hJ⟩ hS
    obtain ⟨tv, rfl⟩ := hP
    have ho : h1.get? it = some _ := hS
    have ei : (0 + (i : Int) * 1) = ((i : Nat) : Int) := by simp
    rw [ei]
    refine wpAny_mono (turn i tv it _ h1 tk1 m1 news1 hi hJ hn (by rintro ⟨xs, n, e⟩; simp at e) F1 (newsMore N1 ho n2 n3)) (fun _ s2 h2 => ?_) fun _ _ e => e
    refine wpAny_mono h2 (fun f s3 h3 => ?_) fun _ _ e => e
    cases f with
    | next =>
      obtain ⟨h4, tk4, m4, news4, rfl, F4, N4, hn4, hl4, hJ4⟩ := h3
      exact ⟨⟨h4, tk4, m4, news4, rfl, F4, newsTail N4, hn4, hJ4⟩, (N4 _ (.head _)).1⟩
    | cont =>
      obtain ⟨h4, tk4, m4, news4, rfl, F4, N4, hn4, hl4, hJ4⟩ := h3
      exact ⟨⟨h4, tk4, m4, news4, rfl, F4, newsTail N4, hn4, hJ4⟩, (N4 _ (.head _)).1⟩
    | brk => exact h3
    | ret v => exact h3
  case done =>
    rintro s1 ⟨h1, tk1, m1, news1, rfl, F1, N1, hn, hJ⟩
    exact wpAny_execs_nil (done _ _ _ _ F1 N1 hJ)
end
theorem ToldR.len {qs : List Ask} {rest : List (Addr × Obj)} {vs ds xs} (h : ToldR qs rest vs ds xs) : vs.length = ds.length := by
  induction h with
  | nil => rfl
  | cons _ _ ih => simp [ih]
theorem newsPut2 {g h h9 : Heap} {L d : Addr} {o8 o9 : Obj} {ns ns' : List (Addr × Obj)} (N : News g L h ns) (hd : (d, o8) ∈ ns) (hs : ∀ b o, b ≠ d → h.get? b = some o → h9.get? b = some o) (ho : h9.get? d = some o9) (k : ∀ q ∈ ns', q = (d, o9) ∨ (q.1 ≠ d ∧ q ∈ ns)) : News g L h9 ns' := fun q hq => by
  rcases k q hq with rfl | ⟨h1, h2⟩
  · exact ⟨ho, (N _ hd).2⟩
  · exact ⟨hs _ _ h1 (N q h2).1, (N q h2).2⟩
theorem dict_notS {prog : Program} {w : World} {o : Obj} {kvs : List (Str × Value)} (h : o.IsDictOf (strKind prog w) kvs) : ¬ IsT o := by
  rintro ⟨xs, n, rfl⟩
  obtain ⟨es, ep, _, hd, _⟩ := h
  cases hd
theorem RestOk.glow {prog : Program} {w : World} {L x dx S D G : Addr} {os : Obj} {ys : List Value} {kk : Nat} {t1 t2 t3 : Tok} {kvs : List (Str × Value)} {rest : List (Addr × Obj)} (R : RestOk prog w L x dx S D G os ys kk t1 t2 t3 kvs rest) : @LT.lt Nat _ G L := by
  obtain ⟨o, ho, hd⟩ := R.ign
  rcases R.low _ ho with e | e
  · exact e
  · exact absurd e (dict_notS hd)
theorem pick_drop (l : List Value) : kms_pick l (some 1) none = l.drop 1 := by
  unfold kms_pick
  cases l with
  | nil => simp [kms_lo, kms_hi]
  | cons a l => simp [kms_lo, kms_hi]
theorem if_rule {prog : Program} {w : World} {A : Around} {E : Value → Shared → Prop} {s : Shared} {Q : Flow → Shared → Prop} {test : PySem.Expr} {body orelse : List Stmt} {pos : Pos} {env : Env} (C : Prop)
    (ht : wpAny (model prog w) A (isTrue test env (eval test env)) (fun b s' => (b = true ↔ C) ∧ ∃ tk, s' = { s with toks := tk }) (fun _ _ => False) s)
    (h1 : ∀ tk, C → wpAny (model prog w) A (execs body env) Q E { s with toks := tk }) (h2 : ∀ tk, ¬ C → wpAny (model prog w) A (execs orelse env) Q E { s with toks := tk }) :
    wpAny (model prog w) A (exec (.If test body orelse pos) env) Q E s := by
  refine wpAny_If (wpAny_mono ht (fun b s' hb => ?_) fun _ _ e => e.elim)
  obtain ⟨hc, tk, rfl⟩ := hb
  split
  · rename_i e; exact h1 tk (hc.mp e)
  · rename_i e; exact h2 tk (fun c => e (hc.mpr c))
theorem RestOk.ignAt {prog : Program} {w : World} {L x dx S D G : Addr} {os : Obj} {ys : List Value} {kk : Nat} {t1 t2 t3 : Tok} {kvs : List (Str × Value)} {rest : List (Addr × Obj)} {g h : Heap} {ns : List (Addr × Obj)} {ml fl : List Str} (R : RestOk prog w L x dx S D G os ys kk t1 t2 t3 kvs rest)
    (N : News g L h ns) (hs : ∀ q ∈ rest, q ∈ ns) (hS : SetIs w ml os) (hys : StrsAre ys fl) (e1 : @Ne Nat x G) (e2 : @Ne Nat dx G) (e3 : @Ne Nat S G) (e4 : @Ne Nat D G) (nm : (G == sysModules) = false) : IgnAt prog w h x dx S D G ml fl kvs :=
  ⟨(N _ (hs _ R.inst)).1, ⟨t1, t2, t3, (N _ (hs _ R.dict)).1⟩, ⟨os, (N _ (hs _ R.set)).1, hS⟩, ⟨ys, kk, (N _ (hs _ R.dirs)).1, hys⟩, let ⟨o, ho, hd⟩ := R.ign; ⟨o, (N _ (hs _ ho)).1, hd⟩, ⟨e1, e2, e3, e4⟩, nm⟩
theorem RestOk.next {prog : Program} {w : World} {L x dx S D G : Addr} {os : Obj} {ys : List Value} {kk : Nat} {t1 t2 t3 : Tok} {kvs kvs' : List (Str × Value)} {rest : List (Addr × Obj)} (R : RestOk prog w L x dx S D G os ys kk t1 t2 t3 kvs rest) (e1 : @Ne Nat x G) (e2 : @Ne Nat dx G) (e3 : @Ne Nat S G) (e4 : @Ne Nat D G)
    {o' : Obj} (ho : o'.IsDictOf (strKind prog w) kvs') (hG : @LT.lt Nat _ G L) : RestOk prog w L x dx S D G os ys kk t1 t2 t3 kvs' ((G, o') :: rest.filter fun q => decide (@Ne Nat q.1 G)) := by
  refine ⟨.tail _ (List.mem_filter.mpr ⟨R.inst, by simpa using e1⟩), .tail _ (List.mem_filter.mpr ⟨R.dict, by simpa using e2⟩), .tail _ (List.mem_filter.mpr ⟨R.set, by simpa using e3⟩), .tail _ (List.mem_filter.mpr ⟨R.dirs, by simpa using e4⟩), ⟨o', .head _, ho⟩, fun q hq => ?_⟩
  rcases List.mem_cons.mp hq with rfl | hq
  · exact .inl hG
  · exact R.low q (List.mem_filter.mp hq).1
theorem RestOk.app {prog : Program} {w : World} {L x dx S D G : Addr} {os : Obj} {ys : List Value} {kk : Nat} {t1 t2 t3 : Tok} {kvs : List (Str × Value)} {rest rest' : List (Addr × Obj)} (R : RestOk prog w L x dx S D G os ys kk t1 t2 t3 kvs rest) (hs : ∀ q ∈ rest, q ∈ rest') (hl : ∀ q ∈ rest', q ∈ rest ∨ IsT q.2) : RestOk prog w L x dx S D G os ys kk t1 t2 t3 kvs rest' :=
  ⟨hs _ R.inst, hs _ R.dict, hs _ R.set, hs _ R.dirs, let ⟨o, ho, hd⟩ := R.ign; ⟨o, hs _ ho, hd⟩, fun q hq => (hl q hq).elim (fun h => R.low q h) fun h => .inr h⟩
theorem ans_le (ml fl : List Str) (f : Nat) (n : Str) : ans ml fl f n ≤ 1 := by unfold ans; split <;> omega
def Bits (c : List (Str × Nat)) : Prop := ∀ p ∈ c, p.2 ≤ 1
theorem lookup_mem {c : List (Str × Nat)} {n : Str} {v : Nat} (h : c.lookup n = some v) : ∃ k, (k, v) ∈ c := by
  induction c with
  | nil => cases h
  | cons p c ih =>
    obtain ⟨a, b⟩ := p
    simp only [List.lookup] at h
    split at h
    · cases h; exact ⟨a, .head _⟩
    · obtain ⟨k, hk⟩ := ih h; exact ⟨k, .tail _ hk⟩
theorem Bits.val {c : List (Str × Nat)} (h : Bits c) (n : Str) {a : Nat} (ha : a ≤ 1) : cVal c n a ≤ 1 := by
  unfold cVal
  cases e : c.lookup n with
  | none => exact ha
  | some v => obtain ⟨k, hk⟩ := lookup_mem e; exact h _ hk
theorem Bits.next {c : List (Str × Nat)} (h : Bits c) (n : Str) {a : Nat} (ha : a ≤ 1) : Bits (cNext c n a) := by
  unfold cNext
  split
  · exact h
  · intro p hp
    rcases List.mem_append.mp hp with hp | hp
    · exact h p hp
    · rw [List.mem_singleton.mp hp]; exact ha
theorem read_bits (ml fl : List Str) (qs : List Ask) (rs : List Nat) : Bits (readS ml fl qs rs).1 := by
  refine snoc_ind (P := fun rs => Bits (readS ml fl qs rs).1) (fun p hp => by rw [List.mem_singleton.mp hp]; exact Nat.le_refl _) (fun l a ih => ?_) rs
  rw [readS_snoc]
  unfold rStep
  cases qs[a]? with
  | none => exact ih
  | some q => exact ih.next _ (ans_le ..)
theorem cNext_len (c : List (Str × Nat)) (n : Str) (a : Nat) : (cNext c n a).length ≤ c.length + 1 := by
  unfold cNext; split <;> simp
theorem read_len (ml fl : List Str) (qs : List Ask) (rs : List Nat) : (readS ml fl qs rs).1.length ≤ rs.length + 1 := by
  refine snoc_ind (P := fun rs => (readS ml fl qs rs).1.length ≤ rs.length + 1) (by simp [readS]) (fun l a ih => ?_) rs
  rw [readS_snoc]
  unfold rStep
  cases qs[a]? with
  | none => simp; omega
  | some q => have := cNext_len (readS ml fl qs l).1 (nameS q.k q.r) (askA ml fl q); simp; omega
theorem Sw.len {qs : List Ask} {t : Nat} {pool : List Nat} {dn : List (Nat × Nat)} (S : Sw qs t pool dn) : pool.length + dn.length ≤ 8 := by
  have l1 := S.perm.length_eq
  have l4 := List.length_filter_le (fun i => decide (hr qs i < t)) (List.range 8)
  simp at l1 l4
  omega
end
section
set_option maxHeartbeats 1000000

theorem fillSW (w : World) (h : Heap) : (Mine.hd.heap_1 w.params).In h → PySem.Challenge.rw_oc0123_01.most = some 63 := by
  k_fill
  intro _; rfl

local macro_rules | `(tactic| ktr_rel) => `(tactic| (repeat' (first
  | (walk_at "kA"; (fail_if_success (with_reducible first | refine gFor ?_ | refine gWhile ?_ | refine gIf ?_ | refine gCallref ?_ | refine gCallb ?_ | refine gComp ?_ | refine gCompA ?_ | refine gIfexp ?_ | refine gTruthy ?_ | refine gSplit ?_ | refine gSlice ?_ | refine gCmpref ?_ | refine gSetitem ?_)); walk1)
  | walk_at "kB")))

inductive SwJ (prog : Program) (w : World) (g : Heap) (L x dx S D G nl tl hp : Addr) (oc os : Obj) (ys : List Value) (kk : Nat) (t1 t2 t3 : Tok) (qs : List Ask) (ml fl : List Str) (t : Nat) (m₁ : Str → Option Value) (news₁ : List (Addr × Obj)) : Prop where
  | mk (m1 : m₁ "names" = some (.ref nl)) (m2 : m₁ "reader" = some (.ref x)) (m3 : m₁ "told" = some (.ref tl)) (m4 : m₁ "heap" = some (.ref hp)) (oH : Obj) (vH : Option Value) (tv : List Value) (kt : Nat) (its : List It) (kh : Nat) (done : List (Nat × Nat)) (rest : List (Addr × Obj)) (kvs : List (Str × Value))
    (e : news₁ = (hp, W.listOf (vals its).toArray kh) :: (tl, W.listOf (List.toArray tv) kt) :: (L + 2, oH) :: (L + 1, oc) :: rest) (hoH : oH.data = .cell vH) (hR : RestOk prog w L x dx S D G os ys kk t1 t2 t3 kvs rest)
    (hC : CacheIs kvs (readS ml fl qs (done.map (·.2))).1) (hTo : ToldR qs rest tv done (readS ml fl qs (done.map (·.2))).2) (hHO : HO its) (hIts : ItsOf qs its) (hTup : ∀ y ∈ its, TupIn g rest y) (hSw : Sw qs t (its.map itN) done)
inductive SwC (qs : List Ask) (t k : Nat) (ys : List Value) (h : Heap) : Prop where
  | mk (cm : List It) (e : ys = vals cm) (hT : ∀ x ∈ cm, TupAt h x) (hI : ItsOf qs cm) (hm : cm.map itN = (List.range k).filter fun i => decide (hr qs i = t))
inductive SwK (nl x tl hp Dc : Addr) (tail : List (Addr × Obj)) (its cr : List It) (k : Nat) (m₁ : Str → Option Value) (news₁ : List (Addr × Obj)) : Prop where
  | mk (m1 : m₁ "names" = some (.ref nl)) (m2 : m₁ "reader" = some (.ref x)) (m3 : m₁ "told" = some (.ref tl)) (m4 : m₁ "heap" = some (.ref hp)) (m5 : m₁ "come" = some (.ref Dc)) (its' : List It) (kh' : Nat)
    (e : news₁ = (hp, W.listOf (vals its').toArray kh') :: tail) (hHO : HO its') (hp : its'.Perm (its ++ cr.take k))
inductive SwX (g : Heap) (L hp : Addr) (m : Str → Option Value) (rs : List (Addr × Obj)) (pool : List It) (s : Shared) (v : Value) (s' : Shared) : Prop where
  | mk (mi : It) (its9 : List It) (kh9 : Nat) (h9 : Heap) (tk9 : Nat) (ev : v = .ref mi.a) (e : s' = { s with heap := h9, toks := tk9 }) (F : Fr g L h9 m) (N : News g L h9 ((hp, W.listOf (vals its9).toArray kh9) :: rs)) (hHO : HO its9) (hpm : (mi :: its9).Perm pool) (hle : ∀ z ∈ its9, mi.le z)
theorem swept_ok {prog : Program} {w : World} {A : Around} {s : Shared} {h₀ : Heap} {mean : ExcName → Option Value} {mg mb : Str → Option Value} {loose : List Str} {E : Value → Shared → Prop} {Q : Value → Shared → Prop}
    (X : (Mine.hd.heap_1 w.params).In h₀) (T : Top Mine.view loose mean mg mb h₀) (kp : ∀ b o, h₀.get? b = some o → s.heap.get? b = some o)
    {al nl x dx S D G : Addr} {qs : List Ask} {nv : List Value} {kn : Nat} {ml fl : List Str} {kvs : List (Str × Value)} {hO : Heap} (kO : ∀ b o, hO.get? b = some o → s.heap.get? b = some o) (hnO : ∀ a ∈ [G, x, dx, S, D], hO.get? a = none) (hal : AsksAt hO al qs) (hqz : qs.length = 8)
    (hnl : hO.get? nl = some (W.listOf nv.toArray kn)) (hnv : StrsAre nv (qs.map fun q => nameS q.k q.r)) (hI : IgnAt prog w s.heap x dx S D G ml fl kvs) (hc : CacheIs kvs [("<string>", 1)])
    (hn : ∀ a ∈ [x, dx, S, D, G], h₀.get? a = none) (hmo : ∀ m ∈ ml, m = "-.rws" ∨ m = "d") (hfo : ∀ d ∈ fl, folderOk d)
    (hhd : A.handled = none) (hroom : A.depth + 30 < recursionLimit) (hunit : A.units + 150 < cLine)
    (h : ∀ (h' : Heap) (tk : Nat) B tv k dn kvs', (∀ b o, b ≠ G → s.heap.get? b = some o → h'.get? b = some o) → s.heap.get? B = none → h'.get? B = some (W.listOf (List.toArray tv) k) → ToldH qs h' tv dn (readS ml fl qs (dn.map (·.2))).2 → Placing qs dn → IgnAt prog w h' x dx S D G ml fl kvs' → CacheIs kvs' (readS ml fl qs (dn.map (·.2))).1 → Q (.ref B) { s with heap := h', toks := tk }) :
    wpAny (model prog w) A (call (.ref 198) [.ref al, .ref nl, .ref x]) Q E s := by
  obtain ⟨Ii, ⟨t1, t2, t3, Id⟩, ⟨os, IS, hS⟩, ⟨ys, kk, IDd, hys⟩, ⟨oG, IG, hG⟩, ⟨e1, e2, e3, e4⟩, nm⟩ := hI
  refine' enterC (binds := [("asks", .ref al), ("names", .ref nl), ("reader", .ref x)]) [(G, oG), (x, instObj 168 dx), (dx, ignDict w S D G t1 t2 t3), (S, os), (D, W.listOf ys.toArray kk)] X T kp ?hm ?ho ?hcd (by first | exact dr hroom | omega) ?hbind ?hkind ?hnd ?hco ?hgen ?hk ?_
  case ho => k_is
  case hcd => k_is
  case hbind => exact BindsTo.of_eq rfl
  case hkind => rfl
  case hnd => decide
  case hco => rfl
  case hgen => rfl
  case hk => rfl
  case hm =>
    intro q hq
    simp only [List.mem_cons, List.not_mem_nil, or_false] at hq
    rcases hq with rfl | rfl | rfl | rfl | rfl
    · exact ⟨IG, hn _ (by simp)⟩
    · exact ⟨Ii, hn _ (by simp)⟩
    · exact ⟨Id, hn _ (by simp)⟩
    · exact ⟨IS, hn _ (by simp)⟩
    · exact ⟨IDd, hn _ (by simp)⟩
  intro g L h₁ tk cells F N C X' T' kg lm
  clear X T kp
  obtain ⟨oH, oc, rfl, hoH, hoc⟩ := C.two
  replace hoc : oc.data = .cell (some (.ref al)) := hoc
  replace hoH : oH.data = .cell none := hoH
  obtain ⟨rest, hrest⟩ : ∃ rest, rest = [(G, oG), (x, instObj 168 dx), (dx, ignDict w S D G t1 t2 t3), (S, os), (D, W.listOf ys.toArray kk)] := ⟨_, rfl⟩
  have kgO : ∀ b o, hO.get? b = some o → g.get? b = some o := fun b o e => kg b o (fun hb => by rw [hnO b hb] at e; cases e) (kO b o e)
  rw [← hrest] at N lm
  replace N : News g L h₁ ((L + 2, oH) :: (L + 1, oc) :: rest) := N
  replace F : Fr g L h₁ (fun y => if y = "reader" then some (.ref x) else if y = "names" then some (.ref nl) else none) := F
  have hR0 : RestOk prog w L x dx S D G os ys kk t1 t2 t3 kvs rest := by
    refine ⟨by simp [hrest], by simp [hrest], by simp [hrest], by simp [hrest], ⟨oG, by simp [hrest], hG⟩, fun q hq => .inl (lm q hq)⟩
  have hin : ∀ b ∈ [G, x, dx, S, D], ∃ o, (b, o) ∈ rest := by
    intro b hb
    rw [hrest]
    simp only [List.mem_cons, List.not_mem_nil, or_false] at hb
    rcases hb with rfl | rfl | rfl | rfl | rfl
    · exact ⟨_, .head _⟩
    · exact ⟨_, .tail _ (.head _)⟩
    · exact ⟨_, .tail _ (.tail _ (.head _))⟩
    · exact ⟨_, .tail _ (.tail _ (.tail _ (.head _)))⟩
    · exact ⟨_, .tail _ (.tail _ (.tail _ (.tail _ (.head _))))⟩
  clear C hrest
  obtain ⟨⟨ka, hal⟩, hqs⟩ := hal
  have halg := kgO _ _ hal
  have hnlg := kgO _ _ hnl
  ktr_rel
  rename Fr _ _ _ _ => F
  rename News _ _ _ _ => N
  rename_i tl h2a lt1 h2b tk2 hp h3a lt2 h3b
  have d1 : @LT.lt Nat _ (L + 2) tl := lt1.1
  have d2 : @LT.lt Nat _ tl hp := lt2.1
  have hmL : ∀ b ∈ [G, x, dx, S, D], @LT.lt Nat _ b L := by
    intro b hb
    obtain ⟨o, ho⟩ := hin b hb
    exact lm _ ho
  clear lt1 lt2 lm
  refine wpAny_For ?_
  ktr_rel
  rename IsRange _ _ _ _ _ _ _ _ => hR
  rename Fr _ _ _ _ => F
  rename News _ _ _ _ => N
  refine loop_rangeT (n := 14) (by exact hhd) F N hR (by decide)
    (SwJ prog w g L x dx S D G nl tl hp oc os ys kk t1 t2 t3 qs ml fl) ?h0 ?turn ?done
  case h0 => exact ⟨rfl, rfl, rfl, rfl, oH, _, [], 0, [], 0, [], rest, kvs, rfl, hoH, hR0, hc, .nil, (fun i a b _ _ h => by simp at h), (fun _ h => nomatch h), (fun _ h => nomatch h), .zero qs⟩
  case turn =>
    rintro t tv0 it oi h4 tk4 m4 news4 ht ⟨m1, m2, m3, m4', oH4, vH4, tv, kt, its, kh, dn, rest4, kvs4, rfl, hoH4, hR4, hC4, hTo4, hHO, hIts, hTup, hSw⟩ hn4 hnT F4 N4
    clear F N
    have hrL : ∀ q ∈ rest4, @Ne Nat q.1 (L + 2) ∧ @Ne Nat q.1 hp ∧ @Ne Nat q.1 tl := by
      intro q hq
      have z := N4 q (.tail _ (.tail _ (.tail _ (.tail _ (.tail _ hq)))))
      rcases hR4.low q hq with e | ⟨xs, n, e⟩
      · exact ⟨by omega, by omega, by omega⟩
      · refine ⟨fun e2 => ?_, fun e2 => ?_, fun e2 => ?_⟩
        · have y := (N4 _ (.tail _ (.tail _ (.tail _ (.head _))))).1
          rw [← e2, z.1, e] at y
          cases y
          cases hoH4
        · have y := (N4 _ (.tail _ (.head _))).1
          rw [← e2, z.1, e] at y
          simp [W.listOf] at y
        · have y := (N4 _ (.tail _ (.tail _ (.head _)))).1
          rw [← e2, z.1, e] at y
          simp [W.listOf] at y
    have hit : @Ne Nat hp it ∧ @Ne Nat tl it ∧ @Ne Nat (L + 2) it := ⟨hn4 _ (.head _), hn4 _ (.tail _ (.head _)), hn4 _ (.tail _ (.tail _ (.head _)))⟩
    ktr_rel
    refine storeX_C (c := L + 2) F4 N4 rfl (.tail (Ne.symm hit.2.2) (.tail (by show @Ne Nat hp (L + 2); omega) (.tail (by show @Ne Nat tl (L + 2); omega) (.head ?_)))) hoH4 fun h5 o5 F5 N5 hd5 => ?_
    · intro q hq
      revert q hq
      refine fC ?_ (fun q hq => ?_)
      · show @Ne Nat (L + 1) (L + 2); omega
      · exact (hrL q hq).1
    clear F4 N4 hoH4
    ktr_rel
    refine comp_assignC (cl := [("hour", L + 2), ("asks", L + 1)]) rfl rfl (by decide) rfl (by decide) rfl rfl ?_
    ktr_rel
    rename IsRange _ _ _ _ _ _ _ _ => hR
    rename Fr _ _ _ _ => F
    rename News _ _ _ _ => N
    refine comp_rangeA (n := 8) rfl (by exact hhd) F N hR (by decide) (SwC qs t) (fun h _ => ⟨[], rfl, (fun _ h => nomatch h), (fun _ h => nomatch h), rfl⟩) ?hkeep ?item ?post
    case hkeep =>
      rintro i ys h h' ⟨cm, rfl, hT, hI, hm⟩ hk
      exact ⟨cm, rfl, fun x hx => (hT x hx).keeps' hk, hI, hm⟩
    case item =>
      rintro C i v ys h6 tk6 m6 ot ⟨hi, tv6, rfl⟩ ⟨cm, rfl, hTc, hIc, hmc⟩ F6 N6 k6
      clear F N
      have F60 := F6.ns
      replace N6 : News g C h6 ((L + 2, o5) :: (L + 1, oc) :: ot) := fun q hq => N6 q (by
        revert q hq
        refine fC ?_ (fC ?_ (fun q hq => ?_))
        · simp
        · simp
        · exact List.mem_append_right _ hq)
      obtain ⟨q, hq⟩ : ∃ q, qs[i]? = some q := ⟨qs[i]'(by omega), by simp⟩
      obtain ⟨hqa, ok⟩ := hqs q (List.mem_of_getElem? hq)
      have hqag := hqa.keeps (h' := g) fun o e => kgO _ _ e
      obtain ⟨a1, a2, a3, a4, a5, nq, hqq⟩ := id hqag
      have hfl : (List.range (i + 1)).filter (fun i => decide (hr qs i = t)) = (List.range i).filter (fun i => decide (hr qs i = t)) ++ if q.h = t then [i] else [] := by
        rw [List.range_succ, List.filter_append]
        congr 1
        simp only [List.filter_cons, List.filter_nil, hr_of hq, decide_eq_true_eq]
      have keepT : ∀ h9 m9 ns, Fr g C h9 m9 → News g C h9 ns → (∀ p ∈ ot, p ∈ ns) → ∀ y ∈ cm, TupAt h9 y := by
        intro h9 m9 ns F9 N9 hs y hy
        obtain ⟨ta, tb, nn, e⟩ := hTc y hy
        rcases k6.2 y.a _ (Ns.notT F60 e ⟨_, _, rfl⟩) e with z | z
        · exact ⟨ta, tb, nn, F9.keep _ _ z⟩
        · exact ⟨ta, tb, nn, (N9 _ (hs _ z)).1⟩
      ktr_rel
      refine cstore F6 N6 fun h7 F7 N7 => ?_
      clear F6 N6
      refine ctest1 ?_
      ktr_rel
      refine sub_list (v := .ref q.a) (F7.keep _ _ halg) (by first | exact Int.natCast_nonneg _ | decide | omega) (by first | decide | exact n63 (by assumption) | omega) (by simp [hq]) ?_
      ktr_rel
      refine sub_tup (vs := [.int q.h a1, .int q.k a2, .int q.r a3, .int q.x a4, fileV q.f a5]) (F7.keep _ _ hqq) (by first | exact Int.natCast_nonneg _ | decide | omega) (by first | decide | exact n63 (by assumption) | omega) rfl ?_
      ktr_rel
      rename Fr _ _ _ _ => F
      rename News _ _ _ _ => N
      by_cases hqt : q.h = t
      · rw [if_pos (by simp; omega)]
        rw [if_pos hqt] at hfl
        ktr_rel
        refine sub_list (v := .ref q.a) (F.keep _ _ halg) (by first | exact Int.natCast_nonneg _ | decide | omega) (by first | decide | exact n63 (by assumption) | omega) (by simp [hq]) ?_
        ktr_rel
        refine mode_ok (h₀ := g) X' T' F.keep (q := q) (hqag.keeps fun o e => F.keep _ _ e) ok (by show A.depth + 1 + 1 < _; exact dl hroom) (by show A.units + 3 + 9 < _; exact dl hunit) fun h8 t8 tk8 k8 => ?_
        have F8 := frKeep F k8
        have N8 := newsKeep N k8
        clear F N
        ktr_rel
        refine imode_ok (h₀ := g) X' T' F8.keep (q := q) ok (by show A.depth + 1 + 1 < _; exact dl hroom) (by show A.units + 3 + 9 < _; exact dl hunit) fun h9 t9 tk9 k9 => ?_
        have F9 := frKeep F8 k9
        have N9 := newsKeep N8 k9
        clear F8 N8
        ktr_rel
        rename Fr _ _ _ _ => F
        rename News _ _ _ _ => N
        refine ⟨_, _, _, _, rfl, F, N, fun p hp => by simp [hp], cm ++ [⟨_, (q.rights : Int), (i : Int)⟩], (by simp only [vals, List.map_append, List.map_cons, List.map_nil]; rfl), ?_, ?_, ?_⟩
        · intro y hy
          rcases List.mem_append.mp hy with hy | hy
          · exact keepT _ _ _ F N (fun p hp => by simp [hp]) y hy
          · cases List.mem_singleton.mp hy
            exact ⟨_, _, _, (N _ (.head _)).1⟩
        · intro y hy
          rcases List.mem_append.mp hy with hy | hy
          · exact hIc y hy
          · cases List.mem_singleton.mp hy
            exact ⟨by simp [itN]; omega, by simp [itN], by simp [itN, rt_of hq]⟩
        · rw [hfl, List.map_append, hmc]
          simp [itN]
      · rw [if_neg (by simp; omega)]
        rw [if_neg hqt, List.append_nil] at hfl
        ktr_rel
        refine ⟨_, _, _, _, rfl, F, N, fun p hp => by simp [hp], cm, rfl, keepT _ _ _ F N fun p hp => by simp [hp], hIc, ?_⟩
        rw [hfl, hmc]
    case post =>
      rintro Dc h6 tk6 ys6 k6 F6 N6 hnD hDn ⟨cm, rfl, hTc, hIc, hmc⟩ hk6
      clear F N hDn hk6
      replace F6 : Fr g L h6 (fun z => if z = "come" then some (.ref Dc) else m4 z) := F6
      obtain ⟨ot, No, hot, hoT⟩ := tups_ex F6
      obtain ⟨rest5, hr5⟩ : ∃ r, r = rest4 ++ ot := ⟨_, rfl⟩
      have hR5 : RestOk prog w L x dx S D G os ys kk t1 t2 t3 kvs4 rest5 := hR4.app (fun q hq => by rw [hr5]; exact List.mem_append_left _ hq) (fun q hq => by rw [hr5] at hq; exact (List.mem_append.mp hq).imp id (hot q))
      have hcmI : ∀ y ∈ cm, TupIn g rest5 y := fun y hy => by
        obtain ⟨ta, tb, nn, e⟩ := hTc y hy
        rcases hoT _ _ ⟨_, _, rfl⟩ e with z | z
        · exact ⟨ta, tb, nn, .inl z⟩
        · exact ⟨ta, tb, nn, .inr (by rw [hr5]; exact List.mem_append_right _ z)⟩
      have hitI : ∀ y ∈ its, TupIn g rest5 y := fun y hy => (hTup y hy).mono fun q hq _ => by rw [hr5]; exact List.mem_append_left _ hq
      replace N6 : News g L h6 ((hp, W.listOf (vals its).toArray kh) :: (Dc, W.listOf (vals cm).toArray k6) :: (it, oi) :: (tl, W.listOf tv.toArray kt) :: (L + 2, o5) :: (L + 1, oc) :: rest5) := fun q hq => by
        revert q hq
        refine fC ?_ (fC ?_ (fC ?_ (fC ?_ (fC ?_ (fC ?_ (fun q hq => ?_))))))
        · exact N6 _ (.tail _ (.tail _ (.head _)))
        · exact N6 _ (.head _)
        · exact N6 _ (.tail _ (.head _))
        · exact N6 _ (.tail _ (.tail _ (.tail _ (.head _))))
        · exact N6 _ (.tail _ (.tail _ (.tail _ (.tail _ (.head _)))))
        · exact N6 _ (.tail _ (.tail _ (.tail _ (.tail _ (.tail _ (.head _))))))
        · rw [hr5] at hq
          rcases List.mem_append.mp hq with hq | hq
          · exact N6 _ (.tail _ (.tail _ (.tail _ (.tail _ (.tail _ (.tail _ hq))))))
          · exact No q hq
      have hr45 : ∀ q ∈ rest4, q ∈ rest5 := fun q hq => by rw [hr5]; exact List.mem_append_left _ hq
      have cml : cm.length ≤ 8 := by
        have := congrArg List.length hmc
        have l4 := List.length_filter_le (fun i => decide (hr qs i = t)) (List.range 8)
        simp at this l4
        omega
      have hDh : @Ne Nat Dc hp := Ne.symm (hnD _ (.tail _ (.head _)))
      have hrL5 : ∀ q ∈ rest5, @Ne Nat q.1 hp ∧ @Ne Nat q.1 tl := by
        intro q hq
        rw [hr5] at hq
        rcases List.mem_append.mp hq with hq | hq
        · exact ⟨(hrL q hq).2.1, (hrL q hq).2.2⟩
        · obtain ⟨xs, n, e⟩ := hot q hq
          have z := (No q hq).1
          refine ⟨fun e2 => ?_, fun e2 => ?_⟩
          · have y := (N6 _ (.head _)).1
            rw [← e2, z, e] at y
            simp [W.listOf] at y
          · have y := (N6 _ (.tail _ (.tail _ (.tail _ (.head _))))).1
            rw [← e2, z, e] at y
            simp [W.listOf] at y
      have hr5it : ∀ q ∈ rest5, @Ne Nat q.1 it := fun q hq => by
        rw [hr5] at hq
        rcases List.mem_append.mp hq with hq | hq
        · exact hn4 q (.tail _ (.tail _ (.tail _ (.tail _ hq))))
        · intro e2
          obtain ⟨xs, n, e⟩ := hot q hq
          have z := (No q hq).1
          have y := (N6 _ (.tail _ (.tail _ (.head _)))).1
          rw [← e2, z] at y
          cases y
          exact hnT ⟨_, _, e⟩
      have hlenS := hSw.len
      rw [List.length_map] at hlenS
      clear hTc hoT hot No hr5 hrL hTup
      ktr_rel
      refine wpAny_For ?_
      ktr_rel
      rename Fr _ _ _ _ => F
      rename News _ _ _ _ => N
      refine' kms_slice_lit F N (News.isList N (.tail _ (.head _))) (.int _ _) .none (pick_drop _) ?_ ?s ?t ?z
      case s => with_unfolding_all rfl
      case t => kmk_pure
      case z => rw [sizeLine_eq]; simp; omega
      intro Ds h7 F7 N7 l7
      clear F N
      simp only [List.toList_toArray] at N7
      rw [← List.map_drop] at N7
      have hDs : ∀ q ∈ (hp, W.listOf (vals its).toArray kh) :: (Dc, W.listOf (vals cm).toArray k6) :: (it, oi) :: (tl, W.listOf tv.toArray kt) :: (L + 2, o5) :: (L + 1, oc) :: rest5, @LT.lt Nat _ q.1 Ds := l7
      obtain ⟨tail, htail⟩ : ∃ r, r = (Ds, W.listOf (List.map (fun x : It => Value.ref x.a) (cm.drop 1)).toArray 0) :: (Dc, W.listOf (vals cm).toArray k6) :: (it, oi) :: (tl, W.listOf tv.toArray kt) :: (L + 2, o5) :: (L + 1, oc) :: rest5 := ⟨_, rfl⟩
      have htl : ∀ q ∈ tail, @Ne Nat q.1 hp := by
        rw [htail]
        intro q hq
        revert q hq
        refine fC ?_ (fC ?_ (fC ?_ (fC ?_ (fC ?_ (fC ?_ (fun q hq => ?_))))))
        · exact Ne.symm (Nat.ne_of_lt (hDs _ (.head _)))
        · exact hDh
        · exact Ne.symm hit.1
        · show @Ne Nat tl hp; omega
        · show @Ne Nat (L + 2) hp; omega
        · show @Ne Nat (L + 1) hp; omega
        · exact (hrL5 q hq).1
      have hrt : ∀ q ∈ rest5, q ∈ tail := fun q hq => by rw [htail]; exact .tail _ (.tail _ (.tail _ (.tail _ (.tail _ (.tail _ hq)))))
      have N8 : News g L h7 ((hp, W.listOf (vals its).toArray kh) :: tail) := fun q hq => by
        rw [htail] at hq
        revert q hq
        refine fC ?_ (fC ?_ (fun q hq => ?_))
        · exact N7 _ (.tail _ (.head _))
        · exact N7 _ (.head _)
        · exact N7 _ (.tail _ (.tail _ hq))
      clear N7
      ktr_rel
      refine loop_list (by exact hhd) F7 N8 ⟨_, (N8 _ (.tail _ (by rw [htail]; exact .head _))).1, rfl, 0, rfl⟩ (fun it v s1 o vs Q E _ _ _ q => go_name it 0 v s1 Q E q)
        (SwK nl x tl hp Dc tail its (cm.drop 1)) ?h02 ?turn2 ?done2
      case h02 => exact ⟨by ktr_unf, by ktr_unf, by ktr_unf, by ktr_unf, by ktr_unf, its, kh, rfl, hHO, by simp⟩
      case turn2 =>
        rintro k v it2 oi2 h8 tk8 m8 news8 hv ⟨c1, c2, c3, c4, c5, its', kh', rfl, hHO', hpm⟩ hn8 hl8 hL8 F8 N8'
        clear F7 N8
        obtain ⟨y, hy, rfl⟩ : ∃ y, (cm.drop 1)[k]? = some y ∧ v = .ref y.a := by
          rw [List.getElem?_toArray, List.getElem?_map] at hv
          cases e : (cm.drop 1)[k]? with
          | none => rw [e] at hv; cases hv
          | some y => rw [e] at hv; exact ⟨y, rfl, (Option.some.inj hv).symm⟩
        have hyc : y ∈ cm := List.mem_of_mem_drop (List.mem_of_getElem? hy)
        have hall : ∀ z ∈ its', TupIn g rest5 z := fun z hz => by
          rcases List.mem_append.mp (hpm.mem_iff.mp hz) with q | q
          · exact hitI z q
          · exact hcmI z (List.mem_of_mem_drop (List.mem_of_mem_take q))
        have hz' : its'.length < 900 := by
          have := hpm.length_eq
          have l2 := List.length_take_le k (cm.drop 1)
          simp at this l2
          omega
        have nothp : ∀ h9 o9, h9.get? hp = some o9 → (∃ xs n, o9 = W.listOf xs n) → ∀ z, TupAt h9 z → z.a ≠ hp := by
          rintro h9 o9 e ⟨xs, n, rfl⟩ z ⟨_, _, _, e2⟩ rfl
          rw [e] at e2
          simp [W.listOf] at e2
        ktr_rel
        refine wpAny_If ?_
        ktr_rel
        rename Fr _ _ _ _ => F
        rename News _ _ _ _ => N
        have hhp := N _ (.tail _ (.head _))
        have hTA : ∀ z, TupIn g rest5 z → TupAt _ z := fun z hz => hz.at F.keep fun q hq => (N q (.tail _ (.tail _ (hrt q hq)))).1
        refine heappush_ok X' T' F.keep hhp.1 hhp.2.2 (fun z hz => hTA z (hall z hz)) (fun z hz => nothp _ _ hhp.1 ⟨_, _, rfl⟩ z (hTA z (hall z hz))) hz' (x := y) (hTA y (hcmI y hyc)) (nothp _ _ hhp.1 ⟨_, _, rfl⟩ y (hTA y (hcmI y hyc))) (by show A.depth + 1 + 1 < _; exact dl hroom) (by show A.units + 3 + 6 < _; exact dl hunit) fun h9 n9 tk9 k9 ho9 => ?_
        have F9 := frWr (wr := [hp]) F (fun b o hb e => k9 b o (by simpa using hb) e) (by simpa using Ne.symm hhp.2.1) (by simpa using hhp.2.2)
        have N9 : News g L h9 ((it2, oi2) :: (hp, W.listOf (vals (sd (its' ++ [y]) its'.length y)).toArray n9) :: tail) := by
          refine newsPut2 N (.tail _ (.head _)) k9 ho9 fun q hq => ?_
          revert q hq
          refine fC ?_ (fC ?_ (fun q hq => ?_))
          · exact .inr ⟨Ne.symm (hn8 _ (.head _)), .head _⟩
          · exact .inl rfl
          · exact .inr ⟨htl q hq, .tail _ (.tail _ hq)⟩
        clear F N hhp hTA
        obtain ⟨p1, p2⟩ := push_ok hHO' y
        ktr_rel
        refine ⟨_, _, _, _, rfl, F9, N9, ?_, ?_, by ktr_unf, by ktr_unf, by ktr_unf, by ktr_unf, by ktr_unf, _, _, rfl, p1, ?_⟩
        · intro q hq
          revert q hq
          refine fC ?_ (fun q hq => ?_)
          · exact hn8 (hp, W.listOf (vals its').toArray kh') (.head _)
          · exact hn8 q (.tail _ hq)
        · exact ⟨_, (N9 _ (.tail _ (.tail _ (by rw [htail]; exact .head _)))).1, rfl, 0, rfl⟩
        · rw [List.take_add_one, hy]
          refine p2.trans ?_
          have := hpm.append_right [y]
          simpa [List.append_assoc] using this
      case done2 =>
        rintro h8 tk8 m8 news8 F8 N8' ⟨c1, c2, c3, c4, c5, its', kh', rfl, hHO', hpm⟩
        clear F7 N8
        rw [List.take_of_length_le (by simp)] at hpm
        replace N8' : News g L h8 ((hp, W.listOf (vals its').toArray kh') :: (Dc, W.listOf (vals cm).toArray k6) :: (it, oi) :: (tl, W.listOf tv.toArray kt) :: (L + 2, o5) :: (L + 1, oc) :: rest5) := fun q hq => by
          revert q hq
          refine fC ?_ (fun q hq => ?_)
          · exact N8' _ (.head _)
          · exact N8' q (.tail _ (by rw [htail]; exact .tail _ hq))
        have hall : ∀ z ∈ its', TupIn g rest5 z := fun z hz => by
          rcases List.mem_append.mp (hpm.mem_iff.mp hz) with q | q
          · exact hitI z q
          · exact hcmI z (List.mem_of_mem_drop q)
        have hz' : its'.length < 900 := by
          have := hpm.length_eq
          simp at this
          omega
        clear htl hrt htail
        ktr_rel
        refine if_rule (cm ≠ [] ∨ its' ≠ []) ?ht ?h1 ?h2
        case ht =>
          ktr_rel
          refine truthy_its (N8' _ (.tail _ (.head _))).1 (by omega) fun tk9 => ?_
          cases cm with
          | cons c cr =>
            rw [if_pos (show (!(c :: cr).isEmpty) = true from rfl)]
            exact ⟨by simp, _, rfl⟩
          | nil =>
            rw [if_neg (by simp)]
            ktr_rel
            refine truthy_its (N8' _ (.head _)).1 (by omega) fun tk10 => ?_
            cases its' with
            | nil =>
              rw [if_neg (by simp)]
              ktr_rel
              exact ⟨by simp, _, rfl⟩
            | cons y r =>
              rw [if_pos (show (!(y :: r).isEmpty) = true from rfl)]
              exact ⟨by simp, _, rfl⟩
        case h1 =>
          intro tk9 hC
          ktr_rel
          refine wpAny_mono (Q := SwX g L hp m8 ((it, oi) :: (tl, W.listOf tv.toArray kt) :: (L + 2, o5) :: (L + 1, oc) :: rest5) (its ++ cm) s) ?ex ?rest (fun _ _ e => e)
          case ex =>
            have nothp : ∀ z, TupAt h8 z → z.a ≠ hp := by
              rintro z ⟨_, _, _, e2⟩ rfl
              rw [(N8' _ (.head _)).1] at e2
              simp [W.listOf] at e2
            have hTA : ∀ z, TupIn g rest5 z → TupAt h8 z := fun z hz => hz.at F8.keep fun q hq => (N8' q (.tail _ (.tail _ (.tail _ (.tail _ (.tail _ (.tail _ hq))))))).1
            have fin : ∀ (mi : It) (its9 : List It) (kh9 : Nat) (h9 : Heap) (tk9 : Nat), (∀ b o, b ≠ hp → h8.get? b = some o → h9.get? b = some o) → h9.get? hp = some (W.listOf (vals its9).toArray kh9) → HO its9 → (mi :: its9).Perm (its ++ cm) → (∀ z ∈ its9, mi.le z) →
                SwX g L hp m8 ((it, oi) :: (tl, W.listOf tv.toArray kt) :: (L + 2, o5) :: (L + 1, oc) :: rest5) (its ++ cm) s (.ref mi.a) { s with heap := h9, toks := tk9 } := by
              intro mi its9 kh9 h9 tk9 k9 ho9 q1 q2 q3
              have hhp := N8' _ (.head _)
              refine ⟨mi, its9, kh9, h9, tk9, rfl, rfl, frWr (wr := [hp]) F8 (fun b o hb e => k9 b o (by simpa using hb) e) (by simpa using Ne.symm hhp.2.1) (by simpa using hhp.2.2), ?_, q1, q2, q3⟩
              refine newsPut2 N8' (.head _) k9 ho9 fun q hq => ?_
              revert q hq
              refine fC ?_ (fun q hq => ?_)
              · exact .inl rfl
              refine .inr ⟨?_, .tail _ (.tail _ hq)⟩
              revert q hq
              refine fC ?_ (fC ?_ (fC ?_ (fC ?_ (fun q hq => ?_))))
              · exact Ne.symm hit.1
              · show @Ne Nat tl hp; omega
              · show @Ne Nat (L + 2) hp; omega
              · show @Ne Nat (L + 1) hp; omega
              · exact (hrL5 q hq).1
            refine wpAny_IfExp ?_
            ktr_rel
            refine truthy_its (N8' _ (.tail _ (.head _))).1 (by omega) fun tk9 => ?_
            cases cm with
            | cons c cr =>
              rw [if_pos (show (!(c :: cr).isEmpty) = true from rfl)]
              ktr_rel
              refine heappushpop_ok X' T' F8.keep (N8' _ (.head _)).1 (N8' _ (.head _)).2.2 (fun z hz => hTA z (hall z hz)) (fun z hz => nothp z (hTA z (hall z hz))) hz' (x := c) (hTA c (hcmI c (.head _))) (nothp c (hTA c (hcmI c (.head _)))) (by exact hhd) (by show A.depth + 1 + 2 < _; exact dl hroom) (by show A.units + 3 + 9 < _; exact dl hunit) fun h9 n9 tk9 k9 ho9 => ?_
              obtain ⟨p1, p2, p3⟩ := pp_ok hHO' c
              exact fin _ _ _ _ _ k9 ho9 p1 (p2.trans ((hpm.cons c).trans List.perm_middle.symm)) p3
            | nil =>
              rw [if_neg (by simp)]
              have hne : its' ≠ [] := by
                rcases hC with q | q
                · exact absurd rfl q
                · exact q
              obtain ⟨xs, y, rfl⟩ : ∃ xs y, its' = xs ++ [y] := ⟨its'.dropLast, its'.getLast hne, (List.dropLast_concat_getLast hne).symm⟩
              ktr_rel
              refine heappop_ok X' T' F8.keep (N8' _ (.head _)).1 (N8' _ (.head _)).2.2 (fun z hz => hTA z (hall z hz)) (fun z hz => nothp z (hTA z (hall z hz))) (by simp at hz'; omega) (by show A.depth + 1 + 2 < _; exact dl hroom) (by show A.units + 3 + 9 < _; exact dl hunit) fun h9 n9 tk9 k9 ho9 => ?_
              obtain ⟨p1, p2, p3⟩ := pop_ok hHO'
              exact fin _ _ _ _ _ k9 ho9 p1 (p2.trans (by simpa using hpm)) p3
          case rest =>
            rintro v s' ⟨mi, its9, kh9, h9, tk9, rfl, rfl, F9, N9, hHO9, hpm9, hle9⟩
            clear F8 N8'
            have hmi : mi ∈ its ++ cm := hpm9.mem_iff.mp (.head _)
            have hmT : TupIn g rest5 mi := (List.mem_append.mp hmi).elim (hitI mi) (hcmI mi)
            have hmO : ItOf qs mi (itN mi) := (List.mem_append.mp hmi).elim (hIts mi) (hIc mi)
            obtain ⟨Sw9, hIts9, _⟩ := hSw.heap (hr_lt fun q hq => (hqs q hq).2) hmc hIts hIc hpm9 hle9
            obtain ⟨u1, u2, nu, hmt⟩ := hmT
            obtain ⟨hi8, hmi1, hmi2⟩ := hmO
            rw [hmi1, hmi2] at hmt
            have atM : ∀ h m ns, Fr g L h m → News g L h ns → (∀ q ∈ rest5, q ∈ ns) → h.get? mi.a = some (tupObj (.int (rt qs (itN mi) : Int) u1) (.int (itN mi : Int) u2) nu) := fun h m ns F N hs => by
              rcases hmt with e | e
              · exact F.keep _ _ e
              · exact (N _ (hs _ e)).1
            obtain ⟨q, hq⟩ : ∃ q, qs[itN mi]? = some q := ⟨qs[itN mi]'(by omega), by simp⟩
            obtain ⟨hqa, ok⟩ := hqs q (List.mem_of_getElem? hq)
            obtain ⟨a1, a2, a3, a4, a5, nq, hqq⟩ := hqa.keeps (h' := g) fun o e => kgO _ _ e
            replace N9 : News g L h9 ((hp, W.listOf (vals its9).toArray kh9) :: (it, oi) :: (tl, W.listOf tv.toArray kt) :: (L + 2, o5) :: (L + 1, oc) :: (x, instObj 168 dx) :: (dx, ignDict w S D G t1 t2 t3) :: rest5) := fun q hq => by
              revert q hq
              refine fC ?_ (fC ?_ (fC ?_ (fC ?_ (fC ?_ (fC ?_ (fC ?_ (fun q hq => ?_)))))))
              · exact N9 _ (.head _)
              · exact N9 _ (.tail _ (.head _))
              · exact N9 _ (.tail _ (.tail _ (.head _)))
              · exact N9 _ (.tail _ (.tail _ (.tail _ (.head _))))
              · exact N9 _ (.tail _ (.tail _ (.tail _ (.tail _ (.head _)))))
              · exact N9 _ (.tail _ (.tail _ (.tail _ (.tail _ (.tail _ hR5.inst)))))
              · exact N9 _ (.tail _ (.tail _ (.tail _ (.tail _ (.tail _ hR5.dict)))))
              · exact N9 q (.tail _ (.tail _ (.tail _ (.tail _ (.tail _ hq)))))
            ktr_rel
            rename Fr _ _ _ _ => F
            rename News _ _ _ _ => N
            refine sub_tup (atM _ _ _ F N fun q hq => by simp [hq]) (by first | exact Int.natCast_nonneg _ | decide | omega) (by first | decide | exact n63 (by assumption) | omega) rfl ?_
            ktr_rel
            rename Fr _ _ _ _ => F
            rename News _ _ _ _ => N
            refine sub_tup (atM _ _ _ F N fun q hq => by simp [hq]) (by first | exact Int.natCast_nonneg _ | decide | omega) (by first | decide | exact n63 (by assumption) | omega) rfl ?_
            obtain ⟨nm9, tn9, hnm9, hnv9⟩ : ∃ v t, nv[itN mi]? = some v ∧ v = .str (nameS q.k q.r) t := by
              have hl := strs_len hnv
              simp at hl
              obtain ⟨v, hv⟩ : ∃ v, nv[itN mi]? = some v := ⟨nv[itN mi]'(by omega), by simp⟩
              obtain ⟨y, t, hy, e⟩ := strsGet hnv hv
              rw [List.getElem?_map, hq] at hy
              cases hy
              exact ⟨v, t, hv, e⟩
            subst hnv9
            ktr_rel
            refine sub_list (v := .ref q.a) (F.keep _ _ halg) (by first | exact Int.natCast_nonneg _ | decide | omega) (by first | decide | exact n63 (by assumption) | omega) (by simp [hq]) ?_
            ktr_rel
            refine sub_tup (vs := [.int q.h a1, .int q.k a2, .int q.r a3, .int q.x a4, fileV q.f a5]) (F.keep _ _ hqq) (by first | exact Int.natCast_nonneg _ | decide | omega) (by first | decide | exact n63 (by assumption) | omega) rfl ?_
            ktr_rel
            refine sub_list (v := .str (nameS q.k q.r) tn9) (F.keep _ _ hnlg) (by first | exact Int.natCast_nonneg _ | decide | omega) (by first | decide | exact n63 (by assumption) | omega) (by simpa using hnm9) ?_
            ktr_rel
            obtain ⟨oG5, hG5, hGd5⟩ := hR5.ign
            have hGL := hR5.glow
            have hGit : @Ne Nat it G := by
              obtain ⟨o, ho, _⟩ := hR4.ign
              exact Ne.symm (hn4 _ (.tail _ (.tail _ (.tail _ (.tail _ ho)))))
            have hrN : ∀ q ∈ rest5, q ∈ (hp, W.listOf (vals its9).toArray kh9) :: (it, oi) :: (tl, W.listOf tv.toArray kt) :: (L + 2, o5) :: (L + 1, oc) :: (x, instObj 168 dx) :: (dx, ignDict w S D G t1 t2 t3) :: rest5 := fun q hq => .tail _ (.tail _ (.tail _ (.tail _ (.tail _ (.tail _ (.tail _ hq))))))
            have hrd := read_len ml fl qs (dn.map (·.2))
            rw [List.length_map] at hrd
            refine names_ok (h₀ := g) X' T' F.keep (hR5.ignAt N hrN hS hys e1 e2 e3 e4 nm) hC4 (by omega) ?_ hmo hfo (by exact hhd) (by show A.depth + 1 + 8 < _; exact dl hroom) (by show A.units + 3 + 50 < _; exact dl hunit) fun h11 tk11 tr kvs11 k11 I11 hC11 => ?_
            · intro a ha
              simp only [List.mem_cons, List.not_mem_nil, or_false] at ha
              rcases ha with rfl | rfl | rfl | rfl | rfl
              · exact (N _ (hrN _ hR5.inst)).2.2
              · exact (N _ (hrN _ hR5.dict)).2.2
              · exact (N _ (hrN _ hR5.set)).2.2
              · exact (N _ (hrN _ hR5.dirs)).2.2
              · exact (N _ (hrN _ hG5)).2.2
            obtain ⟨oG11, hoG11, hI11⟩ := I11.ign
            have F11 := frWr (wr := [G]) F (fun b o hb e => k11 b o (by simpa using hb) e) (by simpa using Ne.symm (N _ (hrN _ hG5)).2.1) (by simpa using (N _ (hrN _ hG5)).2.2)
            have hR9 := hR5.next e1 e2 e3 e4 hI11 hGL
            generalize hr9 : (G, oG11) :: rest5.filter (fun q => decide (@Ne Nat q.1 G)) = rest9 at hR9
            have hr59 : ∀ q ∈ rest5, IsT q.2 → q ∈ rest9 := fun q hq hT => by
              rw [← hr9]
              refine .tail _ (List.mem_filter.mpr ⟨hq, ?_⟩)
              have : @Ne Nat q.1 G := fun e => by
                have z1 := (N _ (hrN _ hG5)).1
                have z2 := (N _ (hrN _ hq)).1
                rw [e, z1] at z2
                cases z2
                exact dict_notS hGd5 hT
              simpa using this
            have N11 : News g L h11 ((hp, W.listOf (vals its9).toArray kh9) :: (it, oi) :: (tl, W.listOf tv.toArray kt) :: (L + 2, o5) :: (L + 1, oc) :: rest9) := by
              refine newsPut2 N (hrN _ hG5) k11 hoG11 fun q hq => ?_
              revert q hq
              refine fC ?_ (fC ?_ (fC ?_ (fC ?_ (fC ?_ (fun q hq => ?_)))))
              · exact .inr ⟨by show @Ne Nat hp G; omega, .head _⟩
              · exact .inr ⟨hGit, .tail _ (.head _)⟩
              · exact .inr ⟨by show @Ne Nat tl G; omega, .tail _ (.tail _ (.head _))⟩
              · exact .inr ⟨by show @Ne Nat (L + 2) G; omega, .tail _ (.tail _ (.tail _ (.head _)))⟩
              · exact .inr ⟨by show @Ne Nat (L + 1) G; omega, .tail _ (.tail _ (.tail _ (.tail _ (.head _))))⟩
              rw [← hr9] at hq
              revert q hq
              refine fC ?_ (fun q hq => ?_)
              · exact .inl rfl
              · have z := List.mem_filter.mp hq
                exact .inr ⟨by simpa using z.2, hrN _ z.1⟩
            have hbit := (read_bits ml fl qs (dn.map (·.2))).val (nameS q.k q.r) (ans_le ml fl q.f (nameS q.k q.r))
            clear F N I11 k11 hrN
            ktr_rel
            rename Fr _ _ _ _ => F
            rename News _ _ _ _ => N
            rename_i D13 h13 l13
            refine append_list (N _ (.tail _ (.tail _ (.tail _ (.head _))))).1 (by rw [hTo4.len]; omega) fun h14 hs14 ho14 => ?_
            have htl14 := N _ (.tail _ (.tail _ (.tail _ (.head _))))
            have F14 := frWr (wr := [tl]) F (fun b o hb e => (hs14.2 b (by simpa using hb)).trans e) (by simpa using Ne.symm htl14.2.1) (by simpa using htl14.2.2)
            rw [strN_of hbit] at N
            have hr9L : ∀ q ∈ rest9, @Ne Nat q.1 tl ∧ @Ne Nat q.1 it := fun q hq => by
              rw [← hr9] at hq
              revert q hq
              refine fC ?_ (fun q hq => ?_)
              · exact ⟨by show @Ne Nat G tl; omega, Ne.symm hGit⟩
              · have z := (List.mem_filter.mp hq).1
                exact ⟨(hrL5 q z).2, hr5it q z⟩
            have N14 : News g L h14 ((it, oi) :: (hp, W.listOf (vals its9).toArray kh9) :: (tl, W.listOf (tv ++ [Value.ref D13]).toArray (kt + 1)) :: (L + 2, o5) :: (L + 1, oc) :: (D13, tup4 t (itN mi) (rt qs (itN mi)) (strN (cVal (readS ml fl qs (dn.map (·.2))).1 (nameS q.k q.r) (ans ml fl q.f (nameS q.k q.r)))) tv0 u2 u1 tk11 0) :: rest9) := by
              refine newsPut N (.tail _ (.tail _ (.tail _ (.head _)))) hs14 ho14 fun q hq => ?_
              revert q hq
              refine fC ?_ (fC ?_ (fC ?_ (fC ?_ (fC ?_ (fC ?_ (fun q hq => ?_))))))
              · exact .inr ⟨Ne.symm hit.2.1, .tail _ (.tail _ (.head _))⟩
              · exact .inr ⟨by show @Ne Nat hp tl; omega, .tail _ (.head _)⟩
              · exact .inl rfl
              · exact .inr ⟨by show @Ne Nat (L + 2) tl; omega, .tail _ (.tail _ (.tail _ (.tail _ (.head _))))⟩
              · exact .inr ⟨by show @Ne Nat (L + 1) tl; omega, .tail _ (.tail _ (.tail _ (.tail _ (.tail _ (.head _)))))⟩
              · exact .inr ⟨Ne.symm (Nat.ne_of_lt l13.2.2.1), .head _⟩
              · exact .inr ⟨(hr9L q hq).1, .tail _ (.tail _ (.tail _ (.tail _ (.tail _ (.tail _ hq)))))⟩
            clear F N
            have hmap : (dn ++ [(t, itN mi)]).map (·.2) = dn.map (·.2) ++ [itN mi] := by simp
            have hrd9 : readS ml fl qs ((dn ++ [(t, itN mi)]).map (·.2)) = (cNext (readS ml fl qs (dn.map (·.2))).1 (nameS q.k q.r) (askA ml fl q), (readS ml fl qs (dn.map (·.2))).2 ++ [strN (cVal (readS ml fl qs (dn.map (·.2))).1 (nameS q.k q.r) (askA ml fl q))]) := by
              rw [hmap, readS_snoc]; unfold rStep; rw [hq]
            ktr_rel
            refine ⟨_, _, _, _, rfl, F14, N14, ?_, trivial, by ktr_unf, by ktr_unf, by ktr_unf, by ktr_unf, o5, _, tv ++ [Value.ref D13], kt + 1, its9, kh9, dn ++ [(t, itN mi)], _, kvs11, rfl, hd5, hR9.app (fun q hq => .tail _ hq) (fun q hq => ?_), by rw [hrd9]; exact hC11, ?_, hHO9, hIts9, ?_, Sw9⟩
            · intro q hq
              revert q hq
              refine fC ?_ (fC ?_ (fC ?_ (fC ?_ (fC ?_ (fun q hq => ?_)))))
              · exact hit.1
              · exact hit.2.1
              · exact hit.2.2
              · exact hn4 (L + 1, oc) (.tail _ (.tail _ (.tail _ (.head _))))
              · exact Ne.symm (Nat.ne_of_lt l13.2.1)
              · exact (hr9L q hq).2
            · rcases List.mem_cons.mp hq with rfl | hq
              · exact .inr ⟨_, _, rfl⟩
              · exact .inl hq
            · rw [hrd9]
              exact ((hTo4.mono fun q hq hT => .tail _ (hr59 q (hr45 q hq) hT)).snoc (.head _))
            · intro y hy
              have hy' : y ∈ its ++ cm := hpm9.mem_iff.mp (.tail _ hy)
              have hyT : TupIn g rest5 y := (List.mem_append.mp hy').elim (hitI y) (hcmI y)
              exact hyT.mono fun q hq hT => .tail _ (hr59 q hq hT)
        case h2 =>
          intro tk9 hC
          ktr_rel
          have z1 : cm = [] := Classical.byContradiction fun h => hC (.inl h)
          have z2 : its' = [] := Classical.byContradiction fun h => hC (.inr h)
          subst z1
          subst z2
          have z3 : its = [] := by simpa using hpm
          subst z3
          refine ⟨_, _, _, _, rfl, F8, (fun q hq => by
            revert q hq
            refine fC ?_ (fC ?_ (fun q hq => ?_))
            · exact N8' _ (.tail _ (.tail _ (.head _)))
            · exact N8' _ (.head _)
            · exact N8' q (.tail _ (.tail _ (.tail _ hq)))), ?_, trivial, c1, c2, c3, c4, o5, _, tv, kt, [], kh', dn, rest5, kvs4, rfl, hd5, hR5, hC4, hTo4.mono fun q hq _ => hr45 q hq, (fun i a b _ _ h => by simp at h), (fun _ h => nomatch h), (fun _ h => nomatch h), hSw.none hmc.symm⟩
          intro q hq
          revert q hq
          refine fC ?_ (fC ?_ (fC ?_ (fC ?_ (fun q hq => ?_))))
          · exact hit.1
          · exact hit.2.1
          · exact hit.2.2
          · exact hn4 (L + 1, oc) (.tail _ (.tail _ (.tail _ (.head _))))
          · exact hr5it q hq
  case done =>
    rintro h4 tk4 m4 news4 F4 N4 ⟨m1, m2, m3, m4', oH4, vH4, tv, kt, its, kh, dn, rest4, kvs4, rfl, hoH4, hR4, hC4, hTo4, hHO, hIts, hTup, hSw⟩
    clear F N
    obtain ⟨e0, hPl⟩ := hSw.last (hr_lt fun q hq => (hqs q hq).2)
    have e0 : its = [] := by simpa using e0
    subst e0
    ktr_rel
    refine wpAny_If ?_
    ktr_rel
    refine truthy_its (N4 _ (.head _)).1 (by simp) fun tk5 => ?_
    rw [if_neg (by simp)]
    ktr_rel
    have hrN : ∀ q ∈ rest4, q ∈ (hp, W.listOf (vals []).toArray kh) :: (tl, W.listOf tv.toArray kt) :: (L + 2, oH4) :: (L + 1, oc) :: rest4 := fun q hq => .tail _ (.tail _ (.tail _ (.tail _ hq)))
    refine h _ _ _ tv kt dn kvs4 (fun b o hb z => ?_) ?_ (N4 _ (.tail _ (.head _))).1 (hTo4.heap fun q hq => (N4 q (hrN q hq)).1) hPl (hR4.ignAt N4 hrN hS hys e1 e2 e3 e4 nm) hC4
    · by_cases hx : b ∈ [x, dx, S, D]
      · simp only [List.mem_cons, List.not_mem_nil, or_false] at hx
        rcases hx with rfl | rfl | rfl | rfl
        · rw [Ii] at z; cases z; exact (N4 _ (hrN _ hR4.inst)).1
        · rw [Id] at z; cases z; exact (N4 _ (hrN _ hR4.dict)).1
        · rw [IS] at z; cases z; exact (N4 _ (hrN _ hR4.set)).1
        · rw [IDd] at z; cases z; exact (N4 _ (hrN _ hR4.dirs)).1
      · exact F4.keep _ _ (kg _ _ (by simp at hx ⊢; exact ⟨hb, hx⟩) z)
    · cases e : s.heap.get? tl with
      | none => rfl
      | some o =>
        by_cases hb : tl ∈ [G, x, dx, S, D]
        · have := hmL tl hb
          omega
        · have := kg tl o hb e
          rw [(N4 _ (.tail _ (.head _))).2.2] at this
          cases this
end
section
set_option maxHeartbeats 1000000

theorem fillDR (w : World) (h : Heap) : (Mine.hd.heap_1 w.params).In h → PySem.Challenge.rw_oc0123_01.most = some 63 := by
  k_fill
  intro _; rfl

local macro_rules | `(tactic| ktr_rel) => `(tactic| (repeat' (first
  | (walk_at "kA"; (fail_if_success (with_reducible first | refine gFor ?_ | refine gWhile ?_ | refine gIf ?_ | refine gCallref ?_ | refine gAppend ?_ | refine gComp ?_ | refine gSplit ?_ | refine gSlice ?_ | refine gCmpref ?_ | refine gSetitem ?_)); walk1)
  | walk_at "kB")))

def AllInts (vs : List Value) : Prop := ∀ v ∈ vs, ∃ z t, v = .int z t
theorem sub_isList {prog : Program} {w : World} {A : Around} {E : Value → Shared → Prop} {s : Shared} {Q : Value → Shared → Prop} {value slice : PySem.Expr} {l : Addr} {vs : List Value} {k : Int} {u : Tok} {v : Value}
    (hL : s.heap.IsList l vs.toArray) (h0 : 0 ≤ k) (hhi : k < 2 ^ 63) (hx : vs[k.toNat]? = some v) (h : Q v s)
    (hs : subscripted slice false (.ref l) (.int k u) = operate [.ref l, .int k u] (getItem (.ref l) (.int k u)) := by with_unfolding_all rfl) :
    wpAny (model prog w) A (subscriptTail value slice (.ref l) (.int k u)) Q E s :=
  tail_any hL.typeIs slot_list_getitem.lookup (wpAny_getItem_list hL h0 hhi (by simpa using hx) h) hs
theorem isList_keeps {h h' : Heap} {l : Addr} {vs : Array Value} (x : h.IsList l vs) (k : ∀ b o, h.get? b = some o → h'.get? b = some o) : h'.IsList l vs := by
  obtain ⟨o, ho, r⟩ := x; exact ⟨o, k _ _ ho, r⟩
theorem six_files {k : Nat} (h : k < 6) (a b c d e : Tok) : ∃ t, [Value.str "/s/a" a, .str "/sa/a" b, .str "/s/sa/a" c, .str "/a" d, .str "/s" e, .none][k]? = some (fileV k t) := by
  match k, h with
  | 0, _ => exact ⟨a, rfl⟩
  | 1, _ => exact ⟨b, rfl⟩
  | 2, _ => exact ⟨c, rfl⟩
  | 3, _ => exact ⟨d, rfl⟩
  | 4, _ => exact ⟨e, rfl⟩
  | 5, _ => exact ⟨a, rfl⟩
theorem fmodN (z : Int) (n : Nat) (h : 0 < n) : ∃ k : Nat, k < n ∧ z.fmod (n : Int) = (k : Int) := by
  refine ⟨(z.fmod n).toNat, ?_, ?_⟩
  · have := Int.fmod_lt_of_pos z (b := n) (by omega)
    have := Int.fmod_nonneg_of_pos z (b := n) (by omega)
    omega
  · have := Int.fmod_nonneg_of_pos z (b := n) (by omega)
    omega
inductive DrI (sl vl : Addr) (m₁ : Str → Option Value) (news₁ : List (Addr × Obj)) : Prop where
  | mk (m1 : m₁ "script" = some (.ref sl)) (m2 : m₁ "vals" = some (.ref vl)) (vv : List Value) (n : Nat) (e : news₁ = [(vl, W.listOf (List.toArray vv) n)]) (hA : AllInts vv) (hl : vv.length = 10)
inductive DrJ (al vl Ds : Addr) (vv : List Value) (n k : Nat) (m₁ : Str → Option Value) (news₁ : List (Addr × Obj)) : Prop where
  | mk (m1 : m₁ "vals" = some (.ref vl)) (m2 : m₁ "asks" = some (.ref al)) (qs : List Ask) (na : Nat) (ot : List (Addr × Obj))
    (e : news₁ = (al, W.listOf (List.map (fun q : Ask => Value.ref q.a) qs).toArray na) :: (Ds, W.listOf (List.take 8 vv).toArray 0) :: (vl, W.listOf (List.toArray vv) n) :: ot) (hk : qs.length = k) (hT : ∀ p ∈ ot, IsT p.2)
    (hq : ∀ q ∈ qs, q.Ok ∧ ∃ t1 t2 t3 t4 t5 n, (q.a, ⟨.type "tuple", none, .seq #[.int q.h t1, .int q.k t2, .int q.r t3, .int q.x t4, fileV q.f t5] n, #[]⟩) ∈ ot)
theorem drawn_ok {prog : Program} {w : World} {A : Around} {s : Shared} {h₀ : Heap} {mean : ExcName → Option Value} {mg mb : Str → Option Value} {loose : List Str} {E : Value → Shared → Prop} {Q : Value → Shared → Prop}
    (X : (Mine.hd.heap_1 w.params).In h₀) (T : Top Mine.view loose mean mg mb h₀) (kp : ∀ b o, h₀.get? b = some o → s.heap.get? b = some o)
    {sl : Addr} {sv : List Value} {ns : List Int} (hsl : s.heap.IsList sl sv.toArray) (hI : IntsAre sv ns) (hz : ns.length ≤ 63)
    (hhd : A.handled = none) (hroom : A.depth + 30 < recursionLimit) (hunit : A.units + 150 < cLine)
    (h : ∀ (h' : Heap) (tk : Nat) (R al fd md : Addr) (qs : List Ask) (fv mv : List Value) (fl ml : List Str) (kf km n : Nat), (∀ b o, s.heap.get? b = some o → h'.get? b = some o) → h'.get? R = some ⟨.type "tuple", none, .seq #[.ref al, .ref fd, .ref md] n, #[]⟩ → AsksAt h' al qs → qs.length = 8 → h'.get? fd = some (W.listOf fv.toArray kf) → h'.get? md = some (W.listOf mv.toArray km) → StrsAre fv fl → StrsAre mv ml →
      (ml = [] ∨ ml = [("-.rws" : Str)] ∨ ml = [("d" : Str)]) → fl.length ≤ 2 ∧ 0 < fl.length → (∀ d ∈ fl, folderOk d) → Q (.ref R) { s with heap := h', toks := tk }) :
    wpAny (model prog w) A (call (.ref 179) [.ref sl]) Q E s := by
  refine' enter (binds := [("script", .ref sl)]) [] X T kp ?hm ?ho ?hcd (by first | exact dr hroom | omega) ?hbind ?hloc ?hcell ?hco ?hgen ?hk ?_
  case ho => k_is
  case hcd => k_is
  case hbind => exact BindsTo.of_eq rfl
  case hloc => exact locs rfl
  case hcell => decide
  case hco => rfl
  case hgen => rfl
  case hk => rfl
  case hm => intro q hq; cases hq
  intro g L h₁ F N X' T' kg
  clear X T kp
  have hslg : g.IsList sl sv.toArray := by
    obtain ⟨o, ho, r⟩ := hsl
    exact ⟨o, kg _ _ (by simp) ho, r⟩
  ktr_rel
  rename Fr _ _ _ _ => F
  rename News _ _ _ _ => N
  rename_i vl h2a lt1 h2b
  refine wpAny_For ?_
  ktr_rel
  rename Fr _ _ _ _ => F
  rename News _ _ _ _ => N
  rename IsRange _ _ _ _ _ _ _ _ => hR
  refine loop_range (n := ns.length) (by exact hhd) F N hR (by omega)
    (fun i => DrI sl vl) ?h0 ?turn ?done
  case h0 =>
    refine ⟨rfl, rfl, _, 0, rfl, ?_, rfl⟩
    intro v hv
    simp only [List.mem_cons, List.not_mem_nil, or_false] at hv
    rcases hv with rfl | rfl | rfl | rfl | rfl | rfl | rfl | rfl | rfl | rfl <;> exact ⟨_, _, rfl⟩
  case turn =>
    rintro i ti it oi h4 tk4 m4 news4 hi ⟨m1, m2, vv, n, rfl, hA, hl⟩ hn F4 N4
    clear F N
    obtain ⟨z, tz, hzv⟩ : ∃ z t, vv[i % 10]? = some (.int z t) := by
      have hx : vv[i % 10]? = some (vv[i % 10]'(by omega)) := by simp
      obtain ⟨z, t, e⟩ := hA _ (List.mem_of_getElem? hx)
      exact ⟨z, t, by rw [hx, e]⟩
    have e10 : ((i : Nat) : Int).fmod 10 = ((i % 10 : Nat) : Int) := by
      rw [Int.fmod_eq_emod_of_nonneg _ (by decide)]; omega
    ktr_rel
    rename Fr _ _ _ _ => F
    rename News _ _ _ _ => N
    rw [e10]
    refine sub_list (v := .int z tz) (N _ (.tail _ (.head _))).1 (by first | exact Int.natCast_nonneg _ | decide | omega) (by first | decide | exact n63 (by assumption) | omega) (by rw [Int.toNat_natCast]; exact hzv) ?_
    ktr_rel
    rename Fr _ _ _ _ => F
    rename News _ _ _ _ => N
    rw [e10]
    refine set_list (N _ (.tail _ (.head _))).1 (by first | exact Int.natCast_nonneg _ | decide | omega) (by first | decide | exact n63 (by assumption) | omega) (by simp; omega) fun h6 hs6 ho6 => ?_
    have hz6 := N _ (.tail _ (.head _))
    have F6 := F.change hs6 hz6.2.1 hz6.2.2
    obtain ⟨vv', hvv', hA', hl'⟩ : ∃ vv', h6.get? vl = some (W.listOf (List.toArray vv') n) ∧ AllInts vv' ∧ vv'.length = 10 := ⟨_, ho6, (by
      intro v hv
      rcases List.mem_or_eq_of_mem_set hv with hv | rfl
      · exact hA v hv
      · exact ⟨_, _, rfl⟩), by simpa using hl⟩
    have N6 : News g L h6 [(it, oi), (vl, W.listOf (List.toArray vv') n)] := by
      refine newsPut N (.tail _ (.head _)) hs6 hvv' fun q hq => ?_
      revert q hq
      refine fC ?_ (fun q hq => ?_)
      · exact .inr ⟨Ne.symm (hn _ (.head _)), .head _⟩
      · exact .inl (by simpa using hq)
    clear F N
    ktr_rel
    refine ⟨_, _, _, _, rfl, F6, N6, ?_, trivial, by ktr_unf, by ktr_unf, vv', n, rfl, hA', hl'⟩
    intro q hq
    cases List.mem_singleton.mp hq
    exact hn (vl, W.listOf vv.toArray n) (.head _)
  case done =>
    rintro h4 tk4 m4 news4 F4 N4 ⟨m1, m2, vv, n, rfl, hA, hl⟩
    clear F N
    ktr_rel
    rename Fr _ _ _ _ => F
    rename News _ _ _ _ => N
    rename_i al h5a lt5 h5b
    have hva : @Ne Nat vl al := Nat.ne_of_lt lt5
    refine wpAny_For ?_
    ktr_rel
    refine' kms_slice_lit F N (News.isList N (.tail _ (.head _))) .none (.int _ _) (pick_take _ 8 ?_) ?_ ?s ?t ?z
    case s => with_unfolding_all rfl
    case t => kmk_pure
    case z => rw [sizeLine_eq]; simp; omega
    · simp; omega
    intro Ds h7 F7 N7 l7
    clear F N
    simp only [List.toList_toArray] at N7
    replace N7 : News g L h7 ((al, W.listOf #[] 0) :: (Ds, W.listOf (List.take 8 vv).toArray 0) :: (vl, W.listOf vv.toArray n) :: []) := fun q hq => by
      revert q hq
      refine fC ?_ (fC ?_ (fun q hq => ?_))
      · exact N7 _ (.tail _ (.head _))
      · exact N7 _ (.head _)
      · exact N7 q (.tail _ (.tail _ hq))
    have hDa : @Ne Nat al Ds := Nat.ne_of_lt (l7 _ (.head _))
    have hDv : @Ne Nat vl Ds := Nat.ne_of_lt (l7 _ (.tail _ (.head _)))
    ktr_rel
    refine loop_list (items := (List.take 8 vv).toArray) (by exact hhd) F7 N7 ⟨_, (N7 _ (.tail _ (.head _))).1, rfl, 0, rfl⟩ (fun it v s1 o vs Q E _ _ _ q => go_name it 0 v s1 Q E q)
      (DrJ al vl Ds vv n) ?h02 ?turn2 ?done2
    case h02 => exact ⟨by ktr_unf, by ktr_unf, [], 0, [], rfl, rfl, (fun _ h => nomatch h), (fun _ h => nomatch h)⟩
    case turn2 =>
      rintro k v it oi h8 tk8 m8 news8 hv ⟨c1, c2, qs, na, ot, rfl, hqz, hot, hqs⟩ hn8 hl8 hL8 F8 N8
      clear F7 N7
      obtain ⟨z, tz, rfl⟩ : ∃ z t, v = .int z t := hA v (List.mem_of_mem_take (List.mem_of_getElem? (by simpa using hv)))
      obtain ⟨kf, hkf, ekf⟩ := fmodN ((z.fdiv 6).fdiv 256) 6 (by decide)
      obtain ⟨kh, hkh, ekh⟩ := fmodN z 6 (by decide)
      obtain ⟨kk, hkk, ekk⟩ := fmodN (z.fdiv 6) 2 (by decide)
      obtain ⟨kr, hkr, ekr⟩ := fmodN ((z.fdiv 6).fdiv 2) 2 (by decide)
      obtain ⟨kx, hkx, ekx⟩ := fmodN ((z.fdiv 6).fdiv 4) 64 (by decide)
      replace ekf : ((z.fdiv 6).fdiv 256).fmod 6 = (kf : Int) := ekf
      replace ekh : z.fmod 6 = (kh : Int) := ekh
      replace ekk : (z.fdiv 6).fmod 2 = (kk : Int) := ekk
      replace ekr : ((z.fdiv 6).fdiv 2).fmod 2 = (kr : Int) := ekr
      replace ekx : ((z.fdiv 6).fdiv 4).fmod 64 = (kx : Int) := ekx
      ktr_rel
      rename Fr _ _ _ _ => F
      rename News _ _ _ _ => N
      rw [ekf]
      obtain ⟨tf, hf⟩ := six_files hkf _ _ _ _ _
      refine sub_tup (v := fileV kf tf) (N _ (.head _)).1 (by first | exact Int.natCast_nonneg _ | decide | omega) (by first | decide | exact n63 (by assumption) | omega) (by rw [Int.toNat_natCast]; exact hf) ?_
      clear hf
      ktr_rel
      rename Fr _ _ _ _ => F
      rename News _ _ _ _ => N
      rename_i D9 h9 l9
      rw [ekh, ekk, ekr, ekx] at N
      have hk8 : k < 8 := by
        have := (Array.getElem?_eq_some_iff.mp hv).1
        simp at this; omega
      have hal9 := N _ (.tail _ (.tail _ (.tail _ (.head _))))
      refine append_list hal9.1 (by simp; omega) fun h10 hs10 ho10 => ?_
      have F10 := frWr (wr := [al]) F (fun b o hb e => (hs10.2 b (by simpa using hb)).trans e) (by simpa using Ne.symm hal9.2.1) (by simpa using hal9.2.2)
      have hotn : ∀ q ∈ ot, q.1 ≠ al := fun q hq e => by
        have z := (N q (.tail _ (.tail _ (.tail _ (.tail _ (.tail _ (.tail _ hq))))))).1
        obtain ⟨xs, nn, e2⟩ := hot q hq
        rw [e, hal9.1, e2] at z
        simp [W.listOf] at z
      obtain ⟨ob, hob, hobT⟩ : ∃ ob, (h9.get? D9 = some ob ∧ D9 ≠ L ∧ g.get? D9 = none) ∧ ∃ t1 t2 t3 t4 t5 n, ob = (⟨.type "tuple", none, .seq #[.int (kh : Nat) t1, .int (kk : Nat) t2, .int (kr : Nat) t3, .int (kx : Nat) t4, fileV kf t5] n, #[]⟩ : Obj) := ⟨_, N _ (.head _), _, _, _, _, _, _, rfl⟩
      replace N : News g L h9 ((D9, ob) :: (it, oi) :: (al, W.listOf (List.map (fun q : Ask => Value.ref q.a) qs).toArray na) :: (Ds, W.listOf (List.take 8 vv).toArray 0) :: (vl, W.listOf vv.toArray n) :: ot) := fun q hq => by
        revert q hq
        refine fC ?_ (fun q hq => ?_)
        · exact hob
        · exact N q (.tail _ (.tail _ hq))
      have N10 : News g L h10 ((it, oi) :: (al, W.listOf (List.map (fun q : Ask => Value.ref q.a) (qs ++ [⟨D9, kh, kk, kr, kx, kf⟩])).toArray (na + 1)) :: (Ds, W.listOf (List.take 8 vv).toArray 0) :: (vl, W.listOf vv.toArray n) :: (D9, ob) :: ot) := by
        have ho10' : h10.get? al = some (W.listOf (List.map (fun q : Ask => Value.ref q.a) (qs ++ [⟨D9, kh, kk, kr, kx, kf⟩])).toArray (na + 1)) := by
          rw [ho10, List.map_append]; rfl
        refine newsPut N (.tail _ (.tail _ (.head _))) hs10 ho10' fun q hq => ?_
        revert q hq
        refine fC ?_ (fC ?_ (fC ?_ (fC ?_ (fC ?_ (fun q hq => ?_)))))
        · exact .inr ⟨Ne.symm (hn8 _ (.head _)), .tail _ (.head _)⟩
        · exact .inl rfl
        · exact .inr ⟨Ne.symm hDa, .tail _ (.tail _ (.tail _ (.head _)))⟩
        · exact .inr ⟨hva, .tail _ (.tail _ (.tail _ (.tail _ (.head _))))⟩
        · exact .inr ⟨Ne.symm (Nat.ne_of_lt l9.2.2.1), .head _⟩
        · exact .inr ⟨hotn q hq, .tail _ (.tail _ (.tail _ (.tail _ (.tail _ hq))))⟩
      clear F N
      ktr_rel
      refine ⟨_, _, _, _, rfl, F10, N10, ?_, ⟨_, (N10 _ (.tail _ (.tail _ (.head _)))).1, rfl, 0, rfl⟩, by ktr_unf, by ktr_unf, _, _, _, rfl, by simp [hqz], ?_, ?_⟩
      · intro q hq
        revert q hq
        refine fC ?_ (fC ?_ (fC ?_ (fC ?_ (fun q hq => ?_))))
        · exact hn8 (al, W.listOf (List.map (fun q : Ask => Value.ref q.a) qs).toArray na) (.head _)
        · exact hl8
        · exact hn8 (vl, W.listOf vv.toArray n) (.tail _ (.tail _ (.head _)))
        · exact Ne.symm (Nat.ne_of_lt l9.2.1)
        · exact hn8 q (.tail _ (.tail _ (.tail _ hq)))
      · intro q hq
        revert q hq
        refine fC ?_ (fun q hq => ?_)
        · obtain ⟨_, _, _, _, _, _, e⟩ := hobT
          exact ⟨_, _, e⟩
        · exact hot q hq
      · intro q hq
        rcases List.mem_append.mp hq with hq | hq
        · obtain ⟨a, t1, t2, t3, t4, t5, n5, b⟩ := hqs q hq
          exact ⟨a, t1, t2, t3, t4, t5, n5, .tail _ b⟩
        · cases List.mem_singleton.mp hq
          obtain ⟨t1, t2, t3, t4, t5, n5, e⟩ := hobT
          exact ⟨⟨hkh, hkk, hkr, hkx, hkf⟩, t1, t2, t3, t4, t5, n5, by rw [← e]; exact .head _⟩
    case done2 =>
      rintro h8 tk8 m8 news8 F8 N8 ⟨c1, c2, qs, na, ot, rfl, hqz, hot, hqs⟩
      clear F7 N7
      obtain ⟨z8, t8, h8v⟩ : ∃ z t, vv[8]? = some (.int z t) := by
        have hx : vv[8]? = some (vv[8]'(by omega)) := by simp
        obtain ⟨z, t, e⟩ := hA _ (List.mem_of_getElem? hx)
        exact ⟨z, t, by rw [hx, e]⟩
      obtain ⟨z9, t9, h9v⟩ : ∃ z t, vv[9]? = some (.int z t) := by
        have hx : vv[9]? = some (vv[9]'(by omega)) := by simp
        obtain ⟨z, t, e⟩ := hA _ (List.mem_of_getElem? hx)
        exact ⟨z, t, by rw [hx, e]⟩
      obtain ⟨k8, hk8, ek8⟩ := fmodN z8 4 (by decide)
      obtain ⟨k9, hk9, ek9⟩ := fmodN z9 3 (by decide)
      replace ek8 : z8.fmod 4 = (k8 : Int) := ek8
      replace ek9 : z9.fmod 3 = (k9 : Int) := ek9
      ktr_rel
      rename Fr _ _ _ _ => F
      rename News _ _ _ _ => N
      refine sub_list (v := .int z8 t8) (N _ (.tail _ (.tail _ (.tail _ (.tail _ (.tail _ (.tail _ (.tail _ (.head _))))))))).1 (by first | exact Int.natCast_nonneg _ | decide | omega) (by first | decide | exact n63 (by assumption) | omega) h8v ?_
      ktr_rel
      rename Fr _ _ _ _ => F
      rename News _ _ _ _ => N
      rw [ek8]
      rename_i f1 _ _ f2 _ _ f3 _ _ f4 _ _ fT hf9 _
      obtain ⟨fd, fv, fl, hfx, hfm, hfs, hfl, hfo⟩ : ∃ fd fv fl, [Value.ref f1, .ref f2, .ref f3, .ref f4][k8]? = some (.ref fd) ∧ (hf9.get? fd = some (W.listOf (List.toArray fv) 0) ∧ fd ≠ L ∧ g.get? fd = none) ∧ StrsAre fv fl ∧ (fl.length ≤ 2 ∧ 0 < fl.length) ∧ ∀ d ∈ fl, folderOk d := by
        match k8, hk8 with
        | 0, _ => exact ⟨f1, _, [("/s" : Str)], rfl, N _ (.tail _ (.tail _ (.tail _ (.tail _ (.head _))))), .cons _ _ .nil, by simp, by intro d hd; cases List.mem_singleton.mp hd; exact .inl rfl⟩
        | 1, _ => exact ⟨f2, _, [("/sa" : Str)], rfl, N _ (.tail _ (.tail _ (.tail _ (.head _)))), .cons _ _ .nil, by simp, by intro d hd; cases List.mem_singleton.mp hd; exact .inr (.inl rfl)⟩
        | 2, _ => exact ⟨f3, _, [("/s/sa" : Str)], rfl, N _ (.tail _ (.tail _ (.head _))), .cons _ _ .nil, by simp, by intro d hd; cases List.mem_singleton.mp hd; exact .inr (.inr rfl)⟩
        | 3, _ => exact ⟨f4, _, [("/s/sa" : Str), "/sa"], rfl, N _ (.tail _ (.head _)), .cons _ _ (.cons _ _ .nil), by simp, by
            intro d hd
            rcases List.mem_cons.mp hd with rfl | hd
            · exact .inr (.inr rfl)
            · cases List.mem_singleton.mp hd; exact .inr (.inl rfl)⟩
      refine sub_tup (v := .ref fd) (N _ (.head _)).1 (by first | exact Int.natCast_nonneg _ | decide | omega) (by first | decide | exact n63 (by assumption) | omega) (by rw [Int.toNat_natCast]; exact hfx) ?_
      clear hfx
      have N2 : News g L hf9 ((fd, W.listOf (List.toArray fv) 0) :: (al, W.listOf (List.map (fun q : Ask => Value.ref q.a) qs).toArray na) :: (vl, W.listOf vv.toArray n) :: ot) := fun q hq => by
        revert q hq
        refine fC ?_ (fC ?_ (fun q hq => ?_))
        · exact hfm
        · exact N _ (.tail _ (.tail _ (.tail _ (.tail _ (.tail _ (.head _))))))
        · exact N _ (.tail _ (.tail _ (.tail _ (.tail _ (.tail _ (.tail _ (.tail _ hq)))))))
      clear N hfm
      ktr_rel
      rename Fr _ _ _ _ => F
      rename News _ _ _ _ => N
      refine sub_list (v := .int z9 t9) (N _ (.tail _ (.tail _ (.tail _ (.tail _ (.tail _ (.tail _ (.head _)))))))).1 (by first | exact Int.natCast_nonneg _ | decide | omega) (by first | decide | exact n63 (by assumption) | omega) h9v ?_
      ktr_rel
      rename Fr _ _ _ _ => F
      rename News _ _ _ _ => N
      rw [ek9]
      rename_i m1' _ _ m2' _ _ m3' _ _ mT hm9 _
      obtain ⟨md, mv, ml, hmx, hmm, hms, hmo⟩ : ∃ md mv ml, [Value.ref m1', .ref m2', .ref m3'][k9]? = some (.ref md) ∧ (hm9.get? md = some (W.listOf (List.toArray mv) 0) ∧ md ≠ L ∧ g.get? md = none) ∧ StrsAre mv ml ∧ (ml = [] ∨ ml = [("-.rws" : Str)] ∨ ml = [("d" : Str)]) := by
        match k9, hk9 with
        | 0, _ => exact ⟨m1', _, [("-.rws" : Str)], rfl, N _ (.tail _ (.tail _ (.tail _ (.head _)))), .cons _ _ .nil, .inr (.inl rfl)⟩
        | 1, _ => exact ⟨m2', [], [], rfl, N _ (.tail _ (.tail _ (.head _))), .nil, .inl rfl⟩
        | 2, _ => exact ⟨m3', _, [("d" : Str)], rfl, N _ (.tail _ (.head _)), .cons _ _ .nil, .inr (.inr rfl)⟩
      refine sub_tup (v := .ref md) (N _ (.head _)).1 (by first | exact Int.natCast_nonneg _ | decide | omega) (by first | decide | exact n63 (by assumption) | omega) (by rw [Int.toNat_natCast]; exact hmx) ?_
      clear hmx
      have N3 : News g L hm9 ((md, W.listOf (List.toArray mv) 0) :: (fd, W.listOf (List.toArray fv) 0) :: (al, W.listOf (List.map (fun q : Ask => Value.ref q.a) qs).toArray na) :: ot) := fun q hq => by
        revert q hq
        refine fC ?_ (fC ?_ (fC ?_ (fun q hq => ?_)))
        · exact hmm
        · exact N _ (.tail _ (.tail _ (.tail _ (.tail _ (.head _)))))
        · exact N _ (.tail _ (.tail _ (.tail _ (.tail _ (.tail _ (.head _))))))
        · exact N _ (.tail _ (.tail _ (.tail _ (.tail _ (.tail _ (.tail _ (.tail _ hq)))))))
      clear N hmm
      ktr_rel
      rename Fr _ _ _ _ => F
      rename News _ _ _ _ => N
      refine h _ _ _ al fd md qs fv mv fl ml 0 0 _ (fun b o z => F.keep _ _ (kg b o (by simp) z)) (N _ (.head _)).1 ⟨⟨na, (N _ (.tail _ (.tail _ (.tail _ (.head _))))).1⟩, fun q hq => ?_⟩ ?_ (N _ (.tail _ (.tail _ (.head _)))).1 (N _ (.tail _ (.head _))).1 hfs hms hmo hfl hfo
      · obtain ⟨ok, t1, t2, t3, t4, t5, n5, hb⟩ := hqs q hq
        exact ⟨⟨t1, t2, t3, t4, t5, n5, (N _ (.tail _ (.tail _ (.tail _ (.tail _ hb))))).1⟩, ok⟩
      · rw [hqz]; simp; omega
end
section
set_option maxHeartbeats 1000000

def CEndM (s : Shared) (g : Heap) (C G : Addr) (ot : List (Addr × Obj)) (J : Heap → Prop) (s' : Shared) : Prop :=
  ∃ h' tk' m' ns, s' = { s with heap := h', toks := tk' } ∧ Fr g C h' m' ∧ News g C h' ns ∧ (∀ p ∈ ot, @Ne Nat p.1 G → p ∈ ns) ∧ J h'
section
variable {prog : Program} {w : World} {A : Around} {E : Value → Shared → Prop} {s : Shared} {target elt : PySem.Expr} {ifs : List PySem.Expr} {scope : Scope} {cl : List (Str × Addr)} {env : Env} {g : Heap} {L l I G : Addr} {m : Str → Option Value} {news : List (Addr × Obj)}
/-- a comprehension over a range, stored to a local name; the items change one object, G -/
theorem comp_rangeM {oG : Obj} {y : Str} {x : Str} {px : Pos} {n : Nat} {t u v : Tok} {Q : Flow → Shared → Prop} (hL : env.locals = L) (hh : A.handled = none) (F : Fr g L s.heap m) (N : News g L s.heap news) (NG : News g L s.heap [(G, oG)]) (hGn : ∀ p ∈ news, p.1 ≠ G) (hr : IsRange s.heap l 0 n 1 t u v) (hz : n < 1000)
    (J : Nat → List Value → Heap → Prop) (h0 : ∀ h, (∀ b o, s.heap.get? b = some o → h.get? b = some o) → J 0 [] h) (hkeep : ∀ i ys h h', J i ys h → (∀ b o, h.get? b = some o → (IsT o ∨ b = G) → h'.get? b = some o) → J i ys h')
    (turn : ∀ C i v ys h tk m₃ ot, (i < n ∧ ∃ t, v = .int (i : Nat) t) → J i ys h → Fr g C h m₃ → News g C h (news ++ ot) → G ≠ C →
      wpAny (model prog w) A (assign (.Name x px) (compEnvC scope cl C env) v) (fun _ s₄ => wpAny (model prog w) A (compTest ifs (compEnvC scope cl C env)) (fun ok s₅ =>
        if ok = true then wpAny (model prog w) A (eval elt (compEnvC scope cl C env)) (fun y s₆ => CEndM s g C G ot (J (i + 1) (ys ++ [y])) s₆) (fun _ _ => False) s₅
        else CEndM s g C G ot (J (i + 1) ys) s₅) (fun _ _ => False) s₄) (fun _ _ => False) { s with heap := h, toks := tk })
    (post : ∀ D h' tk ys k, Fr g L h' (fun z => if z = y then some (.ref D) else m z) → News g L h' ((D, W.listOf (List.toArray ys) k) :: news) → (∀ p ∈ news, @Ne Nat p.1 D) → J n ys h' → Q .next { s with heap := h', toks := tk }) :
    wpAny (model prog w) A (pyIter (.ref l)) (CStartA prog w A env scope cl (.Name x px) elt ifs y Q) E s := by
  have nG := NG _ (.head _)
  refine range_start2 F N hr hz fun it h' e0 n2 n3 n4 hit F' N' k' b1 => ?_
  subst hL
  have hGit : G ≠ it := by rintro rfl; rw [e0] at nG; cases nG.1
  refine ⟨it, [it], [it], n, (fun i v => ∃ tv, v = .int (0 + (i : Int) * 1) tv), _, J, (· = G), m, rfl, ⟨Walks.range hh it 0 1 n, by rw [sizeLine_eq]; omega, hit, by simpa using b1, (by rintro b rfl; exact Heap.lt_size (k' _ _ nG.1)), (by rintro b rfl; simpa using hGit), ?_, h0 _ k', hkeep, ?_, ?_⟩, by simpa using Ne.symm n2, Ne.symm nG.2.1, F'.ns, ?_⟩
  · intro i v s₁ Q E hS hQ
    exact go_name it i v s₁ Q E hQ
  · rintro i h hS b hb o' ho' ⟨xs, k, rfl⟩
    cases List.mem_singleton.mp hb
    have hS' : h.get? it = some _ := hS
    rw [hS'] at ho'; simp at ho'
  · rintro C i v ys s₃ m₃ hC hi ⟨tv, rfl⟩ hns hk ⟨h3, tk3, rfl⟩ hJ
    have hk' : ∀ b o, b ≠ it → b ≠ G → h'.get? b = some o → h3.get? b = some o := fun b o hb hg e => hk b o (by simpa using hb) hg e
    have hg : ∀ b o, g.get? b = some o → h3.get? b = some o := fun b o e => hk' b o (by rintro rfl; rw [n3] at e; cases e) (by rintro rfl; rw [nG.2.2] at e; cases e) (F'.keep b o e)
    have FC : Fr g C h3 m₃ := ⟨hns, hg, Nat.le_trans F'.above (Nat.le_trans (Nat.le_of_lt F'.ns.lt) hC)⟩
    obtain ⟨ot, No, ho⟩ := rest_ex g h3 C hg
    have hGC : G ≠ C := Nat.ne_of_lt (Nat.lt_of_lt_of_le (Heap.lt_size (k' _ _ nG.1)) hC)
    have NC : News g C h3 (news ++ ot) := fun p hp => by
      rcases List.mem_append.mp hp with hp | hp
      · exact ⟨hk' _ _ (n4 p hp) (hGn p hp) (N' p hp).1, Nat.ne_of_lt (Nat.lt_of_lt_of_le (Heap.lt_size (N' p hp).1) hC), (N' p hp).2.2⟩
      · exact No p hp
    have fin : ∀ (JJ : Heap → Prop) s', CEndM { s with heap := h', toks := s.toks } g C G ot JJ s' → JJ s'.heap ∧ CKeeps C (· = G) { s with heap := h3, toks := tk3 } s' := by
      rintro JJ s' ⟨h6, tk6, m6, ns, rfl, F6, N6, hs, hj⟩
      refine ⟨hj, h6, tk6, m6, rfl, F6.ns, fun b o hb hbG e => ?_⟩
      rcases ho b o hb e with q | q
      · exact F6.keep _ _ q
      · exact (N6 _ (hs _ q hbG)).1
    refine wpAny_mono (turn C i _ ys h3 tk3 m₃ ot ⟨hi, tv, by simp⟩ hJ FC NC hGC) (fun _ s4 h4 => ?_) fun _ _ e => e
    refine wpAny_mono h4 (fun ok s5 h5 => ?_) fun _ _ e => e
    split at h5
    · rename_i c
      rw [if_pos c]
      exact wpAny_mono h5 (fun y s6 h6 => fin _ _ h6) fun _ _ e => e
    · rename_i c
      rw [if_neg c]
      exact fin _ _ h5
  · intro D h2 tk ys k hD hl2 hJ hns hk
    have hLg : g.get? env.locals = none := noneAt F'.above
    refine post D h2 tk ys k ⟨hns, fun b o e => hk b o (by rintro rfl; rw [hLg] at e; cases e) (by simp; rintro rfl; rw [n3] at e; cases e) (by rintro rfl; rw [nG.2.2] at e; cases e) (F'.keep _ _ e), F'.above⟩ (newsMore (fun p hp => ⟨hk _ _ (N' p hp).2.1 (by simpa using n4 p hp) (hGn p hp) (N' p hp).1, (N' p hp).2⟩) hl2 ?_ ?_) ?_ hJ
    · rintro rfl; obtain ⟨_, _, _, ho, _⟩ := F'.ns; rw [hD] at ho; cases ho
    · cases q : g.get? D with | none => rfl | some o => rw [F'.keep _ _ q] at hD; cases hD
    · intro p hp e; have := (N' p hp).1; rw [e, hD] at this; cases this
end
end
section
set_option maxHeartbeats 1000000

theorem fillNH (w : World) (h : Heap) : (Mine.hd.heap_1 w.params).In h → PySem.Challenge.rw_oc0123_01.most = some 63 := by
  k_fill
  intro _; rfl

local macro_rules | `(tactic| ktr_rel) => `(tactic| (repeat' (first
  | (walk_at "kA"; (fail_if_success (with_reducible first | refine gFor ?_ | refine gWhile ?_ | refine gIf ?_ | refine gCallref ?_ | refine gCallset ?_ | refine gComp ?_)); walk1)
  | walk_at "kB")))

/-- a name that the reader has met: nothing is changed -/
theorem hit_ok {prog : Program} {w : World} {A : Around} {s : Shared} {h₀ : Heap} {mean : ExcName → Option Value} {mg mb : Str → Option Value} {loose : List Str} {E : Value → Shared → Prop} {Q : Value → Shared → Prop}
    (X : (Mine.hd.heap_1 w.params).In h₀) (T : Top Mine.view loose mean mg mb h₀) (kp : ∀ b o, h₀.get? b = some o → s.heap.get? b = some o)
    {x dx S D G : Addr} {ml fl : List Str} {kvs : List (Str × Value)} {c : List (Str × Nat)} {f : Nat} {n : Str} {t5 t : Tok} (hI : IgnAt prog w s.heap x dx S D G ml fl kvs) (hc : CacheIs kvs c) (hcz : c.length < 1000)
    (hn : ∀ a ∈ [x, dx, S, D, G], h₀.get? a = none) {r : Nat} (hr : c.lookup n = some r) (hhd : A.handled = none) (hroom : A.depth + 8 < recursionLimit) (hunit : A.units + 50 < cLine)
    (h : ∀ (h' : Heap) (tk : Nat) tr, (∀ b o, s.heap.get? b = some o → h'.get? b = some o) → Q (.int (r : Nat) tr) { s with heap := h', toks := tk }) :
    wpAny (model prog w) A (call (.ref 165) [.ref x, fileV f t5, .str n t]) Q E s := by
  obtain ⟨Ii, ⟨t1, t2, t3, Id⟩, ⟨os, IS, hS⟩, ⟨ys, kk, IDd, hys⟩, ⟨oG, IG, hG⟩, ⟨e1, e2, e3, e4⟩, nm⟩ := hI
  refine' enter (binds := [("self", .ref x), ("filename", fileV f t5), ("modulename", .str n t)]) [(G, oG), (x, instObj 168 dx), (dx, ignDict w S D G t1 t2 t3), (S, os), (D, W.listOf ys.toArray kk)] X T kp ?hm ?ho ?hcd (by first | exact dr hroom | omega) ?hbind ?hloc ?hcell ?hco ?hgen ?hk ?_
  case ho => k_is
  case hcd => k_is
  case hbind => exact BindsTo.of_eq rfl
  case hloc => exact locs rfl
  case hcell => decide
  case hco => rfl
  case hgen => rfl
  case hk => rfl
  case hm =>
    intro q hq
    simp only [List.mem_cons, List.not_mem_nil, or_false] at hq
    rcases hq with rfl | rfl | rfl | rfl | rfl
    · exact ⟨IG, hn _ (by simp)⟩
    · exact ⟨Ii, hn _ (by simp)⟩
    · exact ⟨Id, hn _ (by simp)⟩
    · exact ⟨IS, hn _ (by simp)⟩
    · exact ⟨IDd, hn _ (by simp)⟩
  intro g L h₁ F N X' T' kg
  clear X T kp
  have e1' : @Ne Nat G x := Ne.symm e1
  have dG : ∀ h' ns, News g L h' ((G, oG) :: ns) → h'.DictOf (strKind prog w) G kvs := fun h' ns N => Heap.dictOf_iff.mpr ⟨oG, (N _ (.head _)).1, hG⟩
  have hsz : kvs.length ≤ sizeLine := by rw [sizeLine_eq, hc.len]; omega
  ktr_rel
  refine wpAny_If ?_
  ktr_rel
  refine wpAny_in_of (strKind_is _ _ _ _) nm (dG _ _ N).mapOf ?_
  ktr_rel
  have hcv : (valueAt kvs n).isSome = true := by
    cases e : valueAt kvs n with
    | some v => rfl
    | none => have := hc.none e; rw [hr] at this; cases this
  rw [hcv]
  obtain ⟨v, hv⟩ := Option.isSome_iff_exists.mp hcv
  obtain ⟨r', tr, hr', rfl⟩ := hc.some hv
  rw [hr] at hr'
  cases hr'
  ktr_rel
  refine wpAny_getItem_of (strKind_is _ _ _ _) (dG _ _ N).mapOf hv ?_
  refine h _ _ _ (keepAll F N kg ?_)
  intro q hq
  simp only [List.mem_cons, List.not_mem_nil, or_false] at hq
  rcases hq with rfl | rfl | rfl | rfl | rfl
  · exact IG
  · exact Ii
  · exact Id
  · exact IS
  · exact IDd
end
section
set_option maxHeartbeats 1000000

theorem notCell {g h : Heap} {L c : Addr} {o : Obj} {v : Option Value} {ns : List (Addr × Obj)} (N : News g L h ns) (hm : (c, o) ∈ ns) (hd : o.data = .cell v) {q : Addr × Obj} (hq : q ∈ ns) (hn : ∀ v, q.2.data ≠ .cell v) : q.1 ≠ c := fun e => by
  have z1 := (N _ hm).1
  have z2 := (N _ hq).1
  rw [e, z1] at z2
  cases z2
  exact hn _ hd
theorem dName : ∀ k r : Fin 2, (Txt.item "d-" ((k : Nat) : Int) ++ "." ++ ownS r : Str) = nameS k r := by decide +kernel
theorem nameOk : ∀ k r : Fin 2, PyData.strOk (nameS k r) = true := by decide +kernel
theorem PlacedAt.keeps {qs : List Ask} {h h' : Heap} {vs tk} (x : PlacedAt qs h vs tk) (k : ∀ b o, IsT o → h.get? b = some o → h'.get? b = some o) : PlacedAt qs h' vs tk := by
  induction x with
  | nil => exact .nil
  | cons ha hb _ ih => exact .cons (k _ _ ⟨_, _, rfl⟩ ha) (k _ _ ⟨_, _, rfl⟩ hb) ih
theorem PlacedAt.len {qs : List Ask} {h : Heap} {vs tk} (x : PlacedAt qs h vs tk) : vs.length = tk.length := by
  induction x with
  | nil => rfl
  | cons _ _ _ ih => simp [ih]
theorem PlacedAt.get {qs : List Ask} {h : Heap} {vs tk} (x : PlacedAt qs h vs tk) {j : Nat} {v : Value} (e : vs[j]? = some v) : ∃ u i a b z t y n n', v = .ref a ∧ tk[j]? = some (u, i) ∧ h.get? a = some (tupObj (.int (u : Nat) z) (.ref b) n') ∧ h.get? b = some (tupObj (.int (i : Nat) t) (.int (rt qs i : Nat) y) n) := by
  induction x generalizing j with
  | nil => simp at e
  | cons ha hb _ ih =>
    cases j with
    | zero => simp at e; exact ⟨_, _, _, _, _, _, _, _, _, e.symm, rfl, ha, hb⟩
    | succ j => simpa using ih (by simpa using e)
theorem nats_snoc {vs : List Value} {rs : List Nat} (h : NatsAre vs rs) (r : Nat) (t : Tok) : NatsAre (vs ++ [.int (r : Nat) t]) (rs ++ [r]) := by
  induction h with
  | nil => exact .cons r t .nil
  | cons _ _ _ ih => exact .cons _ _ ih
theorem rowsD_ok (qs : List Ask) : ∀ (ds : List (Nat × Nat)) (xs : List Str), (∀ x ∈ xs, PyData.strOk x = true) → ∀ d ∈ rowsD qs ds xs, kqdOk 8 d = true
  | [], _, _, d, hd => by simp [rowsD] at hd
  | _ :: _, [], _, d, hd => by simp [rowsD] at hd
  | (u, i) :: ds, x :: xs, hx, d, hd => by
    unfold rowsD at hd
    rcases List.mem_cons.mp hd with rfl | hd
    · simp [kqdOk, hx x (.head _)]
    · exact rowsD_ok qs ds xs (fun y hy => hx y (.tail _ hy)) d hd
theorem strN_ok (n : Nat) : PyData.strOk (strN n) = true := by
  unfold strN; split <;> decide +kernel
theorem read_ok (ml fl : List Str) (qs : List Ask) (rs : List Nat) : ∀ x ∈ (readS ml fl qs rs).2, PyData.strOk x = true := by
  refine snoc_ind (P := fun rs => ∀ x ∈ (readS ml fl qs rs).2, PyData.strOk x = true) (fun x hx => by simp [readS] at hx) (fun l a ih => ?_) rs
  rw [readS_snoc]
  unfold rStep
  cases qs[a]? with
  | none => exact ih
  | some q =>
    intro x hx
    rcases List.mem_append.mp hx with hx | hx
    · exact ih x hx
    · rw [List.mem_singleton.mp hx]; exact strN_ok _
theorem read_len2 (ml fl : List Str) (qs : List Ask) (rs : List Nat) (hrs : ∀ i ∈ rs, i < qs.length) : (readS ml fl qs rs).2.length = rs.length := by
  revert hrs
  refine snoc_ind (P := fun rs => (∀ i ∈ rs, i < qs.length) → (readS ml fl qs rs).2.length = rs.length) (fun _ => rfl) (fun l a ih hrs => ?_) rs
  rw [readS_snoc]
  unfold rStep
  have ha := hrs a (by simp)
  rw [show qs[a]? = some qs[a] by simp [ha]]
  simp [ih fun i hi => hrs i (List.mem_append_left _ hi)]
theorem ToldH.snoc {qs : List Ask} {h : Heap} {vs ds xs} (k : ToldH qs h vs ds xs) {u i : Nat} {a : Addr} {x : Str} {z1 z2 z3 z4 : Tok} {n : Nat} (ha : h.get? a = some (tup4 u i (rt qs i) x z1 z2 z3 z4 n)) : ToldH qs h (vs ++ [.ref a]) (ds ++ [(u, i)]) (xs ++ [x]) := by
  induction k with
  | nil => exact .cons ha .nil
  | cons hb _ ih => exact .cons hb ih
noncomputable def memo (c : List (Str × Nat)) (qs : List Ask) (i : Nat) : Str := match qs[i]? with | some q => strN (cVal c (nameS q.k q.r) 1) | none => ""
theorem read_memo {ml fl : List Str} {qs : List Ask} (ok : ∀ q ∈ qs, q.Ok) (rs : List Nat) (hrs : ∀ i ∈ rs, i < qs.length) : (readS ml fl qs rs).2 = rs.map (memo (readS ml fl qs rs).1 qs) := by
  refine (read_keep ok rs hrs).2.trans (List.map_congr_left fun i _ => ?_)
  unfold memo
  cases qs[i]? <;> rfl
theorem memo_of {c : List (Str × Nat)} {qs : List Ask} {i r : Nat} {q : Ask} (hq : qs[i]? = some q) (hr : c.lookup (nameS q.k q.r) = some r) : memo c qs i = strN r := by
  unfold memo
  rw [hq]
  show strN (cVal c _ 1) = _
  unfold cVal
  rw [hr]; rfl
/-- a reader's objects, in the ledger -/
structure RdIn (prog : Program) (w : World) (x dx S D G : Addr) (ml fl : List Str) (kvs : List (Str × Value)) (rest : List (Addr × Obj)) : Prop where
  inst : (x, instObj 168 dx) ∈ rest
  dict : ∃ t1 t2 t3, (dx, ignDict w S D G t1 t2 t3) ∈ rest
  set : ∃ os, (S, os) ∈ rest ∧ SetIs w ml os
  dirs : ∃ ys k, (D, W.listOf (List.toArray ys) k) ∈ rest ∧ StrsAre ys fl
  ign : ∃ o, (G, o) ∈ rest ∧ o.IsDictOf (strKind prog w) kvs
  ne : @Ne Nat x G ∧ @Ne Nat dx G ∧ @Ne Nat S G ∧ @Ne Nat D G
  nm : (G == sysModules) = false
section
variable {prog : Program} {w : World} {x dx S D G : Addr} {ml fl : List Str} {kvs : List (Str × Value)} {rest rest' : List (Addr × Obj)} {g h : Heap} {L : Addr} {ns : List (Addr × Obj)}
theorem RdIn.mono (R : RdIn prog w x dx S D G ml fl kvs rest) (hs : ∀ q ∈ rest, q ∈ rest') : RdIn prog w x dx S D G ml fl kvs rest' :=
  ⟨hs _ R.inst, let ⟨a, b, c, e⟩ := R.dict; ⟨a, b, c, hs _ e⟩, let ⟨o, e, k⟩ := R.set; ⟨o, hs _ e, k⟩, let ⟨y, k, e, z⟩ := R.dirs; ⟨y, k, hs _ e, z⟩, let ⟨o, e, k⟩ := R.ign; ⟨o, hs _ e, k⟩, R.ne, R.nm⟩
theorem RdIn.ignAt (R : RdIn prog w x dx S D G ml fl kvs rest) (N : News g L h ns) (hs : ∀ q ∈ rest, q ∈ ns) : IgnAt prog w h x dx S D G ml fl kvs :=
  ⟨(N _ (hs _ R.inst)).1, let ⟨a, b, c, e⟩ := R.dict; ⟨a, b, c, (N _ (hs _ e)).1⟩, let ⟨o, e, k⟩ := R.set; ⟨o, (N _ (hs _ e)).1, k⟩, let ⟨y, k, e, z⟩ := R.dirs; ⟨y, k, (N _ (hs _ e)).1, z⟩, let ⟨o, e, k⟩ := R.ign; ⟨o, (N _ (hs _ e)).1, k⟩, R.ne, R.nm⟩
theorem RdIn.outG (R : RdIn prog w x dx S D G ml fl kvs rest) (N : News g L h ns) (hs : ∀ q ∈ rest, q ∈ ns) : ∀ a ∈ [x, dx, S, D, G], g.get? a = none := by
  intro a ha
  simp only [List.mem_cons, List.not_mem_nil, or_false] at ha
  rcases ha with rfl | rfl | rfl | rfl | rfl
  · exact (N _ (hs _ R.inst)).2.2
  · obtain ⟨_, _, _, e⟩ := R.dict; exact (N _ (hs _ e)).2.2
  · obtain ⟨_, e, _⟩ := R.set; exact (N _ (hs _ e)).2.2
  · obtain ⟨_, _, e, _⟩ := R.dirs; exact (N _ (hs _ e)).2.2
  · obtain ⟨_, e, _⟩ := R.ign; exact (N _ (hs _ e)).2.2
theorem SetIs.notCell {os : Obj} (h : SetIs w ml os) (v : Option Value) : os.data ≠ .cell v := by
  rcases h with ⟨_, led, rfl⟩ | ⟨y, j, t, _, rfl⟩ <;> (intro e; cases e)
theorem RdIn.of (I : IgnAt prog w h x dx S D G ml fl kvs) : ∃ rl, RdIn prog w x dx S D G ml fl kvs rl ∧ (∀ q ∈ rl, h.get? q.1 = some q.2 ∧ q.1 ∈ [x, dx, S, D, G]) ∧ ∀ q ∈ rl, ∀ v, q.2.data ≠ .cell v := by
  obtain ⟨Ii, ⟨t1, t2, t3, Id⟩, ⟨os, IS, hS⟩, ⟨ys, kk, IDd, hys⟩, ⟨oG, IG, hG⟩, ne, nm⟩ := I
  refine ⟨[(x, instObj 168 dx), (dx, ignDict w S D G t1 t2 t3), (S, os), (D, W.listOf ys.toArray kk), (G, oG)], ⟨by simp, ⟨t1, t2, t3, by simp⟩, ⟨os, by simp, hS⟩, ⟨ys, kk, by simp, hys⟩, ⟨oG, by simp, hG⟩, ne, nm⟩, ?_, ?_⟩
  · intro q hq
    simp only [List.mem_cons, List.not_mem_nil, or_false] at hq
    rcases hq with rfl | rfl | rfl | rfl | rfl
    · exact ⟨Ii, by simp⟩
    · exact ⟨Id, by simp⟩
    · exact ⟨IS, by simp⟩
    · exact ⟨IDd, by simp⟩
    · exact ⟨IG, by simp⟩
  · intro q hq v
    simp only [List.mem_cons, List.not_mem_nil, or_false] at hq
    rcases hq with rfl | rfl | rfl | rfl | rfl
    · intro e; cases e
    · intro e; cases e
    · exact hS.notCell v
    · intro e; cases e
    · obtain ⟨es, ep, _, hd, _⟩ := hG
      intro e
      have e : oG.data = .cell v := e
      rw [hd] at e
      cases e
/-- all that the heap holds besides the base, but cells -/
theorem all_rest {m : Str → Option Value} (F : Fr g L h m) : ∃ rest, News g L h rest ∧ (∀ q ∈ rest, ∀ v, q.2.data ≠ .cell v) ∧ ∀ b o, b ≠ L → (∀ v, o.data ≠ .cell v) → h.get? b = some o → g.get? b = some o ∨ (b, o) ∈ rest := by
  classical
  obtain ⟨ot, No, ho⟩ := rest_ex g h L F.keep
  refine ⟨ot.filter fun q => decide (∀ v, q.2.data ≠ .cell v), fun q hq => No q (List.mem_filter.mp hq).1, fun q hq => by simpa using (List.mem_filter.mp hq).2, fun b o hb hc e => ?_⟩
  rcases ho b o hb e with q | q
  · exact .inl q
  · exact .inr (List.mem_filter.mpr ⟨q, by simpa using hc⟩)
theorem fr_ne {m : Str → Option Value} {o : Obj} (F : Fr g L h m) {b : Addr} (e : h.get? b = some o) (hd : ∀ es ep, o.data ≠ .dict es ep) : b ≠ L := by
  rintro rfl
  obtain ⟨_, es, ep, ho, hd', _⟩ := F.ns
  rw [e] at ho; cases ho
  exact hd _ _ hd'
theorem RdIn.all (I : IgnAt prog w h x dx S D G ml fl kvs) (hL : ∀ a ∈ [x, dx, S, D, G], a ≠ L ∧ g.get? a = none) (k : ∀ b o, b ≠ L → (∀ v, o.data ≠ .cell v) → h.get? b = some o → g.get? b = some o ∨ (b, o) ∈ rest) : RdIn prog w x dx S D G ml fl kvs rest := by
  obtain ⟨rl, R, h1, h2⟩ := RdIn.of I
  refine R.mono fun q hq => ?_
  obtain ⟨a, b⟩ := h1 q hq
  obtain ⟨c, d⟩ := hL _ b
  rcases k _ _ c (h2 q hq) a with z | z
  · rw [d] at z; cases z
  · exact z
theorem RdIn.neL (R : RdIn prog w x dx S D G ml fl kvs rest) (N : News g L h ns) (hs : ∀ q ∈ rest, q ∈ ns) : ∀ a ∈ [x, dx, S, D, G], a ≠ L ∧ g.get? a = none := by
  intro a ha
  refine ⟨?_, R.outG N hs a ha⟩
  simp only [List.mem_cons, List.not_mem_nil, or_false] at ha
  rcases ha with rfl | rfl | rfl | rfl | rfl
  · exact (N _ (hs _ R.inst)).2.1
  · obtain ⟨_, _, _, e⟩ := R.dict; exact (N _ (hs _ e)).2.1
  · obtain ⟨_, e, _⟩ := R.set; exact (N _ (hs _ e)).2.1
  · obtain ⟨_, _, e, _⟩ := R.dirs; exact (N _ (hs _ e)).2.1
  · obtain ⟨_, e, _⟩ := R.ign; exact (N _ (hs _ e)).2.1
theorem newsApp {a b : List (Addr × Obj)} (x : News g L h a) (y : News g L h b) : News g L h (a ++ b) := fun q hq => (List.mem_append.mp hq).elim (x q) (y q)
theorem regrowG {h' : Heap} {m : Str → Option Value} {cells : List (Addr × Obj)} (F : Fr g L h m) (N : News g L h (cells ++ rest)) (hc : ∀ q ∈ cells, ∃ v, q.2.data = .cell v) (hNC : ∀ q ∈ rest, ∀ v, q.2.data ≠ .cell v) {oG : Obj} (hG : (G, oG) ∈ rest)
    (k : ∀ b o, b ≠ G → h.get? b = some o → h'.get? b = some o) : Fr g L h' m ∧ ∃ rest', News g L h' (cells ++ rest') ∧ (∀ q ∈ rest', ∀ v, q.2.data ≠ .cell v) ∧ (∀ q ∈ rest, @Ne Nat q.1 G → q ∈ rest') ∧ ∀ b o, b ≠ L → (∀ v, o.data ≠ .cell v) → h'.get? b = some o → g.get? b = some o ∨ (b, o) ∈ rest' := by
  have nG := N _ (List.mem_append_right _ hG)
  have F' : Fr g L h' m := frWr (wr := [G]) F (fun b o hb e => k b o (by simpa using hb) e) (by simpa using Ne.symm nG.2.1) (by simpa using nG.2.2)
  obtain ⟨rest', N', a, b⟩ := all_rest F'
  refine ⟨F', rest', newsApp (fun q hq => ?_) N', a, fun q hq hne => ?_, b⟩
  · have nq := N q (List.mem_append_left _ hq)
    refine ⟨k _ _ (fun e => ?_) nq.1, nq.2⟩
    obtain ⟨v, hv⟩ := hc q hq
    have z := nG.1
    rw [← e, nq.1] at z
    have z : q.2 = oG := Option.some.inj z
    rw [z] at hv
    exact hNC _ hG v hv
  · have nq := N q (List.mem_append_right _ hq)
    rcases b _ _ nq.2.1 (hNC q hq) (k _ _ hne nq.1) with z | z
    · rw [nq.2.2] at z; cases z
    · exact z
theorem regrow {h' : Heap} {m : Str → Option Value} {cells : List (Addr × Obj)} (F : Fr g L h m) (N : News g L h (cells ++ rest)) (hNC : ∀ q ∈ rest, ∀ v, q.2.data ≠ .cell v)
    (k : ∀ b o, h.get? b = some o → h'.get? b = some o) : Fr g L h' m ∧ ∃ rest', News g L h' (cells ++ rest') ∧ (∀ q ∈ rest', ∀ v, q.2.data ≠ .cell v) ∧ (∀ q ∈ rest, q ∈ rest') ∧ ∀ b o, b ≠ L → (∀ v, o.data ≠ .cell v) → h'.get? b = some o → g.get? b = some o ∨ (b, o) ∈ rest' := by
  have F' := frKeep F k
  obtain ⟨rest', N', a, b⟩ := all_rest F'
  refine ⟨F', rest', newsApp (fun q hq => newsKeep N k q (List.mem_append_left _ hq)) N', a, fun q hq => ?_, b⟩
  have nq := N q (List.mem_append_right _ hq)
  rcases b _ _ nq.2.1 (hNC q hq) (k _ _ nq.1) with z | z
  · rw [nq.2.2] at z; cases z
  · exact z
theorem IgnAt.keepsG {h' : Heap} {H : Addr} (I : IgnAt prog w h x dx S D G ml fl kvs) (k : ∀ b o, b ≠ H → h.get? b = some o → h'.get? b = some o) (hne : ∀ a ∈ [x, dx, S, D, G], a ≠ H) : IgnAt prog w h' x dx S D G ml fl kvs := by
  obtain ⟨Ii, ⟨t1, t2, t3, Id⟩, ⟨os, IS, hS⟩, ⟨ys, kk, IDd, hys⟩, ⟨oG, IG, hG⟩, ne, nm⟩ := I
  exact ⟨k _ _ (hne _ (by simp)) Ii, ⟨t1, t2, t3, k _ _ (hne _ (by simp)) Id⟩, ⟨os, k _ _ (hne _ (by simp)) IS, hS⟩, ⟨ys, kk, k _ _ (hne _ (by simp)) IDd, hys⟩, ⟨oG, k _ _ (hne _ (by simp)) IG, hG⟩, ne, nm⟩
theorem isT_notCell {o : Obj} (t : IsT o) (v : Option Value) : o.data ≠ .cell v := by
  obtain ⟨xs, n, rfl⟩ := t
  intro e; cases e
theorem newIn {m : Str → Option Value} {B : Addr} (F : Fr g L h m) (hn : h.get? B = none) : B ≠ L ∧ g.get? B = none := by
  refine ⟨fun e => ?_, ?_⟩
  · obtain ⟨_, _, _, ho, _⟩ := F.ns
    rw [e, ho] at hn
    cases hn
  · cases z : g.get? B with
    | none => rfl
    | some o => rw [F.keep _ _ z] at hn; cases hn
/-- a heap that has grown, and what is new in it -/
theorem newsGrow {h' : Heap} {m : Str → Option Value} {rl : List (Addr × Obj)} (F : Fr g L h m) (N : News g L h ns) (k : ∀ b o, h.get? b = some o → h'.get? b = some o) (hr : ∀ q ∈ rl, h'.get? q.1 = some q.2 ∧ h.get? q.1 = none) (hs : ∀ q ∈ rest', q ∈ ns ∨ q ∈ rl) : News g L h' rest' := fun q hq => by
  rcases hs q hq with hq | hq
  · exact newsKeep N k q hq
  · obtain ⟨a, b⟩ := hr q hq
    refine ⟨a, fun e => ?_, ?_⟩
    · obtain ⟨_, _, _, ho, _⟩ := F.ns
      rw [e, ho] at b
      cases b
    · cases z : g.get? q.1 with
      | none => rfl
      | some o => rw [F.keep _ _ z] at b; cases b
end
end
section
set_option maxHeartbeats 1000000

theorem fillHT (w : World) (h : Heap) : (Mine.hd.heap_1 w.params).In h → PySem.Challenge.rw_oc0123_01.most = some 63 := by
  k_fill
  intro _; rfl

local macro_rules | `(tactic| ktr_rel) => `(tactic| (repeat' (first
  | (walk_at "kA"; (fail_if_success (with_reducible first | refine gFor ?_ | refine gWhile ?_ | refine gIf ?_ | refine gCallref ?_ | refine gComp ?_ | refine gCompA ?_ | refine gIfexp ?_ | refine gTruthy ?_ | refine gAppend ?_ | refine gSplit ?_ | refine gSlice ?_ | refine gCmpref ?_ | refine gSub ?_ | refine gSetitem ?_)); walk1)
  | walk_at "kB")))

theorem mem_mid {α : Type} (pre : List α) {rl rest : List α} {q : α} (h : q ∈ pre ++ (rl ++ rest)) : q ∈ pre ++ rest ∨ q ∈ rl := by
  rcases List.mem_append.mp h with h | h
  · exact .inl (List.mem_append_left _ h)
  · exact (List.mem_append.mp h).elim .inr fun h => .inl (List.mem_append_right _ h)
theorem mem_last {α : Type} (pre : List α) {a q : α} (h : q ∈ pre ++ [a]) : q ∈ a :: pre := by
  rcases List.mem_append.mp h with h | h
  · exact .tail _ h
  · rw [List.mem_singleton.mp h]; exact .head _
theorem holds_ok {prog : Program} {w : World} {A : Around} {s : Shared} {h₀ : Heap} {mean : ExcName → Option Value} {mg mb : Str → Option Value} {loose : List Str} {E : Value → Shared → Prop} {Q : Value → Shared → Prop}
    (X : (Mine.hd.heap_1 w.params).In h₀) (T : Top Mine.view loose mean mg mb h₀) (kp : ∀ b o, h₀.get? b = some o → s.heap.get? b = some o)
    {al fd md : Addr} {qs : List Ask} {fv mv : List Value} {fl ml : List Str} {kf km : Nat} (hal : AsksAt s.heap al qs) (hqz : qs.length = 8)
    (hfd : s.heap.get? fd = some (W.listOf fv.toArray kf)) (hmd : s.heap.get? md = some (W.listOf mv.toArray km)) (hfs : StrsAre fv fl) (hms : StrsAre mv ml)
    (hmo : ml = [] ∨ ml = [("-.rws" : Str)] ∨ ml = [("d" : Str)]) (hfl : fl.length ≤ 2 ∧ 0 < fl.length) (hff : ∀ d ∈ fl, folderOk d)
    (hhd : A.handled = none) (hroom : A.depth + 60 < recursionLimit) (hunit : A.units + 300 < cLine)
    (h : ∀ (h' : Heap) (tk : Nat), (∀ b o, s.heap.get? b = some o → h'.get? b = some o) → Q (.bool true) { s with heap := h', toks := tk }) :
    wpAny (model prog w) A (call (.ref 227) [.ref al, .ref fd, .ref md]) Q E s := by
  refine' enterC (binds := [("asks", .ref al), ("folders", .ref fd), ("modules", .ref md)]) [] X T kp ?hm ?ho ?hcd (by first | exact dr hroom | omega) ?hbind ?hkind ?hnd ?hco ?hgen ?hk ?_
  case ho => k_is
  case hcd => k_is
  case hbind => exact BindsTo.of_eq rfl
  case hkind => rfl
  case hnd => decide
  case hco => rfl
  case hgen => rfl
  case hk => rfl
  case hm => intro q hq; cases hq
  intro g L h₁ tk cells F N C X' T' kg lm
  clear X T kp lm
  obtain ⟨o7, o6, o5, o4, o3, o2, o1, rfl, d7, d6, d5, d4, d3, d2, d1⟩ := kc_seven C
  clear C
  replace d1 : o1.data = .cell (some (.ref al)) := d1
  replace d2 : o2.data = .cell none := d2
  replace d3 : o3.data = .cell none := d3
  replace d4 : o4.data = .cell none := d4
  replace d5 : o5.data = .cell none := d5
  replace d6 : o6.data = .cell none := d6
  replace d7 : o7.data = .cell none := d7
  replace N : News g L h₁ [(L + 7, o7), (L + 6, o6), (L + 5, o5), (L + 4, o4), (L + 3, o3), (L + 2, o2), (L + 1, o1)] := N
  replace F : Fr g L h₁ (fun y => if y = "modules" then some (.ref md) else if y = "folders" then some (.ref fd) else none) := F
  have halg : AsksAt g al qs := ⟨let ⟨k, e⟩ := hal.1; ⟨k, kg _ _ (by simp) e⟩, fun q hq => ⟨(hal.2 q hq).1.keeps fun o e => kg _ _ (by simp) e, (hal.2 q hq).2⟩⟩
  have hfdg := kg _ _ (by simp) hfd
  have hmdg := kg _ _ (by simp) hmd
  obtain ⟨⟨ka, hala⟩, hqs⟩ := id halg
  ktr_rel
  refine wpAny_Assign_Name ?_
  refine comp_evalC (cl := []) rfl (by decide) rfl (by decide) ?_
  ktr_rel
  rename Fr _ _ _ _ => F
  rename News _ _ _ _ => N
  refine comp_list (by exact hhd) F N (by exact ⟨_, F.keep _ _ hala, rfl, ka, rfl⟩) (by simp; omega) (fun it v s1 o vs Q E _ _ _ q => go_name it 0 v s1 Q E q) (fun i ys h => StrsAre ys ((qs.take i).map fun q : Ask => nameS q.k q.r)) (fun _ _ => .nil) (fun _ _ _ _ h _ => h) ?item1 ?post1
  case item1 =>
    intro C i v ys h4 tk4 m4 ot hv hJ F4 N4 k4
    clear F N
    obtain ⟨q, hq, rfl⟩ : ∃ q, qs[i]? = some q ∧ v = .ref q.a := by
      rw [List.getElem?_toArray, List.getElem?_map] at hv
      cases e : qs[i]? with
      | none => rw [e] at hv; cases hv
      | some q => rw [e] at hv; exact ⟨q, rfl, (Option.some.inj hv).symm⟩
    replace N4 : News g C h4 ot := fun q hq => N4 q (List.mem_append_right _ hq)
    obtain ⟨hqa, ok⟩ := hqs q (List.mem_of_getElem? hq)
    ktr_rel
    refine cstore F4 N4 fun h5 F5 N5 => ?_
    clear F4 N4
    refine ctest0 ?_
    ktr_rel
    refine name_ok (h₀ := g) X' T' F5.keep (q := q) (hqa.keeps fun o e => F5.keep _ _ e) ok (by exact hhd) (by show A.depth + 1 + 8 < _; exact dl hroom) (by show A.units + 3 + 50 < _; exact dl hunit) fun h6 t6 tk6 k6 => ?_
    have F6 := frKeep F5 k6
    have N6 := newsKeep N5 k6
    refine ⟨_, _, _, _, rfl, F6, N6, fun p hp => hp, ?_⟩
    rw [List.take_add_one, hq, List.map_append]
    exact strs_snoc hJ _ _
  case post1 =>
  intro nl h4 tk4 nv kn F4 N4 hnn _ hnv k4
  clear F N k4
  rw [List.take_of_length_le (by simp)] at hnv
  obtain ⟨rest, hrest⟩ : ∃ r, r = [(nl, W.listOf nv.toArray kn)] := ⟨_, rfl⟩
  have N : News g L h4 ((L + 7, o7) :: (L + 6, o6) :: (L + 5, o5) :: (L + 4, o4) :: (L + 3, o3) :: (L + 2, o2) :: (L + 1, o1) :: rest) := fun q hq => by
    rw [hrest] at hq
    exact N4 q (mem_last [(L + 7, o7), (L + 6, o6), (L + 5, o5), (L + 4, o4), (L + 3, o3), (L + 2, o2), (L + 1, o1)] hq)
  have hNC : ∀ q ∈ rest, ∀ v, q.2.data ≠ .cell v := fun q hq v e => by
    rw [hrest] at hq
    cases List.mem_singleton.mp hq
    cases e
  have mnl : (nl, W.listOf nv.toArray kn) ∈ rest := by rw [hrest]; exact .head _
  have F := F4
  clear F4 N4 hrest hnn
  refine storeX_C (c := L + 2) F N rfl (.tail (by show @Ne Nat (L + 7) (L + 2); omega) (.tail (by show @Ne Nat (L + 6) (L + 2); omega) (.tail (by show @Ne Nat (L + 5) (L + 2); omega) (.tail (by show @Ne Nat (L + 4) (L + 2); omega) (.tail (by show @Ne Nat (L + 3) (L + 2); omega) (.head ?hnea)))))) d2 ?conta
  case hnea =>
    intro q hq
    rcases List.mem_cons.mp hq with rfl | hq
    · show @Ne Nat (L + 1) (L + 2); omega
    exact notCell N (.tail _ (.tail _ (.tail _ (.tail _ (.tail _ (.head _)))))) d2 (q := q) (.tail _ (.tail _ (.tail _ (.tail _ (.tail _ (.tail _ (.tail _ hq))))))) (hNC q hq)
  clear F N d2
  intro ha o2a F N d2
  ktr_rel
  refine wpAny_If ?_
  ktr_rel
  refine comp_evalC (cl := []) rfl (by decide) rfl (by decide) ?_
  ktr_rel
  refine comp_list (by exact hhd) F N (by exact ⟨_, F.keep _ _ hala, rfl, ka, rfl⟩) (by simp; omega) (fun it v s1 o vs Q E _ _ _ q => go_name it 0 v s1 Q E q) (fun i ys h => StrsAre ys ((qs.take i).map fun q : Ask => nameS q.k q.r)) (fun _ _ => .nil) (fun _ _ _ _ h _ => h) ?item2 ?post2
  case item2 =>
    intro C i v ys h4 tk4 m4 ot hv hJ F4 N4 k4
    clear F N
    obtain ⟨q, hq, rfl⟩ : ∃ q, qs[i]? = some q ∧ v = .ref q.a := by
      rw [List.getElem?_toArray, List.getElem?_map] at hv
      cases e : qs[i]? with
      | none => rw [e] at hv; cases hv
      | some q => rw [e] at hv; exact ⟨q, rfl, (Option.some.inj hv).symm⟩
    replace N4 : News g C h4 ot := fun q hq => N4 q (List.mem_append_right _ hq)
    obtain ⟨hqa, ok⟩ := hqs q (List.mem_of_getElem? hq)
    obtain ⟨t1, t2, t3, t4, t5, nq, hqg⟩ := hqa
    ktr_rel
    refine cstore F4 N4 fun h5 F5 N5 => ?_
    clear F4 N4
    refine ctest0 ?_
    ktr_rel
    refine sub_tup (vs := [.int q.h t1, .int q.k t2, .int q.r t3, .int q.x t4, fileV q.f t5]) (F5.keep _ _ hqg) (by first | exact Int.natCast_nonneg _ | decide | omega) (by first | decide | exact n63 (by assumption) | omega) rfl ?_
    have hk2 : ((q.k : Nat) : Int) < 2 := by have := ok.k; omega
    walk1
    have hz : (Txt.item "d-" (q.k : Int)).length = 1 := by assumption
    ktr_rel
    rename Fr _ _ _ _ => F
    rename News _ _ _ _ => N
    refine sub_tup (vs := [.int q.h t1, .int q.k t2, .int q.r t3, .int q.x t4, fileV q.f t5]) (F.keep _ _ hqg) (by first | exact Int.natCast_nonneg _ | decide | omega) (by first | decide | exact n63 (by assumption) | omega) rfl ?_
    have hr2 := ok.r
    obtain ⟨to, hto⟩ := two_own ok.r _ _
    refine sub_tup (N _ (.head _)).1 (by first | exact Int.natCast_nonneg _ | decide | omega) (by first | decide | exact n63 (by assumption) | omega) hto ?_
    clear hto
    have hoz : (ownS q.r).length = 3 := by unfold ownS; split <;> rfl
    ktr_rel
    refine ⟨_, _, _, _, rfl, F, N, fun p hp => .tail _ hp, ?_⟩
    rw [List.take_add_one, hq, List.map_append]
    have e := dName ⟨q.k, ok.k⟩ ⟨q.r, ok.r⟩
    dsimp only at e
    rw [e]
    exact strs_snoc hJ _ _
  case post2 =>
  intro D2 h4 tk4 ys2 k2 F4 N4 hnn _ hys2 k4
  rw [List.take_of_length_le (by simp)] at hys2
  have hsok : ∀ x ∈ qs.map (fun q => nameS q.k q.r), PyData.strOk x = true := by
    intro x hx
    obtain ⟨q, hq, rfl⟩ := List.mem_map.mp hx
    exact nameOk ⟨q.k, (hqs q hq).2.k⟩ ⟨q.r, (hqs q hq).2.r⟩
  ktr_rel
  refine ne_strs (N4 _ (.tail _ (.tail _ (.tail _ (.tail _ (.tail _ (.tail _ (.tail _ (.tail _ mnl))))))))).1 (N4 _ (.head _)).1 hnv hys2 hsok hsok (by show A.units + 3 + 64 < _; exact dl hunit) ?_
  rw [decide_eq_true rfl]
  have F' := F4
  have N' := newsTail N4
  clear F N F4 N4 k4 hys2 hnn
  have hml : ml.length ≤ 1 := by rcases hmo with rfl | rfl | rfl <;> simp
  have hmo' : ∀ m ∈ ml, m = "-.rws" ∨ m = "d" := by
    intro m hm
    rcases hmo with rfl | rfl | rfl
    · cases hm
    · exact .inl (List.mem_singleton.mp hm)
    · exact .inr (List.mem_singleton.mp hm)
  ktr_rel
  refine new_ok (h₀ := g) X' T' F'.keep (F'.keep _ _ hmdg) (F'.keep _ _ hfdg) hms hfs hml hfl hff (by exact hhd) (by show A.depth + 1 + 31 < _; exact dl hroom) (by show A.units + 3 + 200 < _; exact dl hunit) fun h5 tk5 x dx S D G t5 k5 hfr I5 => ?_
  obtain ⟨rl, R1, hrl, hrc⟩ := RdIn.of I5
  have N := newsGrow (rest' := (L + 7, o7) :: (L + 6, o6) :: (L + 5, o5) :: (L + 4, o4) :: (L + 3, o3) :: (L + 2, o2a) :: (L + 1, o1) :: (rl ++ rest)) F' N' k5 (fun q hq => ⟨(hrl q hq).1, hfr _ (hrl q hq).2⟩) (fun q hq => mem_mid [(L + 7, o7), (L + 6, o6), (L + 5, o5), (L + 4, o4), (L + 3, o3), (L + 2, o2a), (L + 1, o1)] hq)
  have hnlx : ∀ a ∈ [x, dx, S, D, G], a ≠ nl := fun a ha e => by
    have z := hfr a ha
    rw [e, (N' _ (.tail _ (.tail _ (.tail _ (.tail _ (.tail _ (.tail _ (.tail _ mnl)))))))).1] at z
    cases z
  have F := frKeep F' k5
  replace hNC : ∀ q ∈ rl ++ rest, ∀ v, q.2.data ≠ .cell v := fun q hq => (List.mem_append.mp hq).elim (hrc q) (hNC q)
  replace mnl : (nl, W.listOf nv.toArray kn) ∈ rl ++ rest := List.mem_append_right _ mnl
  replace R1 := R1.mono (rest' := rl ++ rest) fun q hq => List.mem_append_left _ hq
  generalize rl ++ rest = rest1 at N hNC mnl R1
  clear F' N' k5 hfr I5 hrl hrc
  ktr_rel
  refine storeX_C (c := L + 3) F N rfl (.tail (by show @Ne Nat (L + 7) (L + 3); omega) (.tail (by show @Ne Nat (L + 6) (L + 3); omega) (.tail (by show @Ne Nat (L + 5) (L + 3); omega) (.tail (by show @Ne Nat (L + 4) (L + 3); omega) (.head ?hneb))))) d3 ?contb
  case hneb =>
    intro q hq
    rcases List.mem_cons.mp hq with rfl | hq
    · show @Ne Nat (L + 2) (L + 3); omega
    rcases List.mem_cons.mp hq with rfl | hq
    · show @Ne Nat (L + 1) (L + 3); omega
    exact notCell N (.tail _ (.tail _ (.tail _ (.tail _ (.head _))))) d3 (q := q) (.tail _ (.tail _ (.tail _ (.tail _ (.tail _ (.tail _ (.tail _ hq))))))) (hNC q hq)
  clear F N d3
  intro hb o3b F N d3
  ktr_rel
  refine new_ok (h₀ := g) X' T' F.keep (F.keep _ _ hmdg) (F.keep _ _ hfdg) hms hfs hml hfl hff (by exact hhd) (by show A.depth + 1 + 31 < _; exact dl hroom) (by show A.units + 3 + 200 < _; exact dl hunit) fun h6 tk6 x2 dx2 S2 D2' G2 t6 k6 hfr I6 => ?_
  obtain ⟨rl, R2, hrl, hrc⟩ := RdIn.of I6
  have N' := N
  have F' := F
  clear F N
  have N := newsGrow (rest' := (L + 7, o7) :: (L + 6, o6) :: (L + 5, o5) :: (L + 4, o4) :: (L + 3, o3b) :: (L + 2, o2a) :: (L + 1, o1) :: (rl ++ rest1)) F' N' k6 (fun q hq => ⟨(hrl q hq).1, hfr _ (hrl q hq).2⟩) (fun q hq => mem_mid [(L + 7, o7), (L + 6, o6), (L + 5, o5), (L + 4, o4), (L + 3, o3b), (L + 2, o2a), (L + 1, o1)] hq)
  have hnlx2 : ∀ a ∈ [x2, dx2, S2, D2', G2], a ≠ nl := fun a ha e => by
    have z := hfr a ha
    rw [e, (N' _ (.tail _ (.tail _ (.tail _ (.tail _ (.tail _ (.tail _ (.tail _ mnl)))))))).1] at z
    cases z
  have hG12 : ∀ a ∈ [x2, dx2, S2, D2', G2], a ≠ G := fun a ha e => by
    have z := hfr a ha
    obtain ⟨o, ho, _⟩ := R1.ign
    rw [e, (N' _ (.tail _ (.tail _ (.tail _ (.tail _ (.tail _ (.tail _ (.tail _ ho)))))))).1] at z
    cases z
  have F := frKeep F' k6
  replace hNC : ∀ q ∈ rl ++ rest1, ∀ v, q.2.data ≠ .cell v := fun q hq => (List.mem_append.mp hq).elim (hrc q) (hNC q)
  replace mnl : (nl, W.listOf nv.toArray kn) ∈ rl ++ rest1 := List.mem_append_right _ mnl
  replace R1 := R1.mono (rest' := rl ++ rest1) fun q hq => List.mem_append_right _ hq
  replace R2 := R2.mono (rest' := rl ++ rest1) fun q hq => List.mem_append_left _ hq
  generalize rl ++ rest1 = rest2 at N hNC mnl R1 R2
  clear F' N' k6 hfr I6 hrl hrc
  ktr_rel
  refine storeX_C (c := L + 4) F N rfl (.tail (by show @Ne Nat (L + 7) (L + 4); omega) (.tail (by show @Ne Nat (L + 6) (L + 4); omega) (.tail (by show @Ne Nat (L + 5) (L + 4); omega) (.head ?hnec)))) d4 ?contc
  case hnec =>
    intro q hq
    rcases List.mem_cons.mp hq with rfl | hq
    · show @Ne Nat (L + 3) (L + 4); omega
    rcases List.mem_cons.mp hq with rfl | hq
    · show @Ne Nat (L + 2) (L + 4); omega
    rcases List.mem_cons.mp hq with rfl | hq
    · show @Ne Nat (L + 1) (L + 4); omega
    exact notCell N (.tail _ (.tail _ (.tail _ (.head _)))) d4 (q := q) (.tail _ (.tail _ (.tail _ (.tail _ (.tail _ (.tail _ (.tail _ hq))))))) (hNC q hq)
  clear F N d4
  intro hc o4c F N d4
  ktr_rel
  have hrs : ∀ q ∈ rest2, q ∈ (L + 7, o7) :: (L + 6, o6) :: (L + 5, o5) :: (L + 4, o4c) :: (L + 3, o3b) :: (L + 2, o2a) :: (L + 1, o1) :: rest2 := fun q hq => .tail _ (.tail _ (.tail _ (.tail _ (.tail _ (.tail _ (.tail _ hq))))))
  have hout := R1.outG N hrs
  have hRL := R1.neL N hrs
  have hRL2 := R2.neL N hrs
  have hperm : ∀ a, a ∈ [G, x, dx, S, D] → a ∈ [x, dx, S, D, G] := fun a ha => by
    simp only [List.mem_cons, List.not_mem_nil, or_false] at ha ⊢
    rcases ha with h | h | h | h | h
    · exact .inr (.inr (.inr (.inr h)))
    · exact .inl h
    · exact .inr (.inl h)
    · exact .inr (.inr (.inl h))
    · exact .inr (.inr (.inr (.inl h)))
  have hgO : ∀ b o, g.get? b = some o → (hideAll hc [G, x, dx, S, D]).get? b = some o := fun b o e => hideAll_get _ (F.keep _ _ e) fun hb => by rw [hout b (hperm b hb)] at e; cases e
  refine swept_ok (h₀ := g) (hO := hideAll hc [G, x, dx, S, D]) X' T' F.keep (fun b o e => of_hideAll _ e) (fun a ha => hideAll_none _ ha) ⟨⟨ka, hgO _ _ hala⟩, fun q hq => ⟨(hqs q hq).1.keeps fun o e => hgO _ _ e, (hqs q hq).2⟩⟩ hqz (hideAll_get _ (N _ (hrs _ mnl)).1 fun hb => hnlx _ (hperm _ hb) rfl) hnv (R1.ignAt N hrs) (.cons .nil) hout hmo' hff (by exact hhd) (by show A.depth + 1 + 30 < _; exact dl hroom) (by show A.units + 3 + 150 < _; exact dl hunit) fun h7 tk7 B tv k7 dn kvs7 kp7 hBn hB hTo hPl I7 hC7 => ?_
  obtain ⟨oG, hGm, _⟩ := R1.ign
  obtain ⟨F7, rest3, N7, hNC3, hsub3, hall3⟩ := regrowG (cells := [(L + 7, o7), (L + 6, o6), (L + 5, o5), (L + 4, o4c), (L + 3, o3b), (L + 2, o2a), (L + 1, o1)]) F N (fun q hq => by
    simp only [List.mem_cons, List.not_mem_nil, or_false] at hq
    rcases hq with rfl | rfl | rfl | rfl | rfl | rfl | rfl
    · exact ⟨_, d7⟩
    · exact ⟨_, d6⟩
    · exact ⟨_, d5⟩
    · exact ⟨_, d4⟩
    · exact ⟨_, d3⟩
    · exact ⟨_, d2⟩
    · exact ⟨_, d1⟩) hNC hGm kp7
  have R1' := RdIn.all (rest := rest3) I7 hRL hall3
  have R2' := RdIn.all (rest := rest3) ((R2.ignAt N hrs).keepsG kp7 hG12) hRL2 hall3
  have mnl' := hsub3 _ mnl (fun e => hnlx G (by simp) e.symm)
  have mB : (B, W.listOf (List.toArray tv) k7) ∈ rest3 := by
    obtain ⟨z1, z2⟩ := newIn F hBn
    rcases hall3 _ _ z1 (fun v e => by cases e) hB with z | z
    · rw [z2] at z; cases z
    · exact z
  have hToK : ∀ h', (∀ b o, g.get? b = some o ∨ (b, o) ∈ rest3 → h'.get? b = some o) → ToldH qs h' tv dn (readS ml fl qs (dn.map (·.2))).2 := fun h' k => hTo.keeps fun b o t e => k b o (hall3 b o (Ns.notT F7.ns e t) (isT_notCell t) e)
  clear F N R1 R2 mnl hNC hsub3 hall3 hTo hB hBn kp7 I7 hgO hGm hrs
  replace N7 : News g L h7 ((L + 7, o7) :: (L + 6, o6) :: (L + 5, o5) :: (L + 4, o4c) :: (L + 3, o3b) :: (L + 2, o2a) :: (L + 1, o1) :: rest3) := N7
  ktr_rel
  rename Fr _ _ _ _ => F
  rename News _ _ _ _ => N
  refine placed_ok (h₀ := g) X' T' F.keep ⟨⟨ka, F.keep _ _ hala⟩, fun q hq => ⟨(hqs q hq).1.keeps fun o e => F.keep _ _ e, (hqs q hq).2⟩⟩ hqz (by exact hhd) (by show A.depth + 1 + 30 < _; exact dl hroom) (by show A.units + 3 + 150 < _; exact dl hunit) fun h8 tk8 pl pv k8 ps kp8 hPn hP hPa hPs => ?_
  cases placing_one hPl hPs
  have hdl : dn.length = 8 := by have := hPl.perm.length_eq; simpa using this
  have hpl : pv.length = dn.length := hPa.len
  obtain ⟨F8, rest4, N8, hNC4, hsub4, hall4⟩ := regrow (cells := [(L + 7, o7), (L + 6, o6), (L + 5, o5), (L + 4, o4c), (L + 3, o3b), (L + 2, o2a), (L + 1, o1)]) F N hNC3 kp8
  have R1 := R1'.mono hsub4
  have R2 := R2'.mono hsub4
  have mnl := hsub4 _ mnl'
  replace mB := hsub4 _ mB
  have mP : (pl, W.listOf (List.toArray pv) k8) ∈ rest4 := by
    obtain ⟨z1, z2⟩ := newIn F hPn
    rcases hall4 _ _ z1 (fun v e => by cases e) hP with z | z
    · rw [z2] at z; cases z
    · exact z
  replace hToK : ∀ h', (∀ b o, g.get? b = some o ∨ (b, o) ∈ rest4 → h'.get? b = some o) → ToldH qs h' tv dn (readS ml fl qs (dn.map (·.2))).2 := fun h' k => hToK h' fun b o e => k b o (e.imp id fun z => hsub4 _ z)
  have hPaK : ∀ h', (∀ b o, g.get? b = some o ∨ (b, o) ∈ rest4 → h'.get? b = some o) → PlacedAt qs h' pv dn := fun h' k => hPa.keeps fun b o t e => k b o (hall4 b o (Ns.notT F8.ns e t) (isT_notCell t) e)
  clear F N R1' R2' mnl' hNC3 hsub4 hall4 hPa hP hPn kp8 hPs
  have N : News g L h8 ((L + 7, o7) :: (L + 6, o6) :: (L + 5, o5) :: (L + 4, o4c) :: (L + 3, o3b) :: (L + 2, o2a) :: (L + 1, o1) :: rest4) := N8
  have F := F8
  have hNC := hNC4
  clear F8 N8 hNC4
  ktr_rel
  refine storeX_C (c := L + 5) F N rfl (.tail (by show @Ne Nat (L + 7) (L + 5); omega) (.tail (by show @Ne Nat (L + 6) (L + 5); omega) (.head ?hned))) d5 ?contd
  case hned =>
    intro q hq
    rcases List.mem_cons.mp hq with rfl | hq
    · show @Ne Nat (L + 4) (L + 5); omega
    rcases List.mem_cons.mp hq with rfl | hq
    · show @Ne Nat (L + 3) (L + 5); omega
    rcases List.mem_cons.mp hq with rfl | hq
    · show @Ne Nat (L + 2) (L + 5); omega
    rcases List.mem_cons.mp hq with rfl | hq
    · show @Ne Nat (L + 1) (L + 5); omega
    exact notCell N (.tail _ (.tail _ (.head _))) d5 (q := q) (.tail _ (.tail _ (.tail _ (.tail _ (.tail _ (.tail _ (.tail _ hq))))))) (hNC q hq)
  clear F N d5
  intro hd o5d F N d5
  ktr_rel
  refine wpAny_Assign_Name ?_
  refine comp_evalC (cl := []) rfl (by decide) rfl (by decide) ?_
  ktr_rel
  refine comp_list (by exact hhd) F N (by exact ⟨_, (N _ (.tail _ (.tail _ (.tail _ (.tail _ (.tail _ (.tail _ (.tail _ mP)))))))).1, rfl, k8, rfl⟩) (by simp; omega) (fun it v s1 o vs Q E h1 h2 h3 q => go_plain (T := "list_iterator") (by decide) h1 h2 h3 q) (fun i ys h => NatsAre ys ((dn.take i).map fun p : Nat × Nat => p.2)) (fun _ _ => .nil) (fun _ _ _ _ h _ => h) ?item3 ?post3
  case item3 =>
    intro C i v ys h4 tk4 m4 ot hv hJ F4 N4 k4
    clear F N
    have PA := hPaK h4 fun b o e => e.elim (F4.keep _ _) fun z => (N4 _ (List.mem_append_left _ (.tail _ (.tail _ (.tail _ (.tail _ (.tail _ (.tail _ (.tail _ z))))))))).1
    obtain ⟨u, i', a, b, z, t, y, n, n', rfl, hd, ha, hb⟩ := PA.get (by simpa using hv)
    have F40 := F4.ns
    have hbK : ∀ h9 m9 ns, Fr g C h9 m9 → News g C h9 ns → (∀ p ∈ ot, p ∈ ns) → h9.get? b = some (tupObj (.int (i' : Nat) t) (.int (rt qs i' : Nat) y) n) := by
      intro h9 m9 ns F9 N9 hs
      rcases k4.2 b _ (Ns.notT F40 hb ⟨_, _, rfl⟩) hb with q | q
      · exact F9.keep _ _ q
      · exact (N9 _ (hs _ q)).1
    replace N4 : News g C h4 ot := fun q hq => N4 q (List.mem_append_right _ hq)
    refine assign_Tuple_tuple (by exact hhd) ⟨_, ha, rfl, _, rfl⟩ rfl rfl fun h5 e5 => ?_
    have F5 := frExt F4 e5
    have N5 := newsExt N4 e5
    clear F4 N4
    ktr_rel
    refine cstore F5 N5 fun h6 F6 N6 => ?_
    clear F5 N5
    ktr_rel
    refine cstore F6 N6 fun h7 F7 N7 => ?_
    clear F6 N6
    ktr_rel
    refine sub_tup (hbK _ _ _ F7 N7 fun p hp => hp) (by first | exact Int.natCast_nonneg _ | decide | omega) (by first | decide | exact n63 (by assumption) | omega) rfl ?_
    refine ⟨_, _, _, _, rfl, F7, N7, fun p hp => hp, ?_⟩
    rw [List.take_add_one, hd, List.map_append]
    exact nats_snoc hJ _ _
  case post3 =>
  intro rw' h9 tk9 rv krw F9 N9 hnn hRn hNat k9
  obtain ⟨F10, rest5, N10, hNC5, hsub5, hall5⟩ := regrow (cells := [(L + 7, o7), (L + 6, o6), (L + 5, o5d), (L + 4, o4c), (L + 3, o3b), (L + 2, o2a), (L + 1, o1)]) F N hNC k9
  have mR : (rw', W.listOf (List.toArray rv) krw) ∈ rest5 := by
    obtain ⟨z1, z2⟩ := newIn F hRn
    rcases hall5 _ _ z1 (fun v e => by cases e) (N9 _ (.head _)).1 with z | z
    · rw [z2] at z; cases z
    · exact z
  replace R1 := R1.mono hsub5
  replace R2 := R2.mono hsub5
  replace mnl := hsub5 _ mnl
  replace mB := hsub5 _ mB
  replace mP := hsub5 _ mP
  replace hToK : ∀ h', (∀ b o, g.get? b = some o ∨ (b, o) ∈ rest5 → h'.get? b = some o) → ToldH qs h' tv dn (readS ml fl qs (dn.map (·.2))).2 := fun h' k => hToK h' fun b o e => k b o (e.imp id fun z => hsub5 _ z)
  replace hPaK : ∀ h', (∀ b o, g.get? b = some o ∨ (b, o) ∈ rest5 → h'.get? b = some o) → PlacedAt qs h' pv dn := fun h' k => hPaK h' fun b o e => k b o (e.imp id fun z => hsub5 _ z)
  clear F N F9 N9 hnn hRn k9 hsub5 hall5 hNC
  have N : News g L h9 ((L + 7, o7) :: (L + 6, o6) :: (L + 5, o5d) :: (L + 4, o4c) :: (L + 3, o3b) :: (L + 2, o2a) :: (L + 1, o1) :: rest5) := N10
  have F := F10
  have hNC := hNC5
  clear F10 N10 hNC5
  rw [List.take_of_length_le (by simp [hpl])] at hNat
  have hr8 : ∀ r ∈ dn.map (fun p : Nat × Nat => p.2), r < qs.length := fun r hr => by
    have := hPl.perm.mem_iff.mp hr
    simp at this; omega
  ktr_rel
  refine storeX_C (c := L + 6) F N rfl (.tail (by show @Ne Nat (L + 7) (L + 6); omega) (.head ?hnee)) d6 ?conte
  case hnee =>
    intro q hq
    rcases List.mem_cons.mp hq with rfl | hq
    · show @Ne Nat (L + 5) (L + 6); omega
    rcases List.mem_cons.mp hq with rfl | hq
    · show @Ne Nat (L + 4) (L + 6); omega
    rcases List.mem_cons.mp hq with rfl | hq
    · show @Ne Nat (L + 3) (L + 6); omega
    rcases List.mem_cons.mp hq with rfl | hq
    · show @Ne Nat (L + 2) (L + 6); omega
    rcases List.mem_cons.mp hq with rfl | hq
    · show @Ne Nat (L + 1) (L + 6); omega
    exact notCell N (.tail _ (.head _)) d6 (q := q) (.tail _ (.tail _ (.tail _ (.tail _ (.tail _ (.tail _ (.tail _ hq))))))) (hNC q hq)
  clear F N d6
  intro he o6e F N d6
  ktr_rel
  refine wanted_ok (h₀ := g) X' T' F.keep ⟨⟨ka, F.keep _ _ hala⟩, fun q hq => ⟨(hqs q hq).1.keeps fun o e => F.keep _ _ e, (hqs q hq).2⟩⟩ (.inl ⟨rv, krw, (N _ (.tail _ (.tail _ (.tail _ (.tail _ (.tail _ (.tail _ (.tail _ mR)))))))).1, hNat⟩) hr8 (by omega) (by simp; omega) (F.keep _ _ hmdg) (F.keep _ _ hfdg) hms hfs hmo hfl.1 hff (by exact hhd) (by show A.depth + 1 + 30 < _; exact dl hroom) (by show A.units + 3 + 150 < _; exact dl hunit) fun h9 tk9 an av k9 kp9 hAn hA hAv => ?_
  obtain ⟨F10, rest6, N10, hNC6, hsub6, hall6⟩ := regrow (cells := [(L + 7, o7), (L + 6, o6e), (L + 5, o5d), (L + 4, o4c), (L + 3, o3b), (L + 2, o2a), (L + 1, o1)]) F N hNC kp9
  have mA : (an, W.listOf (List.toArray av) k9) ∈ rest6 := by
    obtain ⟨z1, z2⟩ := newIn F hAn
    rcases hall6 _ _ z1 (fun v e => by cases e) hA with z | z
    · rw [z2] at z; cases z
    · exact z
  replace R1 := R1.mono hsub6
  replace R2 := R2.mono hsub6
  replace mnl := hsub6 _ mnl
  replace mB := hsub6 _ mB
  replace mP := hsub6 _ mP
  replace mR := hsub6 _ mR
  replace hToK : ∀ h', (∀ b o, g.get? b = some o ∨ (b, o) ∈ rest6 → h'.get? b = some o) → ToldH qs h' tv dn (readS ml fl qs (dn.map (·.2))).2 := fun h' k => hToK h' fun b o e => k b o (e.imp id fun z => hsub6 _ z)
  replace hPaK : ∀ h', (∀ b o, g.get? b = some o ∨ (b, o) ∈ rest6 → h'.get? b = some o) → PlacedAt qs h' pv dn := fun h' k => hPaK h' fun b o e => k b o (e.imp id fun z => hsub6 _ z)
  clear F N kp9 hAn hA hsub6 hall6 hNC
  have N : News g L h9 ((L + 7, o7) :: (L + 6, o6e) :: (L + 5, o5d) :: (L + 4, o4c) :: (L + 3, o3b) :: (L + 2, o2a) :: (L + 1, o1) :: rest6) := N10
  have F := F10
  have hNC := hNC6
  clear F10 N10 hNC6
  have htog := tog_all (ml := ml) (fl := fl) (fun q hq => (hqs q hq).2) (dn.map fun p : Nat × Nat => p.2)
  have hal2 := read_len2 ml fl qs _ hr8
  rw [htog.1] at hal2
  generalize han : (wantS ml fl qs (dn.map fun p : Nat × Nat => p.2)).2 = ansL at hAv hal2 htog
  have hal8 : ansL.length = 8 := by rw [hal2]; simp [hdl]
  have hav8 : av.length = 8 := by rw [strs_len hAv, hal8]
  ktr_rel
  refine storeX_C (c := L + 7) F N rfl (.head ?hnef) d7 ?contf
  case hnef =>
    intro q hq
    rcases List.mem_cons.mp hq with rfl | hq
    · show @Ne Nat (L + 6) (L + 7); omega
    rcases List.mem_cons.mp hq with rfl | hq
    · show @Ne Nat (L + 5) (L + 7); omega
    rcases List.mem_cons.mp hq with rfl | hq
    · show @Ne Nat (L + 4) (L + 7); omega
    rcases List.mem_cons.mp hq with rfl | hq
    · show @Ne Nat (L + 3) (L + 7); omega
    rcases List.mem_cons.mp hq with rfl | hq
    · show @Ne Nat (L + 2) (L + 7); omega
    rcases List.mem_cons.mp hq with rfl | hq
    · show @Ne Nat (L + 1) (L + 7); omega
    exact notCell N (.head _) d7 (q := q) (.tail _ (.tail _ (.tail _ (.tail _ (.tail _ (.tail _ (.tail _ hq))))))) (hNC q hq)
  clear F N d7
  intro hf o7f F N d7
  ktr_rel
  refine wpAny_If ?_
  ktr_rel
  refine comp_evalC (cl := [("row", L + 6), ("placed", L + 5), ("answers", L + 7)]) rfl (by decide) rfl (by decide) ?_
  ktr_rel
  rename IsRange _ _ _ _ _ _ _ _ => hR
  rename Fr _ _ _ _ => F
  rename News _ _ _ _ => N
  refine comp_range (n := 8) (by exact hhd) F N hR (by decide) (fun i ys h => ToldH qs h ys (dn.take i) (ansL.take i)) (fun h _ => .nil) (fun i ys h h' x k => x.keeps fun b o t e => k b o e t) ?item4 ?post4
  case item4 =>
    rintro C i v ys h4 tk4 m4 ot ⟨hi, ti, rfl⟩ hJ F4 N4 k4
    clear F N
    have F40 := F4.ns
    have inOt : ∀ q ∈ rest6, q ∈ ot := fun q hq => by
      have nq := N4 q (List.mem_append_left _ (.tail _ (.tail _ (.tail _ (.tail _ (.tail _ (.tail _ (.tail _ hq))))))))
      rcases k4.2 _ _ nq.2.1 nq.1 with z | z
      · rw [nq.2.2] at z; cases z
      · exact z
    have PA := hPaK h4 fun b o e => e.elim (F4.keep _ _) fun z => (N4 _ (List.mem_append_left _ (.tail _ (.tail _ (.tail _ (.tail _ (.tail _ (.tail _ (.tail _ z))))))))).1
    obtain ⟨pvi, hpvi⟩ : ∃ v, pv[i]? = some v := ⟨pv[i]'(by omega), by simp⟩
    obtain ⟨u, i', a, b, z, t, y, n, n', rfl, hd, ha, hb⟩ := PA.get hpvi
    obtain ⟨rvi, hrvi⟩ : ∃ v, rv[i]? = some v := ⟨rv[i]'(by have := hNat.len; simp at this; omega), by simp⟩
    obtain ⟨r', tr, hr', rfl⟩ := hNat.get hrvi
    rw [List.getElem?_map, hd] at hr'
    cases hr'
    obtain ⟨avi, havi⟩ : ∃ v, av[i]? = some v := ⟨av[i]'(by omega), by simp⟩
    obtain ⟨ai, ta, hai, rfl⟩ := strsGet hAv havi
    have keepT : ∀ b' o', IsT o' → h4.get? b' = some o' → ∀ h9 m9 ns, Fr g C h9 m9 → News g C h9 ns → (∀ p ∈ ot, p ∈ ns) → h9.get? b' = some o' := by
      intro b' o' hT' e' h9 m9 ns F9 N9 hs
      rcases k4.2 b' _ (Ns.notT F40 e' hT') e' with q | q
      · exact F9.keep _ _ q
      · exact (N9 _ (hs _ q)).1
    replace N4 : News g C h4 ((L + 7, o7f) :: (L + 6, o6e) :: (L + 5, o5d) :: ot) := fun q hq => by
      revert q hq
      refine fC ?_ (fC ?_ (fC ?_ (fun q hq => ?_)))
      · exact N4 _ (List.mem_append_left _ (.head _))
      · exact N4 _ (List.mem_append_left _ (.tail _ (.head _)))
      · exact N4 _ (List.mem_append_left _ (.tail _ (.tail _ (.head _))))
      · exact N4 _ (List.mem_append_right _ hq)
    ktr_rel
    refine cstore F4 N4 fun h5 F5 N5 => ?_
    clear F4 N4
    refine ctest0 ?_
    have hot5 : ∀ p ∈ ot, p ∈ (L + 7, o7f) :: (L + 6, o6e) :: (L + 5, o5d) :: ot := fun p hp => .tail _ (.tail _ (.tail _ hp))
    have ha5 := keepT _ _ ⟨_, _, rfl⟩ ha _ _ _ F5 N5 hot5
    have hb5 := keepT _ _ ⟨_, _, rfl⟩ hb _ _ _ F5 N5 hot5
    ktr_rel
    refine sub_list (v := .ref a) (N5 _ (hot5 _ (inOt _ mP))).1 (by first | exact Int.natCast_nonneg _ | decide | omega) (by first | decide | exact n63 (by assumption) | omega) (by simpa using hpvi) ?_
    ktr_rel
    refine sub_tup ha5 (by first | exact Int.natCast_nonneg _ | decide | omega) (by first | decide | exact n63 (by assumption) | omega) rfl ?_
    ktr_rel
    refine sub_list (v := .int (i' : Nat) tr) (N5 _ (hot5 _ (inOt _ mR))).1 (by first | exact Int.natCast_nonneg _ | decide | omega) (by first | decide | exact n63 (by assumption) | omega) (by simpa using hrvi) ?_
    ktr_rel
    refine sub_list (v := .ref a) (N5 _ (hot5 _ (inOt _ mP))).1 (by first | exact Int.natCast_nonneg _ | decide | omega) (by first | decide | exact n63 (by assumption) | omega) (by simpa using hpvi) ?_
    ktr_rel
    refine sub_tup ha5 (by first | exact Int.natCast_nonneg _ | decide | omega) (by first | decide | exact n63 (by assumption) | omega) rfl ?_
    ktr_rel
    refine sub_tup hb5 (by first | exact Int.natCast_nonneg _ | decide | omega) (by first | decide | exact n63 (by assumption) | omega) rfl ?_
    ktr_rel
    refine sub_list (v := .str ai ta) (N5 _ (hot5 _ (inOt _ mA))).1 (by first | exact Int.natCast_nonneg _ | decide | omega) (by first | decide | exact n63 (by assumption) | omega) (by simpa using havi) ?_
    ktr_rel
    rename Fr _ _ _ _ => F
    rename News _ _ _ _ => N
    refine ⟨_, _, _, _, rfl, F, N, fun p hp => .tail _ (hot5 p hp), ?_⟩
    rw [List.take_add_one, hd, List.take_add_one, hai]
    exact (hJ.keeps fun b' o' hT' e' => keepT b' o' hT' e' _ _ _ F N fun p hp => .tail _ (hot5 p hp)).snoc (N _ (.head _)).1
  case post4 =>
  intro D4 h10 tk10 ys4 k4 F10 N10 hnn _ hT4 kp10
  rw [List.take_of_length_le (by omega), List.take_of_length_le (by omega)] at hT4
  have hTB := hToK h10 fun b o e => e.elim (F10.keep _ _) fun z => (N10 _ (.tail _ (.tail _ (.tail _ (.tail _ (.tail _ (.tail _ (.tail _ (.tail _ z))))))))).1
  have hrok := read_ok ml fl qs (dn.map fun p : Nat × Nat => p.2)
  ktr_rel
  refine ne_dats (r := true) (N10 _ (.tail _ (.tail _ (.tail _ (.tail _ (.tail _ (.tail _ (.tail _ (.tail _ mB))))))))).1 (N10 _ (.head _)).1 hTB.dats hT4.dats (rowsD_ok qs _ _ hrok) (rowsD_ok qs _ _ (by rw [← htog.1]; exact hrok)) (by show A.units + 3 + 64 < _; exact dl hunit) (by rw [htog.1]; simp) ?_
  have F' := F10
  have N' := newsTail N10
  clear F N F10 N10 hT4 hTB kp10 hnn
  ktr_rel
  refine wpAny_If ?_
  ktr_rel
  refine comp_evalC (cl := [("reader", L + 3), ("names", L + 2)]) rfl (by decide) rfl (by decide) ?_
  ktr_rel
  obtain ⟨hk1, hk2⟩ := read_keep (ml := ml) (fl := fl) (fun q hq => (hqs q hq).2) (dn.map fun p : Nat × Nat => p.2) hr8
  have hk3 := read_memo (ml := ml) (fl := fl) (fun q hq => (hqs q hq).2) (dn.map fun p : Nat × Nat => p.2) hr8
  clear hk2
  have hrd := read_len ml fl qs (dn.map fun p : Nat × Nat => p.2)
  rw [List.length_map, hdl] at hrd
  have hbits := read_bits ml fl qs (dn.map fun p : Nat × Nat => p.2)
  refine comp_list (by exact hhd) F' N' (by exact ⟨_, (N' _ (.tail _ (.tail _ (.tail _ (.tail _ (.tail _ (.tail _ (.tail _ mR)))))))).1, rfl, krw, rfl⟩) (by have := hNat.len; simp at this ⊢; omega) (fun it v s1 o vs Q E _ _ _ q => go_name it 0 v s1 Q E q)
    (fun j ys h => StrsAre ys (((dn.map fun p : Nat × Nat => p.2).take j).map (memo (readS ml fl qs (dn.map fun p : Nat × Nat => p.2)).1 qs))) (fun _ _ => .nil) (fun _ _ _ _ h _ => h) ?item5 ?post5
  case item5 =>
    intro C j v ys h4 tk4 m4 ot hv hJ F4 N4 k4
    clear F' N'
    obtain ⟨r, tr, hr, rfl⟩ := hNat.get (by simpa using hv)
    have hrm : r ∈ dn.map fun p : Nat × Nat => p.2 := List.mem_of_getElem? hr
    obtain ⟨q, hq⟩ : ∃ q, qs[r]? = some q := ⟨qs[r]'(hr8 r hrm), by simp [hr8 r hrm]⟩
    obtain ⟨r0, hr0⟩ := Option.isSome_iff_exists.mp (hk1 r hrm q hq)
    have hr01 : r0 ≤ 1 := by obtain ⟨k, hk⟩ := lookup_mem hr0; exact hbits _ hk
    obtain ⟨nmv, hnmv⟩ : ∃ v, nv[r]? = some v := ⟨nv[r]'(by have := strs_len hnv; simp at this; have := hr8 r hrm; omega), by simp⟩
    obtain ⟨nm', tn, hnm, rfl⟩ := strsGet hnv hnmv
    rw [List.getElem?_map, hq] at hnm
    cases hnm
    have inOt : ∀ q ∈ rest6, q ∈ ot := fun q hq => by
      have nq := N4 q (List.mem_append_left _ (.tail _ (.tail _ (.tail _ (.tail _ (.tail _ (.tail _ (.tail _ hq))))))))
      rcases k4.2 _ _ nq.2.1 nq.1 with z | z
      · rw [nq.2.2] at z; cases z
      · exact z
    obtain ⟨dt1, dt2, dt3, hdx⟩ := R1.dict
    replace N4 : News g C h4 ((L + 3, o3b) :: (L + 2, o2a) :: (x, instObj 168 dx) :: (dx, ignDict w S D G dt1 dt2 dt3) :: ot) := fun q hq => by
      revert q hq
      refine fC ?_ (fC ?_ (fC ?_ (fC ?_ (fun q hq => ?_))))
      · exact N4 _ (List.mem_append_left _ (.tail _ (.tail _ (.tail _ (.tail _ (.head _))))))
      · exact N4 _ (List.mem_append_left _ (.tail _ (.tail _ (.tail _ (.tail _ (.tail _ (.head _)))))))
      · exact N4 _ (List.mem_append_right _ (inOt _ R1.inst))
      · exact N4 _ (List.mem_append_right _ (inOt _ hdx))
      · exact N4 _ (List.mem_append_right _ hq)
    have hot5 : ∀ p ∈ ot, p ∈ (L + 3, o3b) :: (L + 2, o2a) :: (x, instObj 168 dx) :: (dx, ignDict w S D G dt1 dt2 dt3) :: ot := fun p hp => .tail _ (.tail _ (.tail _ (.tail _ hp)))
    ktr_rel
    refine cstore F4 N4 fun h5 F5 N5 => ?_
    clear F4 N4
    refine ctest0 ?_
    ktr_rel
    refine sub_list (v := .str (nameS q.k q.r) tn) (N5 _ (hot5 _ (inOt _ mnl))).1 (by omega) (by have := hr8 r hrm; omega) (by simpa using hnmv) ?_
    ktr_rel
    have e5 : Value.none = fileV 5 0 := rfl
    rw [e5]
    refine hit_ok (h₀ := g) (f := 5) X' T' F5.keep (R1.ignAt N5 fun q hq => hot5 _ (inOt _ hq)) hC7 (by omega) (R1.outG N5 fun q hq => hot5 _ (inOt _ hq)) hr0 (by exact hhd) (by show A.depth + 1 + 8 < _; exact dl hroom) (by show A.units + 3 + 50 < _; exact dl hunit) fun h6 tk6 t6' k6 => ?_
    have F6 := frKeep F5 k6
    have N6 := newsKeep N5 k6
    clear F5 N5
    ktr_rel
    refine ⟨_, _, _, _, rfl, F6, N6, fun p hp => hot5 p hp, ?_⟩
    rw [List.take_add_one, hr, List.map_append, strN_of hr01]
    show StrsAre _ (_ ++ [memo _ qs r])
    rw [memo_of hq hr0]
    exact strs_snoc hJ _ _
  case post5 =>
  intro D5 h11 tk11 ys5 k5 F11 N11 hnn _ hS5 kp11
  rw [List.take_of_length_le (by have := hNat.len; simp at this ⊢; omega), ← hk3] at hS5
  ktr_rel
  refine ne_strs (N11 _ (.head _)).1 (N11 _ (.tail _ (.tail _ (.tail _ (.tail _ (.tail _ (.tail _ (.tail _ (.tail _ mA))))))))).1 hS5 hAv hrok (by rw [← htog.1]; exact hrok) (by show A.units + 3 + 64 < _; exact dl hunit) ?_
  rw [decide_eq_true htog.1]
  have F := F11
  have N := newsTail N11
  clear F' N' F11 N11 kp11 hnn hS5
  ktr_rel
  obtain ⟨dt1, dt2, dt3, hdx⟩ := R2.dict
  obtain ⟨os2, hS2, hSi2⟩ := R2.set
  obtain ⟨dy2, dk2, hD2, hDs2⟩ := R2.dirs
  obtain ⟨oG2, hG2, hGd2⟩ := R2.ign
  obtain ⟨ne1, ne2, ne3, ne4⟩ := R2.ne
  have nm2 := R2.nm
  have hm7 : ∀ q ∈ rest6, q ∈ (L + 7, o7f) :: (L + 6, o6e) :: (L + 5, o5d) :: (L + 4, o4c) :: (L + 3, o3b) :: (L + 2, o2a) :: (L + 1, o1) :: rest6 := fun q hq => .tail _ (.tail _ (.tail _ (.tail _ (.tail _ (.tail _ (.tail _ hq))))))
  have hGn : ∀ p ∈ [(L + 4, o4c), (L + 2, o2a), (L + 1, o1), (x2, instObj 168 dx2), (dx2, ignDict w S2 D2' G2 dt1 dt2 dt3), (S2, os2), (D2', W.listOf (List.toArray dy2) dk2), (nl, W.listOf nv.toArray kn)], @Ne Nat p.1 G2 := by
    intro p hp
    simp only [List.mem_cons, List.not_mem_nil, or_false] at hp
    rcases hp with rfl | rfl | rfl | rfl | rfl | rfl | rfl | rfl
    · exact Ne.symm (notCell N (.tail _ (.tail _ (.tail _ (.head _)))) d4 (hm7 _ hG2) (hNC _ hG2))
    · exact Ne.symm (notCell N (.tail _ (.tail _ (.tail _ (.tail _ (.tail _ (.head _)))))) d2 (hm7 _ hG2) (hNC _ hG2))
    · exact Ne.symm (notCell N (.tail _ (.tail _ (.tail _ (.tail _ (.tail _ (.tail _ (.head _))))))) d1 (hm7 _ hG2) (hNC _ hG2))
    · exact ne1
    · exact ne2
    · exact ne3
    · exact ne4
    · exact Ne.symm (hnlx2 G2 (by simp))
  have NG : News g L h11 [(G2, oG2)] := fun q hq => by
    cases List.mem_singleton.mp hq
    exact N _ (hm7 _ hG2)
  have N2 : News g L h11 [(L + 4, o4c), (L + 2, o2a), (L + 1, o1), (x2, instObj 168 dx2), (dx2, ignDict w S2 D2' G2 dt1 dt2 dt3), (S2, os2), (D2', W.listOf (List.toArray dy2) dk2), (nl, W.listOf nv.toArray kn)] := by
    intro p hp
    simp only [List.mem_cons, List.not_mem_nil, or_false] at hp
    rcases hp with rfl | rfl | rfl | rfl | rfl | rfl | rfl | rfl
    · exact N _ (.tail _ (.tail _ (.tail _ (.head _))))
    · exact N _ (.tail _ (.tail _ (.tail _ (.tail _ (.tail _ (.head _))))))
    · exact N _ (.tail _ (.tail _ (.tail _ (.tail _ (.tail _ (.tail _ (.head _)))))))
    · exact N _ (hm7 _ R2.inst)
    · exact N _ (hm7 _ hdx)
    · exact N _ (hm7 _ hS2)
    · exact N _ (hm7 _ hD2)
    · exact N _ (hm7 _ mnl)
  clear N
  refine comp_assignC (cl := [("second", L + 4), ("names", L + 2), ("asks", L + 1)]) rfl rfl (by decide) rfl (by decide) rfl rfl ?_
  ktr_rel
  rename IsRange _ _ _ _ _ _ _ _ => hR2
  rename_i hkk
  rename Fr _ _ _ _ => F
  rename News _ _ _ _ => N
  have NG' := newsKeep NG hkk
  refine comp_rangeM (G := G2) (oG := oG2) (n := 8) rfl (by exact hhd) F N NG' hGn hR2 (by decide)
    (fun j ys h => ∃ kvs o, h.get? G2 = some o ∧ o.IsDictOf (strKind prog w) kvs ∧ CacheIs kvs (readS ml fl qs (List.range j)).1 ∧ StrsAre ys (readS ml fl qs (List.range j)).2)
    (fun h k => ⟨_, oG2, k _ _ (NG' _ (.head _)).1, hGd2, .cons .nil, .nil⟩) (fun j ys h h' ⟨kvs, o, e, r⟩ k => ⟨kvs, o, k _ _ e (.inr rfl), r⟩) ?item6 ?post6
  case item6 =>
    rintro C j v ys h4 tk4 m4 ot ⟨hj, tj, rfl⟩ ⟨kvs4, o4', hG4, hI4, hC4, hS4⟩ F4 N4 hGC
    have hGg : g.get? G2 = none := (NG _ (.head _)).2.2
    clear F N NG NG'
    obtain ⟨q, hq⟩ : ∃ q, qs[j]? = some q := ⟨qs[j]'(by omega), by simp⟩
    obtain ⟨hqa, ok⟩ := hqs q (List.mem_of_getElem? hq)
    obtain ⟨a1, a2, a3, a4, a5, nq, hqq⟩ := hqa
    obtain ⟨fvv, hfvv⟩ : ∃ v, fileV q.f a5 = v := ⟨_, rfl⟩
    rw [hfvv] at hqq
    obtain ⟨nmv, hnmv⟩ : ∃ v, nv[j]? = some v := ⟨nv[j]'(by have := strs_len hnv; simp at this; omega), by simp⟩
    obtain ⟨nm', tn, hnm, rfl⟩ := strsGet hnv hnmv
    rw [List.getElem?_map, hq] at hnm
    cases hnm
    replace N4 : News g C h4 ((G2, o4') :: (L + 4, o4c) :: (L + 2, o2a) :: (L + 1, o1) :: (x2, instObj 168 dx2) :: (dx2, ignDict w S2 D2' G2 dt1 dt2 dt3) :: (S2, os2) :: (D2', W.listOf (List.toArray dy2) dk2) :: (nl, W.listOf nv.toArray kn) :: ot) := newsMore N4 hG4 hGC hGg
    have hrl := read_len ml fl qs (List.range j)
    rw [List.length_range] at hrl
    have hbit := (read_bits ml fl qs (List.range j)).val (nameS q.k q.r) (ans_le ml fl q.f (nameS q.k q.r))
    ktr_rel
    refine cstore F4 N4 fun h5 F5 N5 => ?_
    clear F4 N4
    have x1 : h5.get? x2 = some (instObj 168 dx2) := (N5 (x2, instObj 168 dx2) (.tail _ (.tail _ (.tail _ (.tail _ (.head _)))))).1
    have x2' : h5.get? dx2 = some (ignDict w S2 D2' G2 dt1 dt2 dt3) := (N5 (dx2, ignDict w S2 D2' G2 dt1 dt2 dt3) (.tail _ (.tail _ (.tail _ (.tail _ (.tail _ (.head _))))))).1
    have x3 : h5.get? S2 = some os2 := (N5 (S2, os2) (.tail _ (.tail _ (.tail _ (.tail _ (.tail _ (.tail _ (.head _)))))))).1
    have x4 : h5.get? D2' = some (W.listOf (List.toArray dy2) dk2) := (N5 (D2', W.listOf (List.toArray dy2) dk2) (.tail _ (.tail _ (.tail _ (.tail _ (.tail _ (.tail _ (.tail _ (.head _))))))))).1
    have x5 : h5.get? G2 = some o4' := (N5 (G2, o4') (.head _)).1
    have hnl5 : h5.get? nl = some (W.listOf nv.toArray kn) := (N5 (nl, W.listOf nv.toArray kn) (.tail _ (.tail _ (.tail _ (.tail _ (.tail _ (.tail _ (.tail _ (.tail _ (.head _)))))))))).1
    have I5 : IgnAt prog w h5 x2 dx2 S2 D2' G2 ml fl kvs4 := ⟨x1, ⟨dt1, dt2, dt3, x2'⟩, ⟨os2, x3, hSi2⟩, ⟨dy2, dk2, x4, hDs2⟩, ⟨o4', x5, hI4⟩, ⟨ne1, ne2, ne3, ne4⟩, nm2⟩
    have hout5 : ∀ a ∈ [x2, dx2, S2, D2', G2], g.get? a = none := by
      intro a ha
      simp only [List.mem_cons, List.not_mem_nil, or_false] at ha
      rcases ha with rfl | rfl | rfl | rfl | rfl
      · exact (N5 (_, instObj 168 dx2) (.tail _ (.tail _ (.tail _ (.tail _ (.head _)))))).2.2
      · exact (N5 (_, ignDict w S2 D2' G2 dt1 dt2 dt3) (.tail _ (.tail _ (.tail _ (.tail _ (.tail _ (.head _))))))).2.2
      · exact (N5 (_, os2) (.tail _ (.tail _ (.tail _ (.tail _ (.tail _ (.tail _ (.head _)))))))).2.2
      · exact (N5 (_, W.listOf (List.toArray dy2) dk2) (.tail _ (.tail _ (.tail _ (.tail _ (.tail _ (.tail _ (.tail _ (.head _))))))))).2.2
      · exact hGg
    clear x1 x2' x3 x4 x5
    refine ctest0 ?_
    ktr_rel
    refine sub_list (v := .ref q.a) (F5.keep _ _ hala) (by first | exact Int.natCast_nonneg _ | decide | omega) (by first | decide | exact n63 (by assumption) | omega) (by simp [hq]) ?_
    ktr_rel
    refine sub_tup (vs := [.int q.h a1, .int q.k a2, .int q.r a3, .int q.x a4, fvv]) (F5.keep _ _ hqq) (by first | exact Int.natCast_nonneg _ | decide | omega) (by first | decide | exact n63 (by assumption) | omega) rfl ?_
    ktr_rel
    refine sub_list (v := .str (nameS q.k q.r) tn) hnl5 (by first | exact Int.natCast_nonneg _ | decide | omega) (by first | decide | exact n63 (by assumption) | omega) (by simpa using hnmv) ?_
    ktr_rel
    rw [← hfvv]
    refine names_ok (h₀ := g) X' T' F5.keep I5 hC4 (by omega) hout5 hmo' hff (by exact hhd) (by show A.depth + 1 + 8 < _; exact dl hroom) (by show A.units + 3 + 50 < _; exact dl hunit) fun h6 tk6 tr6 kvs6 k6 I6 hC6 => ?_
    obtain ⟨o6', ho6, hI6⟩ := I6.ign
    have F6 := frWr (wr := [G2]) F5 (fun b o hb e => k6 b o (by simpa using hb) e) (by simpa using Ne.symm hGC) (by simpa using hGg)
    have N6 : News g C h6 ((G2, o6') :: (ot.filter fun p => decide (@Ne Nat p.1 G2))) := fun p hp => by
      rcases List.mem_cons.mp hp with rfl | hp
      · exact ⟨ho6, hGC, hGg⟩
      · have z := List.mem_filter.mp hp
        have y := N5 p (.tail _ (.tail _ (.tail _ (.tail _ (.tail _ (.tail _ (.tail _ (.tail _ (.tail _ z.1)))))))))
        exact ⟨k6 _ _ (by simpa using z.2) y.1, y.2⟩
    clear F5 N5 I6
    ktr_rel
    have erd : readS ml fl qs (List.range (j + 1)) = (cNext (readS ml fl qs (List.range j)).1 (nameS q.k q.r) (askA ml fl q), (readS ml fl qs (List.range j)).2 ++ [strN (cVal (readS ml fl qs (List.range j)).1 (nameS q.k q.r) (askA ml fl q))]) := by
      rw [List.range_succ, readS_snoc]; unfold rStep; rw [hq]
    refine ⟨_, _, _, _, rfl, F6, N6, fun p hp hne => .tail _ (List.mem_filter.mpr ⟨hp, by simpa using hne⟩), kvs6, o6', (N6 _ (.head _)).1, hI6, by rw [erd]; exact hC6, ?_⟩
    rw [erd, strN_of hbit]
    exact strs_snoc hS4 _ _
  case post6 =>
  rintro D6 h13 tk13 ys6 k6 F13 N13 hnn ⟨_, _, _, _, _, hS6⟩
  clear F N NG NG' hkk hR2
  replace F13 : Fr g L h13 _ := F13
  replace N13 : News g L h13 [(D6, W.listOf (List.toArray ys6) k6), (L + 4, o4c), (L + 2, o2a), (L + 1, o1), (x2, instObj 168 dx2), (dx2, ignDict w S2 D2' G2 dt1 dt2 dt3), (S2, os2), (D2', W.listOf (List.toArray dy2) dk2), (nl, W.listOf nv.toArray kn)] := N13
  ktr_rel
  rename IsRange _ _ _ _ _ _ _ _ => hR2
  rename Fr _ _ _ _ => F
  rename News _ _ _ _ => N
  have htog2 := tog_all (ml := ml) (fl := fl) (fun q hq => (hqs q hq).2) (List.range 8)
  have hrok2 := read_ok ml fl qs (List.range 8)
  refine wanted_ok (h₀ := g) X' T' F.keep ⟨⟨ka, F.keep _ _ hala⟩, fun q hq => ⟨(hqs q hq).1.keeps fun o e => F.keep _ _ e, (hqs q hq).2⟩⟩ (.inr ⟨8, _, _, _, hR2, by decide, rfl⟩) (fun r hr => by simp at hr; omega) (by omega) (by simp) (F.keep _ _ hmdg) (F.keep _ _ hfdg) hms hfs hmo hfl.1 hff (by exact hhd) (by show A.depth + 1 + 30 < _; exact dl hroom) (by show A.units + 3 + 150 < _; exact dl hunit) fun h14 tk14 an2 av2 k14 kp14 hAn2 hA2 hAv2 => ?_
  have N14 := newsKeep N kp14
  have F14 := frKeep F kp14
  clear F N
  ktr_rel
  refine eq_strs (N14 _ (.head _)).1 hA2 hS6 hAv2 hrok2 (by rw [← htog2.1]; exact hrok2) (by show A.units + 3 + 64 < _; exact dl hunit) ?_
  rw [decide_eq_true htog2.1]
  ktr_rel
  exact h _ _ fun b o z => F14.keep _ _ (kg b o (by simp) z)
end
section
set_option maxHeartbeats 1000000

local macro_rules | `(tactic| ktr_rel) => `(tactic| (repeat' (first
  | (walk_at "kA"; (fail_if_success (with_reducible first | refine gFor ?_ | refine gWhile ?_ | refine gIf ?_ | refine gCallref ?_ | refine gComp ?_ | refine gCompA ?_ | refine gIfexp ?_ | refine gTruthy ?_ | refine gAppend ?_ | refine gSplit ?_ | refine gSlice ?_ | refine gCmpref ?_ | refine gSub ?_ | refine gSetitem ?_)); walk1)
  | walk_at "kB")))

local macro_rules | `(tactic| k_qdec) => `(tactic| decide +kernel)
set_option maxHeartbeats 8000000 in
theorem final : PySem.Challenge.rw_oc0123_01.Holds := Mine.hd (by
  k_go0
  rename Fr _ _ _ _ => F
  rename News _ _ _ _ => N
  rename Top _ _ _ _ _ _ => T
  rename IntsAre _ _ => hI
  rename Heap.IsList _ _ _ => hL
  rename ¬ (((63 : Nat) : Int) < _) => hcond
  rename Frag.In _ _ => KX
  ktr_rel
  refine drawn_ok KX T F.keep (isList_keeps hL F.keep) hI (by omega) rfl (by show callerA.depth + 1 + 30 < recursionLimit; decide) (by show callerA.units + 3 + 150 < cLine; decide) fun h2 tk2 R al fd md qs fv mv fl ml kf km n k2 hR hA hqz hfd hmd hfs hms hmo hfl hff => ?_
  have F2 := frKeep F k2
  have N2 := newsKeep N k2
  refine assign_Tuple_tuple rfl ⟨_, hR, rfl, _, rfl⟩ rfl rfl fun h3 e3 => ?_
  have k3 : ∀ b o, h2.get? b = some o → h3.get? b = some o := fun b o e => e3 b o (Nat.ne_of_lt (Heap.lt_size e)) e
  have F3 := frExt F2 e3
  obtain ⟨rest, N3, hNC, hall⟩ := all_rest F3
  have in1 := hall _ _ (fr_ne F3 (k3 _ _ hfd) (fun _ _ e => by cases e)) (fun v e => by cases e) (k3 _ _ hfd)
  have in2 := hall _ _ (fr_ne F3 (k3 _ _ hmd) (fun _ _ e => by cases e)) (fun v e => by cases e) (k3 _ _ hmd)
  obtain ⟨⟨ka, hala⟩, hqs⟩ := hA
  have in3 := hall _ _ (fr_ne F3 (k3 _ _ hala) (fun _ _ e => by cases e)) (fun v e => by cases e) (k3 _ _ hala)
  have in4 : ∀ q ∈ qs, q.Ok ∧ ∃ t1 t2 t3 t4 t5 n o, o = (⟨.type "tuple", none, .seq #[.int q.h t1, .int q.k t2, .int q.r t3, .int q.x t4, fileV q.f t5] n, #[]⟩ : Obj) ∧ (_ ∨ (q.a, o) ∈ rest) := fun q hq => by
    obtain ⟨⟨t1, t2, t3, t4, t5, n5, e⟩, ok⟩ := hqs q hq
    exact ⟨ok, t1, t2, t3, t4, t5, n5, _, rfl, hall _ _ (Ns.notT F3.ns (k3 _ _ e) ⟨_, _, rfl⟩) (isT_notCell ⟨_, _, rfl⟩) (k3 _ _ e)⟩
  clear F N F2 N2 hall hNC hqs hala hfd hmd hR k2 k3 e3
  ktr_rel
  rename Fr _ _ _ _ => F
  rename News _ _ _ _ => N
  refine holds_ok KX T F.keep ⟨⟨ka, in3.elim (F.keep _ _) fun z => (N _ z).1⟩, fun q hq => ?_⟩ hqz (in1.elim (F.keep _ _) fun z => (N _ z).1) (in2.elim (F.keep _ _) fun z => (N _ z).1) hfs hms hmo hfl hff rfl (by show callerA.depth + 1 + 60 < recursionLimit; decide) (by show callerA.units + 3 + 300 < cLine; decide) fun h9 tk9 k9 => ?_
  · obtain ⟨ok, t1, t2, t3, t4, t5, n5, o, rfl, hz⟩ := in4 q hq
    exact ⟨⟨t1, t2, t3, t4, t5, n5, hz.elim (F.keep _ _) fun z => (N _ z).1⟩, ok⟩
  · have F9 := frKeep F k9
    refine goodW_bool F9 (by assumption) (raisesW_false ?_) ?_
    · wrow_none_raised
    · first | wrow_post | kc_post)
end
end Mine
theorem PySem.Challenge.cw_oc0123_01_holds : PySem.Challenge.rw_oc0123_01.Holds :=
  Mine.final
