import PyProof.Rows.All
import Wide.All
import OpenK.AllK
import Wide.FinOn
import PySem.Challenge.RW_xl0021_01
open PySem PySem.W PySem.Calls PyProof.Rows
set_option Elab.async false
set_option linter.unusedVariables false
set_option maxRecDepth 100000
set_option tactic.hygienic false
local macro_rules | `(tactic| omega) => `(tactic| lia)
-- MEPS
namespace Mine
theorem by_eps {α : Type _} {C : α → Prop} (ne : Nonempty α) (h : C (@Classical.epsilon α ne fun p => ¬ C p)) (p : α) : C p := by
 by_cases q : ∃ p, ¬ C p
 ·exact absurd h (Classical.epsilon_spec_aux ne _ q)
 ·exact Classical.not_not.mp fun n => q ⟨p, n⟩
end Mine
-- Top
namespace Mine
local macro_rules | `(tactic| o_head $_) => `(tactic| assumption)
set_option maxHeartbeats 8000000 in
theorem hd (h : PySem.Challenge.rw_xl0021_01.row.Holds) : PySem.Challenge.rw_xl0021_01.row.Holds := by
 k_head
noncomputable def vw : Program := { PySem.Challenge.rw_xl0021_01.row.prog with main := { PySem.Challenge.rw_xl0021_01.row.prog.main with body := [0, 2, 3, 4, 5, 7, 8, 9, 10, 12, 13, 14, 15, 16, 18, 19, 20, 21].filterMap fun i => PySem.Challenge.rw_xl0021_01.row.prog.main.body[i]? } }
end Mine
-- MBase
namespace Mine
noncomputable abbrev PW := PySem.Challenge.rw_xl0021_01.row.prog
noncomputable abbrev LL : List Str := looseW vw [Str.ofString "_Accumulator"]
noncomputable abbrev TopM (mean : ExcName → Option Value) (mg mb : Str → Option Value) (h : Heap) : Prop :=
 Top topProg (LL ++ (recsOf vw).map (·.name) ++ (litsOf vw).map (·.1) ++ (clssOf vw LL).map (·.name)) mean mg mb h
theorem enter_def {w : World} {A : Around} {s : Shared} {b : Heap} {mean : ExcName → Option Value} {mg mb : Str → Option Value} {R : Result → Shared → Prop}
  {name qual : Str} {params : Arguments} {body : List Stmt} {scope : Scope} {cl : List (Str × Addr)} {dV kV doc pm cdv ct oc : Value} {an od : Option Addr} {osl : Array (Option Value)} {f : Addr} {args : Args} {binds : List (Str × Value)}
  (muts : List (Addr × Obj)) (XK : (hd.heap_1 w.params).In b) (T : TopM mean mg mb b) (st : b.StaysIn s.heap)
  (hm : ∀ p ∈ muts, s.heap.get? p.1 = some p.2 ∧ b.get? p.1 = none)
  (ho : (hd.heap_1 w.params).lookup f = some ⟨oc, od, .func (fnX name qual params body scope cl dV kV doc pm an cdv ct), osl⟩)
  (hcd : codeIn (hd.heap_1 w.params) cdv qual = true) (hroom : A.depth < recursionLimit)
  (hbind : BindsTo s (fnX name qual params body scope cl dV kV doc pm an cdv ct) args binds)
  (hloc : ∀ y ∈ binds, scope.names.lookup y.1 = some .local)
  (h : ∀ g L' h₁, Fr g L' h₁ (fun y => binds.reverse.lookup y) → News g L' h₁ muts → (hd.heap_1 w.params).In g → TopM mean mg mb g → b.StaysIn g →
   (∀ c o, s.heap.get? c = some o → c ∉ muts.map (·.1) → g.get? c = some o) → (∀ c, s.heap.get? c = none → g.get? c = none) → (∀ p ∈ muts, p.1 < L') →
   wpAny (model PW w) (A.deeper (envX qual scope L' f cdv cl)) (execs body (envX qual scope L' f cdv cl))
    (fun fl s' => R (.ok (.ret (match fl with | .ret v => v | _ => .none))) s')
    (fun e s' => wpAny (model PW w) (A.deeper (envX qual scope L' f cdv cl)) (leaving (envX qual scope L' f cdv cl) e) (fun _ s'' => R (.error e) s'') (fun e' s'' => R (.error e') s'') s')
    { s with heap := h₁, toks := s.toks + binds.length })
  (hcell : ∀ x ∈ scope.names, x.2 ≠ .cell) (hco : scope.isCoroutine = false := by rfl) (hgen : scope.isGenerator = false := by rfl) (hk : scope.kind = .function := by rfl) :
  codeAny (model PW w) A (.call (.ref f) args) R s := by
 have nm : ∀ c o, b.get? c = some o → c ∉ muts.map (·.1) := fun c o e q => by
  obtain ⟨p, hp, rfl⟩ := List.mem_map.mp q
  rw [(hm p hp).2] at e; cases e
 have bg : b.StaysIn (hideAll s.heap (muts.map (·.1))) := fun c o e => hideAll_get _ (st c o e) (nm c o e)
 refine codeAny_call_def (fd := fnX name qual params body scope cl dV kV doc pm an cdv ct) (body := body) (binds := binds) hroom (st _ _ (XK _ _ ho)) rfl (T.nolimit.keeps st) (codeRec_of (fun a o e => st a o (XK a o e)) hcd) rfl hbind hcell hloc (fun h₁ hns hk₁ => ?_) hco hgen hk
 refine h (hideAll s.heap (muts.map (·.1))) s.heap.objs.size h₁ ⟨hns, fun c o e => hk₁ c o (of_hideAll _ e), Nat.le_of_eq (hideAll_size _ _)⟩
  (fun p hp => ⟨hk₁ _ _ (hm p hp).1, Nat.ne_of_lt (Heap.lt_size (hm p hp).1), hideAll_none _ (List.mem_map_of_mem hp)⟩) (fun a o e => bg a o (XK a o e)) (Top.keeps (h' := hideAll s.heap (muts.map (·.1))) T (fun c o e => bg c o e)) bg
  (fun c o e n => hideAll_get _ e n) (fun c e => ?_) (fun p hp => Heap.lt_size (hm p hp).1)
 cases q : (hideAll s.heap (muts.map (·.1))).get? c with
 | none => rfl
 | some o => rw [of_hideAll _ q] at e; cases e
end Mine
-- MD1
namespace Mine
noncomputable def NT (a : Addr) : Prop := a ≠ 140 ∧ a ≠ 147
inductive D where
 | none
 | bool (b : Bool)
 | int (i : Int)
 | str (s : Str)
 | list (l : List D)
 | tuple (l : List D)
 | con (v : Value)
 | range (a b c : Int)
mutual
inductive VD (h : Heap) : Value → D → Prop where
 | none : VD h .none .none
 | bool (b : Bool) : VD h (.bool b) (.bool b)
 | int (i : Int) (t : Tok) : VD h (.int i t) (.int i)
 | str (x : Str) (t : Tok) : VD h (.str x t) (.str x)
 | con (v : Value) : VD h v (.con v)
 | range {r : Addr} {a b c : Int} {t u v : Tok} : NT r → h.get? r = some { cls := .type "range", data := .fields #[.int a t, .int b u, .int c v] } → VD h (.ref r) (.range a b c)
 | list {a : Addr} {n : Nat} {vs : List Value} {l : List D} : NT a → h.get? a = some ⟨.type "list", none, .seq vs.toArray n, #[]⟩ → VDs h vs l → VD h (.ref a) (.list l)
 | tuple {a : Addr} {n : Nat} {vs : List Value} {l : List D} : NT a → h.get? a = some ⟨.type "tuple", none, .seq vs.toArray n, #[]⟩ → VDs h vs l → VD h (.ref a) (.tuple l)
inductive VDs (h : Heap) : List Value → List D → Prop where
 | nil : VDs h [] []
 | cons {v : Value} {d : D} {vs : List Value} {ds : List D} : VD h v d → VDs h vs ds → VDs h (v :: vs) (d :: ds)
end
noncomputable def SeqLe (h h' : Heap) : Prop := ∀ a o, NT a → h.get? a = some o → ((∃ items n, o.data = .seq items n) ∨ ∃ fs, o.data = .fields fs) → h'.get? a = some o
theorem SeqLe.refl (h : Heap) : SeqLe h h := fun _ _ _ e _ => e
theorem SeqLe.trans {h h' h'' : Heap} (x : SeqLe h h') (y : SeqLe h' h'') : SeqLe h h'' := fun a o l e d => y a o l (x a o l e d) d
theorem SeqLe.of {h h' : Heap} (x : h.StaysIn h') : SeqLe h h' := fun a o _ e _ => x a o e
theorem VD.mono {h h' : Heap} (k : SeqLe h h') {v : Value} {d : D} (x : VD h v d) : VD h' v d :=
 VD.rec (motive_1 := fun v d _ => VD h' v d) (motive_2 := fun vs ds _ => VDs h' vs ds) .none .bool .int .str .con (fun l e => .range l (k _ _ l e (.inr ⟨_, rfl⟩)))
  (fun ha e _ r => .list ha (k _ _ ha e (.inl ⟨_, _, rfl⟩)) r) (fun ha e _ r => .tuple ha (k _ _ ha e (.inl ⟨_, _, rfl⟩)) r) .nil (fun _ _ a r => .cons a r) x
theorem VDs.mono {h h' : Heap} (k : SeqLe h h') {vs : List Value} {ds : List D} (x : VDs h vs ds) : VDs h' vs ds :=
 VDs.rec (motive_1 := fun v d _ => VD h' v d) (motive_2 := fun vs ds _ => VDs h' vs ds) .none .bool .int .str .con (fun l e => .range l (k _ _ l e (.inr ⟨_, rfl⟩)))
  (fun ha e _ r => .list ha (k _ _ ha e (.inl ⟨_, _, rfl⟩)) r) (fun ha e _ r => .tuple ha (k _ _ ha e (.inl ⟨_, _, rfl⟩)) r) .nil (fun _ _ a r => .cons a r) x
section
variable {h : Heap} {v : Value} {vs : List Value}
theorem VD.strE {x : Str} (a : VD h v (.str x)) : ∃ t, v = .str x t := by cases a; exact ⟨_, rfl⟩
theorem VD.intE {i : Int} (a : VD h v (.int i)) : ∃ t, v = .int i t := by cases a; exact ⟨_, rfl⟩
theorem VD.boolE {b : Bool} (a : VD h v (.bool b)) : v = .bool b := by cases a; rfl
theorem VD.noneE (a : VD h v .none) : v = .none := by cases a; rfl
theorem VD.conE {u : Value} (a : VD h v (.con u)) : v = u := by cases a; rfl
theorem VD.listE {l : List D} (a : VD h v (.list l)) : ∃ c n vs, v = .ref c ∧ NT c ∧ h.get? c = some ⟨.type "list", Option.none, .seq vs.toArray n, #[]⟩ ∧ VDs h vs l := by cases a with | list x y z => exact ⟨_, _, _, rfl, x, y, z⟩
theorem VD.tupleE {l : List D} (a : VD h v (.tuple l)) : ∃ c n vs, v = .ref c ∧ NT c ∧ h.get? c = some ⟨.type "tuple", Option.none, .seq vs.toArray n, #[]⟩ ∧ VDs h vs l := by cases a with | tuple x y z => exact ⟨_, _, _, rfl, x, y, z⟩
theorem VD.listR {c : Addr} {l : List D} (a : VD h (.ref c) (.list l)) : ∃ n vs, NT c ∧ h.get? c = some ⟨.type "list", Option.none, .seq vs.toArray n, #[]⟩ ∧ VDs h vs l := by cases a with | list x y z => exact ⟨_, _, x, y, z⟩
theorem VD.tupleR {c : Addr} {l : List D} (a : VD h (.ref c) (.tuple l)) : ∃ n vs, NT c ∧ h.get? c = some ⟨.type "tuple", Option.none, .seq vs.toArray n, #[]⟩ ∧ VDs h vs l := by cases a with | tuple x y z => exact ⟨_, _, x, y, z⟩
theorem VDs.nilE (a : VDs h vs []) : vs = [] := by cases a; rfl
theorem VDs.consE {d : D} {ds : List D} (a : VDs h vs (d :: ds)) : ∃ u us, vs = u :: us ∧ VD h u d ∧ VDs h us ds := by cases a with | cons x y => exact ⟨_, _, rfl, x, y⟩
end
theorem VD.keep {h h' : Heap} {v : Value} {d : D} (x : VD h v d) (k : h.StaysIn h') : VD h' v d := x.mono (.of k)
theorem VDs.keep {h h' : Heap} {vs : List Value} {ds : List D} (x : VDs h vs ds) (k : h.StaysIn h') : VDs h' vs ds := x.mono (.of k)
theorem VDs.length {h : Heap} : ∀ {vs : List Value} {ds : List D}, VDs h vs ds → vs.length = ds.length
 | _, _, .nil => rfl
 | _, _, .cons _ r => by rw [List.length_cons, List.length_cons, VDs.length r]
theorem VDs.get {h : Heap} : ∀ {vs : List Value} {ds : List D}, VDs h vs ds → ∀ {i : Nat} {d : D}, ds[i]? = some d → ∃ v, vs[i]? = some v ∧ VD h v d
 | _, _, .cons a r, 0, _, e => ⟨_, rfl, by simp at e; exact e ▸ a⟩
 | _, _, .cons a r, i + 1, _, e => by
  obtain ⟨v, e1, e2⟩ := VDs.get r (i := i) (by simpa using e)
  exact ⟨v, by simpa using e1, e2⟩
theorem VDs.append {h : Heap} : ∀ {vs ws : List Value} {ds es : List D}, VDs h vs ds → VDs h ws es → VDs h (vs ++ ws) (ds ++ es)
 | _, _, _, _, .nil, y => y
 | _, _, _, _, .cons a r, y => .cons a (VDs.append r y)
theorem VDs.drop {h : Heap} : ∀ {vs : List Value} {ds : List D} (k : Nat), VDs h vs ds → VDs h (vs.drop k) (ds.drop k)
 | _, _, 0, x => x
 | _, _, _ + 1, .nil => .nil
 | _, _, k + 1, .cons _ r => VDs.drop k r
theorem VDs.take {h : Heap} : ∀ {vs : List Value} {ds : List D} (k : Nat), VDs h vs ds → VDs h (vs.take k) (ds.take k)
 | _, _, 0, x => by simpa using VDs.nil
 | _, _, _ + 1, .nil => .nil
 | _, _, k + 1, .cons a r => .cons a (VDs.take k r)
structure Ok (n : Nat) (A : Around) : Prop where
 dp : A.depth + n < 900
 un : A.units + 8 * n < 9000
 hd : A.handled = none
theorem Ok.in1 {n : Nat} {A : Around} (x : Ok (n + 1) A) : Ok n A.in1 := ⟨by have := x.dp; show A.depth + n < 900; omega, by have := x.un; show A.units + 1 + 8 * n < 9000; omega, x.hd⟩
theorem Ok.deeper {n : Nat} {A : Around} {env : Env} (x : Ok (n + 1) A) : Ok n (A.deeper env) := ⟨by have := x.dp; show A.depth + 1 + n < 900; omega, by have := x.un; show A.units + 3 + 8 * n < 9000; omega, x.hd⟩
theorem Ok.le {n k : Nat} {A : Around} (x : Ok n A) (h : k ≤ n) : Ok k A := ⟨by have := x.dp; omega, by have := x.un; omega, x.hd⟩
structure Gr (w : World) (b : Heap) : Prop where
 k : (hd.heap_1 w.params).In b
 t : ∃ mean mg mb, TopM mean mg mb b
noncomputable def EV (w : World) (n : Nat) (env : Env) (h : Heap) (e : Expr) (d : D) : Prop :=
 ∀ (A : Around) (E : Value → Shared → Prop) (s : Shared) (Q : Value → Shared → Prop), Ok n A → h.StaysIn s.heap →
  (∀ v h' tk, s.heap.StaysIn h' → VD h' v d → Q v { s with heap := h', toks := tk }) → wpAny (model PW w) A (eval e env) Q E s
noncomputable def TV (w : World) (n : Nat) (h : Heap) (t : Sem Value) (d : D) : Prop :=
 ∀ (A : Around) (E : Value → Shared → Prop) (s : Shared) (Q : Value → Shared → Prop), Ok n A → h.StaysIn s.heap →
  (∀ v h' tk, s.heap.StaysIn h' → VD h' v d → Q v { s with heap := h', toks := tk }) → wpAny (model PW w) A t Q E s
noncomputable def BV (w : World) (n : Nat) (env : Env) (h : Heap) (e : Expr) (b : Bool) : Prop :=
 ∀ (A : Around) (E : Value → Shared → Prop) (s : Shared) (Q : Bool → Shared → Prop), Ok n A → h.StaysIn s.heap →
  (∀ h' tk, s.heap.StaysIn h' → Q b { s with heap := h', toks := tk }) → wpAny (model PW w) A (isTrue e env (eval e env)) Q E s
theorem stays_refl (h : Heap) : h.StaysIn h := fun _ _ e => e
theorem stays_trans {h h' h'' : Heap} (x : h.StaysIn h') (y : h'.StaysIn h'') : h.StaysIn h'' := fun a o e => y a o (x a o e)
section
variable {w : World} {n : Nat} {env : Env} {h : Heap}
theorem EV.up {h' : Heap} {e : Expr} {d : D} (x : EV w n env h e d) (k : h.StaysIn h') : EV w n env h' e d := fun A E s Q ok st hQ => x A E s Q ok (stays_trans k st) hQ
theorem ev_int {i : Int} {k : Nat} {pos : Pos} : EV w n env h (.Constant (.int i) k pos) (.int i) := fun _ _ _ _ _ _ hQ =>
 wpAny_Constant_int (hQ _ _ _ (stays_refl _) (.int _ _))
theorem ev_str {x : Str} {k : Nat} {pos : Pos} : EV w n env h (.Constant (.str x) k pos) (.str x) := fun _ _ _ _ _ _ hQ =>
 Constant_str (hQ _ _ _ (stays_refl _) (.str _ _))
theorem ev_bool {x : Bool} {k : Nat} {pos : Pos} : EV w n env h (.Constant (.bool x) k pos) (.bool x) := fun _ _ _ _ _ _ hQ =>
 wpAny_pure (hQ _ _ _ (stays_refl _) (.bool _))
theorem ev_none {k : Nat} {pos : Pos} : EV w n env h (.Constant .none k pos) .none := fun _ _ _ _ _ _ hQ =>
 wpAny_pure (hQ _ _ _ (stays_refl _) .none)
theorem ev_local {x : Str} {pos : Pos} {m : Str → Option Value} {v : Value} {d : D} (hk : env.scope.kind = .function) (hx : env.kindOf x = some .local) (hn : h.Ns env.locals m) (hm : m x = some v) (hv : VD h v d)
  (hd : (x == ("__debug__" : Str)) = false := by decide) : EV w n env h (.Name x pos) d := fun _ _ _ _ _ st hQ =>
 wpAny_Name (wpAny_loadName_local hk hx (hn.keeps st) hm (hQ _ _ _ (stays_refl _) (hv.keep st))) hd
theorem ev_binop {l r : Expr} {op : Operator} {pos : Pos} {a b c : D} (hl : EV w n env h l a) (hr : EV w n env h r b)
  (ho : ∀ (A : Around) (E : Value → Shared → Prop) (s : Shared) (Q : Value → Shared → Prop) (u v : Value), Ok n A → h.StaysIn s.heap → VD s.heap u a → VD s.heap v b → (∀ v h' tk, s.heap.StaysIn h' → VD h' v c → Q v { s with heap := h', toks := tk }) →
   wpAny (model PW w) A (binaryOp op u v) Q E s) : EV w n env h (.BinOp l op r pos) c := fun A E s Q ok st hQ =>
 wpAny_BinOp (hl A E s _ ok st fun u h1 t1 k1 v1 => hr A E _ _ ok (stays_trans st k1) fun v h2 t2 k2 v2 => ho A E _ _ u v ok (stays_trans st (stays_trans k1 k2)) (v1.keep k2) v2 fun x h3 t3 k3 v3 => hQ x h3 t3 (stays_trans k1 (stays_trans k2 k3)) v3)
theorem ev_add {l r : Expr} {pos : Pos} {i j : Int} (hl : EV w n env h l (.int i)) (hr : EV w n env h r (.int j)) : EV w n env h (.BinOp l .Add r pos) (.int (i + j)) :=
 ev_binop hl hr fun _ _ _ _ u v _ _ hu hv hQ => by cases hu; cases hv; exact add_int (hQ _ _ _ (stays_refl _) (.int _ _))
theorem ev_sub {l r : Expr} {pos : Pos} {i j : Int} (hl : EV w n env h l (.int i)) (hr : EV w n env h r (.int j)) : EV w n env h (.BinOp l .Sub r pos) (.int (i - j)) :=
 ev_binop hl hr fun _ _ _ _ u v _ _ hu hv hQ => by cases hu; cases hv; exact sub_int (hQ _ _ _ (stays_refl _) (.int _ _))
theorem ev_mul {l r : Expr} {pos : Pos} {i j : Int} (hl : EV w n env h l (.int i)) (hr : EV w n env h r (.int j)) (hm : IntMulOk i j) : EV w n env h (.BinOp l .Mult r pos) (.int (i * j)) :=
 ev_binop hl hr fun _ _ _ _ u v _ _ hu hv hQ => by cases hu; cases hv; exact mul_int (hQ _ _ _ (stays_refl _) (.int _ _)) hm
theorem ev_mod {l r : Expr} {pos : Pos} {i j : Int} (hl : EV w n env h l (.int i)) (hr : EV w n env h r (.int j)) (hj : j ≠ 0) : EV w n env h (.BinOp l .Mod r pos) (.int (i.fmod j)) :=
 ev_binop hl hr fun _ _ _ _ u v _ _ hu hv hQ => by cases hu; cases hv; exact mod_int hj (hQ _ _ _ (stays_refl _) (.int _ _))
theorem ev_adds {l r : Expr} {pos : Pos} {x y : Str} (hl : EV w n env h l (.str x)) (hr : EV w n env h r (.str y)) (hz : x.length + y.length ≤ sizeLine) : EV w n env h (.BinOp l .Add r pos) (.str (x ++ y)) :=
 ev_binop hl hr fun _ _ _ _ u v _ _ hu hv hQ => by cases hu; cases hv; exact add_str (fun t' tk => hQ _ _ _ (stays_refl _) (.str _ _)) hz
end
end Mine
-- MD2
namespace Mine
noncomputable def S (l : List Nat) : Str := ⟨l.toArray⟩
theorem S_app (a b : List Nat) : S a ++ S b = S (a ++ b) := by show (⟨a.toArray ++ b.toArray⟩ : Str) = ⟨(a ++ b).toArray⟩; simp
theorem S_len (a : List Nat) : (S a).length = a.length := by show a.toArray.size = _; simp
theorem S_inj {a b : List Nat} (h : S a = S b) : a = b := by
 have : (S a).cps.toList = (S b).cps.toList := by rw [h]
 simpa [S] using this
theorem S_of (x : Str) : S x.cps.toList = x := by cases x; simp [S]
noncomputable def cut {α : Type} (l : List α) (lo hi : Option Int) (st : Int) : List α := (Builtin.Str.strSliceIndices lo hi st l.length).filterMap (l[·]?)
section
variable {α : Type}
theorem pick_drop_take (l : List α) (a b : Nat) : ((List.range (b - a)).map (a + ·)).filterMap (l[·]?) = (l.take b).drop a := by
 have := PySem.pick_run l.toArray a (b - a)
 simp only [List.getElem?_toArray] at this
 rw [this, List.drop_take]
theorem cut_mid (l : List α) (a b : Nat) (hb : b ≤ l.length) (hab : a ≤ b) : cut l (some a) (some b) 1 = (l.take b).drop a := by
 unfold cut
 have e : Builtin.Str.strSliceIndices (some (a : Int)) (some (b : Int)) 1 l.length = sliceRange a b 1 := by
  unfold Builtin.Str.strSliceIndices
  simp only [show ((1 : Int) > 0) = True from by simp, if_true]
  rw [if_neg (by omega), if_neg (by omega)]
  congr 1 <;> omega
 rw [e, PySem.sliceRange_one, pick_drop_take]
theorem cut_from (l : List α) (a : Nat) : cut l (some a) none 1 = l.drop a := by
 unfold cut
 have e : Builtin.Str.strSliceIndices (some (a : Int)) none 1 l.length = sliceRange (min a l.length : Nat) (l.length : Nat) 1 := by
  unfold Builtin.Str.strSliceIndices
  simp only [show ((1 : Int) > 0) = True from by simp, if_true]
  rw [if_neg (by omega)]
  congr 1; omega
 rw [e, PySem.sliceRange_one, pick_drop_take, List.take_length]
 by_cases h : a ≤ l.length
 ·rw [Nat.min_eq_left h]
 ·rw [Nat.min_eq_right (by omega), List.drop_length, List.drop_eq_nil_of_le (by omega)]
theorem cut_upto (l : List α) (b : Nat) : cut l none (some b) 1 = l.take b := by
 unfold cut
 have e : Builtin.Str.strSliceIndices none (some (b : Int)) 1 l.length = sliceRange (0 : Nat) (min b l.length : Nat) 1 := by
  unfold Builtin.Str.strSliceIndices
  simp only [show ((1 : Int) > 0) = True from by simp, if_true]
  rw [if_neg (by omega)]
  congr 1; omega
 rw [e, PySem.sliceRange_one, pick_drop_take, List.drop_zero]
 by_cases h : b ≤ l.length
 ·rw [Nat.min_eq_left h]
 ·rw [Nat.min_eq_right (by omega), List.take_length, List.take_of_length_le (by omega)]
theorem cut_all (l : List α) : cut l none none 1 = l := by
 unfold cut
 have e : Builtin.Str.strSliceIndices none none 1 l.length = sliceRange (0 : Nat) (l.length : Nat) 1 := by
  unfold Builtin.Str.strSliceIndices
  simp only [show ((1 : Int) > 0) = True from by simp, if_true]
  rfl
 rw [e, PySem.sliceRange_one, pick_drop_take, List.take_length, List.drop_zero]
theorem cut_neg (l : List α) (k : Nat) (hk : 1 ≤ k) : cut l none (some (-(k : Int))) 1 = l.take (l.length - k) := by
 unfold cut
 have e : Builtin.Str.strSliceIndices none (some (-(k : Int))) 1 l.length = sliceRange (0 : Nat) (l.length - k : Nat) 1 := by
  unfold Builtin.Str.strSliceIndices
  simp only [show ((1 : Int) > 0) = True from by simp, if_true]
  rw [if_pos (by omega)]
  congr 1; omega
 rw [e, PySem.sliceRange_one, pick_drop_take, List.drop_zero]
end
section
variable {w : World} {n : Nat} {env : Env} {h : Heap}
theorem stays_push (h : Heap) (o : Obj) : h.StaysIn (h.push o) := fun _ _ e => Heap.get?_push_of_some o e
theorem get_push (h : Heap) (o : Obj) (hf : o.isFreed = false := by rfl) : (h.push o).get? h.objs.size = some o := Heap.get?_push_size h hf
theorem fresh_size (h : Heap) : h.get? h.objs.size = none := by
 cases q : h.get? h.objs.size with
 | none => rfl
 | some o => exact absurd (Heap.lt_size q) (Nat.lt_irrefl _)
inductive IsCodeM (h : Heap) (c P : Addr) (ps : Array Value) : Prop
 | mk (o : Obj) (vs : Array Value) (file : Str) (tf : Tok) (flags : Int) (tg : Tok) (inF : Bool) (text : Int) (tt : Tok) (op : Obj) (a : h.get? c = some o) (r1 : o.data = .fields vs) (r2 : vs.getD 11 .none = .ref P) (r3 : vs.getD 18 .none = .str file tf)
  (r4 : vs.getD 7 .none = .int flags tg) (r5 : vs.getD 9 .none = .bool inF) (r6 : vs.getD 10 .none = .int text tt) (b : h.get? P = some op) (r7 : op.data = .fields ps)
  (r8 : TriplesOk ps.toList) (r9 : c ≠ P) (r10 : op = { cls := .none, data := .fields ps }) (r11 : o.cls = .type "code") (r12 : vs[11]? = some (.ref P))
theorem IsCodeM.mv {h h' : Heap} {c P : Addr} {ps : Array Value} (x : IsCodeM h c P ps) (k1 : ∀ o vs, h.get? c = some o → o.data = .fields vs → h'.get? c = some o) (k2 : ∀ o vs, h.get? P = some o → o.data = .fields vs → h'.get? P = some o) : IsCodeM h' c P ps := by
 cases x with
 | mk o vs file tf flags tg inF text tt op a r1 r2 r3 r4 r5 r6 b r7 r8 r9 r10 r11 r12 => exact ⟨o, vs, file, tf, flags, tg, inF, text, tt, op, k1 _ _ a r1, r1, r2, r3, r4, r5, r6, k2 _ _ b r7, r7, r8, r9, r10, r11, r12⟩
theorem IsCodeM.keeps {h h' : Heap} {c P : Addr} {ps : Array Value} (x : IsCodeM h c P ps) (hk : ∀ b o, h.get? b = some o → h'.get? b = some o) : IsCodeM h' c P ps :=
 x.mv (fun o _ e _ => hk _ o e) (fun o _ e _ => hk _ o e)
theorem IsCodeM.push {h : Heap} {c P : Addr} {ps : Array Value} (x : IsCodeM h c P ps) (o : Obj) : IsCodeM (h.push o) c P ps := x.keeps fun _ _ e => Heap.get?_push_of_some o e
theorem IsCodeM.code {h : Heap} {c P : Addr} {ps : Array Value} (x : IsCodeM h c P ps) : h.IsCode c P ps :=
 let ⟨o, vs, file, tf, flags, tg, inF, text, tt, op, a, r1, r2, r3, r4, r5, r6, b, r7, r8, r9, _, _, _⟩ := x
 ⟨o, vs, file, tf, flags, tg, inF, text, tt, op, a, r1, r2, r3, r4, r5, r6, b, r7, r8, r9⟩
theorem IsCodeM.tab {h : Heap} {c P : Addr} {ps : Array Value} (x : IsCodeM h c P ps) : h.TableAt c P ps :=
 let ⟨o, vs, file, tf, flags, tg, inF, text, tt, op, a, r1, r2, r3, r4, r5, r6, b, r7, r8, r9, r10, r11, r12⟩ := x
 ⟨⟨o, vs, a, r11, r1, r12⟩, r10 ▸ b⟩
theorem IsCodeM.of {h : Heap} {c P : Addr} {ps : Array Value} (hc : h.IsCode c P ps) (ht : h.TableAt c P ps) : IsCodeM h c P ps := by
 obtain ⟨⟨o, vs, e1, e2, e3, e4⟩, e5⟩ := ht
 obtain ⟨o', vs', file, tf, flags, tg, inF, text, tt, op, f1, f2, f3, f4, f5, f6, f7, f8, f9, f10, f11⟩ := hc
 rw [e1] at f1; cases f1
 rw [e3] at f2; cases f2
 rw [e5] at f8; cases f8
 exact ⟨o, vs, file, tf, flags, tg, inF, text, tt, _, e1, e3, f3, f4, f5, f6, f7, e5, f9, f10, f11, rfl, e2, e4⟩
theorem genexprCodeM {M : Model} {A : Around} {E : Value → Shared → Prop} {s : Shared} {env : Env} {c P : Addr} {ps : Array Value} {pos : Pos} {qualname : Str} {scope : Scope} {Q : Value → Shared → Prop} (hc : env.code = .ref c) (hok : IsCodeM s.heap c P ps)
  (hQ : ∀ code h' tk ps', Heap.ExtBut P s.heap h' → IsCodeM h' c P ps' → Q code { s with heap := h', toks := tk }) :
  wpAny M A (genexprCode env pos qualname scope) Q E s := by
 cases hnf : codeAmong pos ps.toList with
 | some cv => exact wpAny_genexprCode_hit hc hok.code hnf (hQ cv s.heap s.toks ps (Heap.ExtBut.refl _ _) hok)
 | none => exact wpAny_genexprCodeX hc hok.code hok.tab hnf fun c' h' tk x1 _ _ x2 _ x3 _ => hQ _ _ _ _ x1 (.of x2 x3)
noncomputable def Big (h : Heap) : Prop := (∃ ps, IsCodeM h 144 140 ps) ∧ (∃ ps, IsCodeM h 151 147 ps)
theorem Big.up {h h' : Heap} (x : Big h) (k : h.StaysIn h') : Big h' := let ⟨⟨o, e⟩, ⟨p, f⟩⟩ := x; ⟨⟨o, e.keeps k⟩, ⟨p, f.keeps k⟩⟩
theorem IsCode_at {h : Heap} {c P : Addr} {ps : Array Value} (x : IsCodeM h c P ps) : (∃ o vs, h.get? c = some o ∧ o.data = .fields vs) ∧ ∃ o vs, h.get? P = some o ∧ o.data = .fields vs :=
 let ⟨o, vs, _, _, _, _, _, _, _, op, a, r1, _, _, _, _, _, b, r, _, _, _, _, _⟩ := x; ⟨⟨o, vs, a, r1⟩, ⟨op, _, b, r⟩⟩
theorem Big.tabs {h : Heap} (x : Big h) : (∃ o vs, h.get? 140 = some o ∧ o.data = .fields vs) ∧ ∃ o vs, h.get? 147 = some o ∧ o.data = .fields vs :=
 let ⟨⟨_, e⟩, ⟨_, f⟩⟩ := x; ⟨(IsCode_at e).2, (IsCode_at f).2⟩
theorem Big.nt {h : Heap} (x : Big h) {a : Addr} (e : h.get? a = none) : NT a := by
 obtain ⟨⟨o, _, e1, _⟩, ⟨p, _, e2, _⟩⟩ := x.tabs
 exact ⟨fun q => (by rw [q, e1] at e; cases e), fun q => (by rw [q, e2] at e; cases e)⟩
theorem Big.but {h h' : Heap} (x : Big h) {c : Addr} (k : ∀ a o, a ≠ c → h.get? a = some o → h'.get? a = some o) (hc : ∀ o vs, h.get? c = some o → o.data ≠ .fields vs) : Big h' := by
 have key : ∀ P T ps, IsCodeM h P T ps → IsCodeM h' P T ps := by
  intro P T ps e
  obtain ⟨⟨o1, v1, a1, d1⟩, ⟨o2, v2, a2, d2⟩⟩ := IsCode_at e
  have n1 : P ≠ c := fun q => hc o1 v1 (by rw [← q]; exact a1) d1
  have n2 : T ≠ c := fun q => hc o2 v2 (by rw [← q]; exact a2) d2
  exact e.mv (fun o _ a _ => k _ o n1 a) (fun o _ b _ => k _ o n2 b)
 obtain ⟨⟨o, e⟩, ⟨p, f⟩⟩ := x
 exact ⟨⟨o, key _ _ _ e⟩, ⟨p, key _ _ _ f⟩⟩
theorem Big.size {h : Heap} (x : Big h) : NT h.objs.size := x.nt (fresh_size h)
theorem vd_new_list {h : Heap} {vs : List Value} {ds : List D} (hb : Big h) (x : VDs h vs ds) : VD (h.push { cls := .type "list", data := .seq vs.toArray }) (.ref h.objs.size) (.list ds) :=
 .list hb.size (get_push _ _) (x.keep (stays_push _ _))
theorem vd_new_tuple {h : Heap} {vs : List Value} {ds : List D} (hb : Big h) (x : VDs h vs ds) : VD (h.push { cls := .type "tuple", data := .seq vs.toArray }) (.ref h.objs.size) (.tuple ds) :=
 .tuple hb.size (get_push _ _) (x.keep (stays_push _ _))
theorem ev_floordiv {l r : Expr} {pos : Pos} {i j : Int} (hl : EV w n env h l (.int i)) (hr : EV w n env h r (.int j)) (hj : j ≠ 0) (hp : Builtin.divisionGoesByPylong i j = false) : EV w n env h (.BinOp l .FloorDiv r pos) (.int (i.fdiv j)) :=
 ev_binop hl hr fun _ _ _ _ u v _ _ hu hv hQ => by obtain ⟨_, rfl⟩ := VD.intE hu; obtain ⟨_, rfl⟩ := VD.intE hv; exact floordiv_int hj (hQ _ _ _ (stays_refl _) (.int _ _)) (.inl hp)
theorem ev_addl {l r : Expr} {pos : Pos} {x y : List D} (hb : Big h) (hl : EV w n env h l (.list x)) (hr : EV w n env h r (.list y)) (hz : x.length + y.length ≤ sizeLine) : EV w n env h (.BinOp l .Add r pos) (.list (x ++ y)) :=
 ev_binop hl hr fun A E s Q u v ok st hu hv hQ => by
  obtain ⟨_, _, _, rfl, ha, ea, sa⟩ := VD.listE hu
  obtain ⟨_, _, _, rfl, hb', eb, sb⟩ := VD.listE hv
  refine P.add_list ea eb (hQ _ _ _ (stays_push _ _) ?_) (by rw [List.size_toArray, List.size_toArray, sa.length, sb.length]; exact hz)
  rw [List.append_toArray]
  exact vd_new_list (hb.up st) (sa.append sb)
theorem ev_addS {l r : Expr} {pos : Pos} {x y : List Nat} (hl : EV w n env h l (.str (S x))) (hr : EV w n env h r (.str (S y))) (hz : x.length + y.length ≤ sizeLine) : EV w n env h (.BinOp l .Add r pos) (.str (S (x ++ y))) := by
 rw [← S_app]
 exact ev_adds hl hr (by rw [S_len, S_len]; exact hz)
theorem mul_text (x : Array Nat) (k : Nat) : (List.foldl (fun a b => a ++ b) (#[] : Array Nat) (List.replicate k x)) = ((List.replicate k x.toList).flatten).toArray := by
 have key : ∀ (l : List (Array Nat)) (a : Array Nat), (List.foldl (fun a b => a ++ b) a l).toList = a.toList ++ (l.map Array.toList).flatten := by
  intro l
  induction l with
  | nil => intro a; simp
  | cons b r ih => intro a; rw [List.foldl_cons, ih]; simp
 apply Array.ext'
 rw [key]; simp
theorem ev_muls {l r : Expr} {pos : Pos} {x : List Nat} {k : Int} (hl : EV w n env h l (.str (S x))) (hr : EV w n env h r (.int k)) (h0 : 0 ≤ k) (h1 : k < 1000) (hx : x.length < 1000) :
  EV w n env h (.BinOp l .Mult r pos) (.str (S (List.replicate k.toNat x).flatten)) :=
 ev_binop hl hr fun A E s Q u v ok st hu hv hQ => by
  obtain ⟨t, rfl⟩ := VD.strE hu
  obtain ⟨u, rfl⟩ := VD.intE hv
  by_cases hk : k < 1
  ·have : k = 0 := by omega
   subst this
   exact P.mul_str_none (by omega) (by omega) (hQ _ _ _ (stays_refl _) (.str _ _))
  ·refine P.mul_str (by simp; omega) (fun _ hq => ?_) (fun _ hq => ?_) ?_
   ·rw [S_len]
    have : (2 ^ 63 - 1) / k ≥ 1000 := by
     apply (Int.le_ediv_iff_mul_le (by omega)).mpr
     omega
    omega
   ·rw [S_len]
    unfold Builtin.Str.tooLong
    have : x.length * k.toNat ≤ 1000 * 1000 := Nat.mul_le_mul (by omega) (by omega)
    have z := sizeLine_eq
    simp
    omega
   ·rw [if_neg hk]
    by_cases q : (k == 1 || (S x).length == 0) = true
    ·rw [if_pos q]
     refine hQ _ _ _ (stays_refl _) ?_
     have : (List.replicate k.toNat x).flatten = x := by
      rw [Bool.or_eq_true, beq_iff_eq, beq_iff_eq, S_len] at q
      rcases q with q | q
      ·subst q; simp
      ·have : x = [] := List.length_eq_zero_iff.mp q
       subst this; simp
     rw [this]
     exact .str _ _
    ·rw [if_neg q, mul_text]
     have e : (⟨(List.replicate k.toNat (S x).cps.toList).flatten.toArray⟩ : Str) = S (List.replicate k.toNat x).flatten := by simp [S]
     rw [e]
     refine ⟨?_, hQ _ _ _ (stays_refl _) (.str _ _)⟩
     have z := sizeLine_eq
     rw [S_len, List.length_flatten, List.map_replicate, List.sum_replicate_nat]
     have : k.toNat * x.length ≤ 1000 * 1000 := Nat.mul_le_mul (by omega) (by omega)
     omega
end
end Mine
-- MD3
namespace Mine
section
variable {w : World} {n : Nat} {env : Env} {h : Heap}
theorem subscripted_ops (slice : Expr) (o i : Value) : ∃ ops, subscripted slice false o i = operate ops (getItem o i) := by
 unfold subscripted
 split <;> first | exact ⟨_, rfl⟩ | contradiction
noncomputable abbrev Getter (w : World) (n : Nat) (h : Heap) (T : String) (o i : Value) (c : D) : Prop :=
 ∀ (A : Around) (E : Value → Shared → Prop) (s : Shared) (Q : Value → Shared → Prop), Ok n A → h.StaysIn s.heap → (∀ v h' tk, s.heap.StaysIn h' → VD h' v c → Q v { s with heap := h', toks := tk }) → s.TypeIs o T ∧ wpAny (model PW w) A (getItem o i) Q E s
theorem look_str : typeLookup (.type "str") "__getitem__" = pure (some (.builtin "str.__getitem__")) := by rw [typeLookup_type, builtinLookup_eq_fast]; kernel_rfl
theorem look_tuple : typeLookup (.type "tuple") "__getitem__" = pure (some (.builtin "tuple.__getitem__")) := by rw [typeLookup_type, builtinLookup_eq_fast]; kernel_rfl
theorem look_list : typeLookup (.type "list") "__getitem__" = pure (some (.builtin "list.__getitem__")) := by rw [typeLookup_type, builtinLookup_eq_fast]; kernel_rfl
theorem ev_subscript {value slice : Expr} {pos : Pos} {a b c : D} {T id : String} (hl : typeLookup (.type T) "__getitem__" = pure (some (.builtin id))) (ha : EV w n env h value a) (hb : EV w n env h slice b)
  (ho : ∀ (A : Around) (E : Value → Shared → Prop) (s : Shared) (Q : Value → Shared → Prop) (u v : Value), Ok n A → h.StaysIn s.heap → VD s.heap u a → VD s.heap v b → (∀ v h' tk, s.heap.StaysIn h' → VD h' v c → Q v { s with heap := h', toks := tk }) →
   s.TypeIs u T ∧ wpAny (model PW w) A (getItem u v) Q E s) : EV w n env h (.Subscript value slice pos) c := fun A E s Q ok st hQ => by
 refine Subscript_ (ha A E s _ ok st fun u h1 t1 k1 v1 => hb A E _ _ ok (stays_trans st k1) fun v h2 t2 k2 v2 => ?_)
 obtain ⟨ops, e⟩ := subscripted_ops slice u v
 obtain ⟨ty, g⟩ := ho A E { s with heap := h2, toks := t2 } Q u v ok (stays_trans st (stays_trans k1 k2)) (v1.keep k2) v2 (fun x h3 t3 k3 v3 => hQ x h3 t3 (stays_trans k1 (stays_trans k2 k3)) v3)
 exact tail_any ty hl g e
theorem ev_idx_str {value slice : Expr} {pos : Pos} {x : List Nat} {i : Int} {k c : Nat} (ha : EV w n env h value (.str (S x))) (hb : EV w n env h slice (.int i)) (hk : seqIndex? i x.length = some k) (hc : x[k]? = some c)
  (hlo : -(2 ^ 63) ≤ i) (hhi : i < 2 ^ 63) : EV w n env h (.Subscript value slice pos) (.str (S [c])) :=
 ev_subscript look_str ha hb fun A E s Q u v ok st hu hv hQ => by
  obtain ⟨_, rfl⟩ := VD.strE hu; obtain ⟨_, rfl⟩ := VD.intE hv
  refine ⟨rfl, P.getItem_str (by simp; omega) ?_ (hQ _ _ _ (stays_refl _) (.str _ _))⟩
  rw [S_len, hk]
  show (S x).cps[k]? = some c
  simpa [S] using hc
theorem ev_idx_list {value slice : Expr} {pos : Pos} {x : List D} {i : Int} {k : Nat} {c : D} (ha : EV w n env h value (.list x)) (hb : EV w n env h slice (.int i)) (hk : seqIndex? i x.length = some k) (hc : x[k]? = some c)
  (hlo : 0 ≤ i) (hhi : i < 2 ^ 63) : EV w n env h (.Subscript value slice pos) c :=
 ev_subscript look_list ha hb fun A E s Q u v ok st hu hv hQ => by
  obtain ⟨_, _, _, rfl, hl, e, sl⟩ := VD.listE hu
  obtain ⟨_, rfl⟩ := VD.intE hv
  obtain ⟨y, e1, e2⟩ := sl.get hc
  refine ⟨⟨_, e, rfl⟩, wpAny_getItem_list ⟨_, e, rfl, _, rfl⟩ hlo hhi ?_ (hQ _ _ _ (stays_refl _) e2)⟩
  have : k = i.toNat := by
   unfold seqIndex? at hk
   split at hk <;> simp_all <;> omega
  rw [List.getElem?_toArray, ← this]; exact e1
theorem ev_idx_tuple {value slice : Expr} {pos : Pos} {x : List D} {i : Int} {k : Nat} {c : D} (ha : EV w n env h value (.tuple x)) (hb : EV w n env h slice (.int i)) (hk : seqIndex? i x.length = some k) (hc : x[k]? = some c)
  (hlo : -(2 ^ 63) ≤ i) (hhi : i < 2 ^ 63) : EV w n env h (.Subscript value slice pos) c :=
 ev_subscript look_tuple ha hb fun A E s Q u v ok st hu hv hQ => by
  obtain ⟨_, _, _, rfl, hl, e, sl⟩ := VD.tupleE hu
  obtain ⟨_, rfl⟩ := VD.intE hv
  obtain ⟨y, e1, e2⟩ := sl.get hc
  refine ⟨⟨_, e, rfl⟩, getItem_tuple ⟨_, e, rfl, _, rfl⟩ hlo hhi (j := k) ?_ ?_ (hQ _ _ _ (stays_refl _) e2)⟩
  ·rw [List.size_toArray, sl.length]; exact hk
  ·rw [List.getElem?_toArray]; exact e1
noncomputable def PV (w : World) (n : Nat) (env : Env) (h : Heap) (e : Option Expr) (k : Option Int) : Prop :=
 ∀ (A : Around) (E : Value → Shared → Prop) (s : Shared) (Q : Value → Shared → Prop), Ok n A → h.StaysIn s.heap →
  (∀ p h' tk, s.heap.StaysIn h' → p.map (·.1) = k → Q (partValue p) { s with heap := h', toks := tk }) → wpAny (model PW w) A (evalPart e env) Q E s
theorem pv_none : PV w n env h none none := fun A E s Q ok st hQ => by rw [evalPart_none]; exact wpAny_pure (hQ none _ _ (stays_refl _) rfl)
theorem pv_some {e : Expr} {i : Int} (x : EV w n env h e (.int i)) : PV w n env h (some e) (some i) := fun A E s Q ok st hQ => by
 rw [evalPart_some]
 exact x A E s Q ok st fun v h' tk k hv => by obtain ⟨t, rfl⟩ := VD.intE hv; exact hQ (some (i, t)) h' tk k rfl
theorem pv_null {e : Expr} (x : EV w n env h e .none) : PV w n env h (some e) none := fun A E s Q ok st hQ => by
 rw [evalPart_some]
 exact x A E s Q ok st fun v h' tk k hv => by obtain rfl := VD.noneE hv; exact hQ none h' tk k rfl
theorem isPart_of (p : Option (Int × Tok)) : IsPart (partValue p) (p.map (·.1)) := by
 cases p with
 | none => exact .none
 | some q => exact .int _ _
theorem sliceMade_post {x : List Nat} {t : Tok} {l u st : Option (Int × Tok)} {Q : Value → Shared → Prop} {s : Shared} (hx : x.length ≤ sizeLine)
  (hc : (cut x (l.map (·.1)) (u.map (·.1)) ((st.map (·.1)).getD 1)).length ≤ sizeLine)
  (h1 : ((st.map (·.1)).getD 1 == 1 && (slicePicked (S x) l u st).length == (S x).length) = true → cut x (l.map (·.1)) (u.map (·.1)) ((st.map (·.1)).getD 1) = x)
  (hQ : ∀ t' tk, Q (.str (S (cut x (l.map (·.1)) (u.map (·.1)) ((st.map (·.1)).getD 1))) t') { s with toks := tk }) : (sliceMade (S x) t l u st).post Q s := by
 unfold sliceMade
 by_cases q : ((st.map (·.1)).getD 1 == 1 && (slicePicked (S x) l u st).length == (S x).length) = true
 ·rw [if_pos q]
  have := hQ t s.toks
  rw [h1 q] at this
  exact this
 ·rw [if_neg q]
  have e : (⟨((slicePicked (S x) l u st).filterMap ((S x).cps[·]?)).toArray⟩ : Str) = S (cut x (l.map (·.1)) (u.map (·.1)) ((st.map (·.1)).getD 1)) := by
   unfold slicePicked cut
   rw [S_len]
   simp [S]
  rw [e]
  exact ⟨by rw [S_len]; exact hc, hQ _ _⟩
end
end Mine
-- MD4
namespace Mine
section
variable {w : World} {n : Nat} {env : Env} {h : Heap}
theorem slice_eval {lower upper step : Option Expr} {p : Pos} {lo hi st : Option Int} (hl : PV w n env h lower lo) (hu : PV w n env h upper hi) (hs : PV w n env h step st)
  {A : Around} {E : Value → Shared → Prop} {s : Shared} {Q : Value → Shared → Prop} (ok : Ok n A) (stt : h.StaysIn s.heap)
  (hQ : ∀ a h' tk l u k, s.heap.StaysIn h' → h'.IsSlice a l u k → l.map (·.1) = lo → u.map (·.1) = hi → k.map (·.1) = st → Q (.ref a) { s with heap := h', toks := tk }) :
  wpAny (model PW w) A (eval (.Slice lower upper step p) env) Q E s := by
 refine wpAny_Slice (hl A E s _ ok stt fun p1 h1 t1 k1 e1 => hu A E _ _ ok (stays_trans stt k1) fun p2 h2 t2 k2 e2 => hs A E _ _ ok (stays_trans stt (stays_trans k1 k2)) fun p3 h3 t3 k3 e3 => ?_)
 exact hQ _ _ _ p1 p2 p3 (stays_trans k1 (stays_trans k2 (stays_trans k3 (stays_push _ _)))) ⟨_, get_push _ _, rfl, rfl⟩ e1 e2 e3
theorem slicePicked_len (x : List Nat) (l u : Option (Int × Tok)) (hc : (slicePicked (S x) l u none).length = x.length) : cut x (l.map (·.1)) (u.map (·.1)) 1 = x := by
 have key : ∀ (a b : Nat), b ≤ x.length → ((List.range (b - a)).map (a + ·)).length = x.length → ((List.range (b - a)).map (a + ·)).filterMap (x[·]?) = x := by
  intro a b hb hlen
  rw [List.length_map, List.length_range] at hlen
  have : a = 0 ∨ x.length = 0 := by omega
  rw [pick_drop_take]
  rcases this with h0 | h0
  ·subst h0
   rw [List.drop_zero, List.take_of_length_le (by omega)]
  ·have : x = [] := List.length_eq_zero_iff.mp h0
   subst this; simp
 unfold slicePicked at hc
 unfold cut
 rw [S_len] at hc
 generalize hlo : l.map (·.1) = lo at *
 generalize hhi : u.map (·.1) = hi at *
 have e : ∃ a b : Nat, b ≤ x.length ∧ Builtin.Str.strSliceIndices lo hi 1 x.length = sliceRange a b 1 := by
  unfold Builtin.Str.strSliceIndices
  simp only [show ((1 : Int) > 0) = True from by simp, if_true]
  have cl : ∀ (v : Option Int) (d : Nat), d ≤ x.length → ∃ a : Nat, a ≤ x.length ∧ (match v with | none => (d : Int) | some i => max 0 (min (if i < 0 then i + (x.length : Int) else i) (x.length : Int))) = (a : Int) := by
   intro v d hd
   cases v with
   | none => exact ⟨d, hd, rfl⟩
   | some i => exact ⟨(max 0 (min (if i < 0 then i + (x.length : Int) else i) (x.length : Int))).toNat, by omega, by dsimp only; omega⟩
  obtain ⟨a, ha, ea⟩ := cl lo 0 (Nat.zero_le _)
  obtain ⟨b, hb, eb⟩ := cl hi x.length (Nat.le_refl _)
  refine ⟨a, b, hb, ?_⟩
  have ea' := ea
  have eb' := eb
  cases lo <;> cases hi <;> simp_all
 obtain ⟨a, b, hb, e⟩ := e
 rw [show ((none : Option (Int × Tok)).map (·.1)).getD 1 = 1 from rfl, e, PySem.sliceRange_one] at hc
 rw [e, PySem.sliceRange_one]
 exact key a b hb hc
theorem cut_le (x : List Nat) (lo hi : Option Int) : (cut x lo hi 1).length ≤ x.length := by
 unfold cut
 refine Nat.le_trans (List.length_filterMap_le ..) (PySem.sliceIndices_le lo hi x.length)
theorem ev_cut_str {value : Expr} {lower upper : Option Expr} {p pos : Pos} {x : List Nat} {lo hi : Option Int} (ha : EV w n env h value (.str (S x))) (hl : PV w n env h lower lo) (hu : PV w n env h upper hi) (hx : x.length ≤ sizeLine) :
  EV w n env h (.Subscript value (.Slice lower upper none p) pos) (.str (S (cut x lo hi 1))) := fun A E s Q ok st hQ => by
 refine Subscript_ (ha A E s _ ok st fun u h1 t1 k1 v1 => slice_eval hl hu pv_none ok (stays_trans st k1) fun a h2 t2 l u' k k2 hsl e1 e2 e3 => ?_)
 obtain ⟨t, rfl⟩ := VD.strE v1
 subst e1 e2
 have e4 : k = none := by cases k with | none => rfl | some _ => cases e3
 subst e4
 refine tail_any (T := "str") rfl look_str (wpAny_getItem_str_slice hsl rfl ?_) rfl
 exact sliceMade_post hx (Nat.le_trans (cut_le _ _ _) hx) (fun q => slicePicked_len x l u' (by
   rw [S_len] at q
   simpa using q)) fun t' tk => hQ _ _ _ (stays_trans k1 k2) (.str _ _)
theorem ev_cut_str_step {value st : Expr} {lower upper : Option Expr} {p pos : Pos} {x : List Nat} {lo hi : Option Int} {c : Int} (ha : EV w n env h value (.str (S x))) (hl : PV w n env h lower lo) (hu : PV w n env h upper hi) (hs : EV w n env h st (.int c)) (hx : x.length ≤ sizeLine)
  (hc : 1 < c) (hz : (cut x lo hi c).length ≤ sizeLine) :
  EV w n env h (.Subscript value (.Slice lower upper (some st) p) pos) (.str (S (cut x lo hi c))) := fun A E s Q ok stt hQ => by
 refine Subscript_ (ha A E s _ ok stt fun u h1 t1 k1 v1 => slice_eval hl hu (pv_some hs) ok (stays_trans stt k1) fun a h2 t2 l u' k k2 hsl e1 e2 e3 => ?_)
 obtain ⟨t, rfl⟩ := VD.strE v1
 subst e1 e2
 obtain ⟨q, rfl, hq⟩ := Option.map_eq_some_iff.mp e3
 obtain ⟨i, t'⟩ := q
 dsimp only at hq
 subst hq
 refine tail_any (T := "str") rfl look_str (wpAny_getItem_str_slice hsl (by simp; omega) ?_) rfl
 refine sliceMade_post hx hz (fun q => ?_) fun t' tk => hQ _ _ _ (stays_trans k1 k2) (.str _ _)
 exfalso
 simp at q
 omega
theorem vds_pick {h : Heap} {vs : List Value} {ds : List D} (x : VDs h vs ds) : ∀ (ix : List Nat), VDs h (ix.filterMap (vs[·]?)) (ix.filterMap (ds[·]?))
 | [] => .nil
 | i :: r => by
  rw [List.filterMap_cons, List.filterMap_cons]
  cases e : ds[i]? with
  | none =>
   have : vs[i]? = none := by
    rw [List.getElem?_eq_none_iff] at e ⊢
    rw [x.length]; exact e
   rw [this]
   exact vds_pick x r
  | some d =>
   obtain ⟨v, e1, e2⟩ := x.get e
   rw [e1]
   exact .cons e2 (vds_pick x r)
theorem slicePick_cut (vs : List Value) (lo hi st : Option Int) : slicePick vs.toArray lo hi st = (cut vs lo hi (st.getD 1)).toArray := by
 unfold slicePick cut
 rw [List.size_toArray]
 congr 1
 have e : (fun x : Nat => vs.toArray[x]?) = fun x : Nat => vs[x]? := by funext i; simp
 rw [e]
 rfl
theorem vds_cut {h : Heap} {vs : List Value} {ds : List D} (x : VDs h vs ds) (lo hi : Option Int) (st : Int) : VDs h (cut vs lo hi st) (cut ds lo hi st) := by
 unfold cut
 rw [x.length]
 exact vds_pick x _
theorem ev_cut_list {value : Expr} {lower upper step : Option Expr} {p pos : Pos} {x : List D} {lo hi st : Option Int} (hb : Big h) (ha : EV w n env h value (.list x)) (hl : PV w n env h lower lo) (hu : PV w n env h upper hi) (hs : PV w n env h step st) (h0 : st ≠ some 0) (hx : x.length ≤ sizeLine) :
  EV w n env h (.Subscript value (.Slice lower upper step p) pos) (.list (cut x lo hi (st.getD 1))) := fun A E s Q ok stt hQ => by
 refine Subscript_ (ha A E s _ ok stt fun u h1 t1 k1 v1 => slice_eval hl hu hs ok (stays_trans stt k1) fun a h2 t2 l u' k k2 hsl e1 e2 e3 => ?_)
 obtain ⟨_, _, _, rfl, hl, e, sl⟩ := VD.listE v1
 obtain ⟨ops, eo⟩ := subscripted_ops (.Slice lower upper step p) (.ref _) (.ref a)
 subst e1 e2 e3
 obtain ⟨os, f1, f2, f3⟩ := hsl
 refine tail_any (T := "list") ⟨_, k2 _ _ e, rfl⟩ look_list (wpAny_getItem_list_slice ⟨_, k2 _ _ e, rfl, _, rfl⟩ ⟨os, f1, f2, f3⟩ (isPart_of l) (isPart_of u') (isPart_of k) h0 ?_ (by rw [List.size_toArray, sl.length]; exact hx)) eo
 refine hQ _ _ _ (stays_trans k1 (stays_trans k2 (stays_push _ _))) ?_
 rw [slicePick_cut]
 exact vd_new_list (hb.up (stays_trans stt (stays_trans k1 k2))) (vds_cut (sl.keep k2) _ _ _)
end
end Mine
-- MD5
namespace Mine
section
variable {w : World} {n : Nat} {env : Env} {h : Heap}
noncomputable abbrev Cmp (w : World) (n : Nat) (h : Heap) (op : CmpOp) (a b : D) (r : Bool) : Prop :=
 ∀ (A : Around) (E : Value → Shared → Prop) (s : Shared) (Q : Value → Shared → Prop) (u v : Value), Ok n A → h.StaysIn s.heap → VD s.heap u a → VD s.heap v b → (∀ h' tk, s.heap.StaysIn h' → Q (.bool r) { s with heap := h', toks := tk }) →
   wpAny (model PW w) A (compareOp op u v) Q E s
theorem ev_cmp {l r : Expr} {op : CmpOp} {pos : Pos} {a b : D} {c : Bool} (hl : EV w n env h l a) (hr : EV w n env h r b) (ho : Cmp w n h op a b c) (hm : behindInMarks op r = false := by with_unfolding_all rfl) :
  EV w n env h (.Compare l [op] [r] pos) (.bool c) := fun A E s Q ok st hQ =>
 wpAny_Compare1 (hl A E s _ ok st fun u h1 t1 k1 v1 => hr A E _ _ ok (stays_trans st k1) fun v h2 t2 k2 v2 => ho A E _ _ u v ok (stays_trans st (stays_trans k1 k2)) (v1.keep k2) v2 fun h3 t3 k3 => hQ _ h3 t3 (stays_trans k1 (stays_trans k2 k3)) (.bool _)) hm
theorem bv_cmp {l r : Expr} {op : CmpOp} {pos : Pos} {a b : D} {c : Bool} (hl : EV w n env h l a) (hr : EV w n env h r b) (ho : Cmp w n h op a b c) (hm : behindInMarks op r = false := by with_unfolding_all rfl) :
  BV w n env h (.Compare l [op] [r] pos) c := fun A E s Q ok st hQ =>
 wpAny_isTrue_Compare1 (hl A E s _ ok st fun u h1 t1 k1 v1 => hr A E _ _ ok (stays_trans st k1) fun v h2 t2 k2 v2 => ho A E _ _ u v ok (stays_trans st (stays_trans k1 k2)) (v1.keep k2) v2 fun h3 t3 k3 => wpAny_truthy_bool (hQ h3 t3 (stays_trans k1 (stays_trans k2 k3)))) hm
theorem cmp_lt {i j : Int} : Cmp w n h .Lt (.int i) (.int j) (decide (i < j)) := fun A E s Q u v ok st hu hv hQ => by obtain ⟨_, rfl⟩ := VD.intE hu; obtain ⟨_, rfl⟩ := VD.intE hv; exact lt_int (hQ _ _ (stays_refl _))
theorem cmp_gt {i j : Int} : Cmp w n h .Gt (.int i) (.int j) (decide (j < i)) := fun A E s Q u v ok st hu hv hQ => by obtain ⟨_, rfl⟩ := VD.intE hu; obtain ⟨_, rfl⟩ := VD.intE hv; exact gt_int (hQ _ _ (stays_refl _))
theorem cmp_eq {i j : Int} : Cmp w n h .Eq (.int i) (.int j) (i == j) := fun A E s Q u v ok st hu hv hQ => by obtain ⟨_, rfl⟩ := VD.intE hu; obtain ⟨_, rfl⟩ := VD.intE hv; exact eq_int (hQ _ _ (stays_refl _))
theorem cmp_ne {i j : Int} : Cmp w n h .NotEq (.int i) (.int j) (i != j) := fun A E s Q u v ok st hu hv hQ => by obtain ⟨_, rfl⟩ := VD.intE hu; obtain ⟨_, rfl⟩ := VD.intE hv; exact ne_int (hQ _ _ (stays_refl _))
theorem S_beq (x y : List Nat) : (S x == S y) = (x == y) := by
 by_cases e : x = y
 ·subst e; simp
 ·have : S x ≠ S y := fun q => e (S_inj q)
  rw [beq_eq_false_iff_ne.mpr this, beq_eq_false_iff_ne.mpr e]
theorem cmp_eqs {x y : List Nat} : Cmp w n h .Eq (.str (S x)) (.str (S y)) (x == y) := fun A E s Q u v ok st hu hv hQ => by
 obtain ⟨_, rfl⟩ := VD.strE hu; obtain ⟨_, rfl⟩ := VD.strE hv; refine eq_str ?_; rw [S_beq]; exact hQ _ _ (stays_refl _)
theorem cmp_nes {x y : List Nat} : Cmp w n h .NotEq (.str (S x)) (.str (S y)) (x != y) := fun A E s Q u v ok st hu hv hQ => by
 obtain ⟨_, rfl⟩ := VD.strE hu; obtain ⟨_, rfl⟩ := VD.strE hv; refine ne_str ?_; rw [bne, S_beq]; exact hQ _ _ (stays_refl _)
noncomputable abbrev Tru (w : World) (n : Nat) (h : Heap) (a : D) (r : Bool) : Prop :=
 ∀ (A : Around) (E : Value → Shared → Prop) (s : Shared) (Q : Bool → Shared → Prop) (u : Value), Ok n A → h.StaysIn s.heap → VD s.heap u a → (∀ h' tk, s.heap.StaysIn h' → Q r { s with heap := h', toks := tk }) → wpAny (model PW w) A (truthy u) Q E s
theorem tru_bool {b : Bool} : Tru w n h (.bool b) b := fun A E s Q u ok st hu hQ => by obtain rfl := VD.boolE hu; exact wpAny_truthy_bool (hQ _ _ (stays_refl _))
theorem tru_int {i : Int} : Tru w n h (.int i) (i != 0) := fun A E s Q u ok st hu hQ => by obtain ⟨_, rfl⟩ := VD.intE hu; exact truthy_int (hQ _ _ (stays_refl _))
theorem tru_str {x : List Nat} (hx : x.length < 2 ^ 62) : Tru w n h (.str (S x)) (!x.isEmpty) := fun A E s Q u ok st hu hQ => by
 obtain ⟨_, rfl⟩ := VD.strE hu
 refine P.truthy_str (by rw [S_len]; omega) ?_
 rw [S_len]
 have : ((x.length : Int) != 0) = !x.isEmpty := by cases x <;> simp <;> omega
 rw [this]; exact hQ _ _ (stays_refl _)
theorem bv_plain {e : Expr} {a : D} {c : Bool} (he : EV w n env h e a) (ht : Tru w n h a c) (hs : isTrue e env (eval e env) = (do let v ← eval e env; standAt e.pos; holding [v] (truthy v)) := by with_unfolding_all rfl) : BV w n env h e c := fun A E s Q ok st hQ =>
 isTrue_plain (he A E s _ ok st fun u h1 t1 k1 v1 => ht A E _ _ u ok (stays_trans st k1) v1 fun h2 t2 k2 => hQ h2 t2 (stays_trans k1 k2)) hs
theorem bv_not {e : Expr} {pos : Pos} {c : Bool} (he : BV w n env h e c) : BV w n env h (.UnaryOp .Not e pos) (!c) := fun A E s Q ok st hQ =>
 isTrue_not (he A E s _ ok st fun h1 t1 k1 => hQ h1 t1 k1)
theorem bv_and2 {e f : Expr} {pos : Pos} {c d : Bool} (he : BV w n env h e c) (hf : c = true → BV w n env h f d) : BV w n env h (.BoolOp .And [e, f] pos) (c && d) := fun A E s Q ok st hQ => by
 refine isTrue_and (he A E s _ ok st fun h1 t1 k1 => ?_)
 cases c with
 | false => exact hQ h1 t1 k1
 | true =>
  rw [if_pos rfl]
  refine isTrue_and (hf rfl A E _ _ ok (stays_trans st k1) fun h2 t2 k2 => ?_)
  cases d with
  | false => exact hQ h2 t2 (stays_trans k1 k2)
  | true => rw [if_pos rfl]; exact isTrue_and_nil (hQ h2 t2 (stays_trans k1 k2))
theorem bv_and3 {e f g : Expr} {pos : Pos} {c d b : Bool} (he : BV w n env h e c) (hf : c = true → BV w n env h f d) (hg : c = true → d = true → BV w n env h g b) : BV w n env h (.BoolOp .And [e, f, g] pos) (c && d && b) := fun A E s Q ok st hQ => by
 refine isTrue_and (he A E s _ ok st fun h1 t1 k1 => ?_)
 cases c with
 | false => exact hQ h1 t1 k1
 | true =>
  rw [if_pos rfl]
  refine isTrue_and (hf rfl A E _ _ ok (stays_trans st k1) fun h2 t2 k2 => ?_)
  cases d with
  | false => exact hQ h2 t2 (stays_trans k1 k2)
  | true =>
   rw [if_pos rfl]
   refine isTrue_and (hg rfl rfl A E _ _ ok (stays_trans st (stays_trans k1 k2)) fun h3 t3 k3 => ?_)
   cases b with
   | false => exact hQ h3 t3 (stays_trans k1 (stays_trans k2 k3))
   | true => rw [if_pos rfl]; exact isTrue_and_nil (hQ h3 t3 (stays_trans k1 (stays_trans k2 k3)))
theorem bv_or2 {e f : Expr} {pos : Pos} {c d : Bool} (he : BV w n env h e c) (hf : c = false → BV w n env h f d) : BV w n env h (.BoolOp .Or [e, f] pos) (c || d) := fun A E s Q ok st hQ => by
 refine isTrue_or (he A E s _ ok st fun h1 t1 k1 => ?_)
 cases c with
 | true => exact hQ h1 t1 k1
 | false =>
  rw [if_neg (by decide)]
  refine isTrue_or (hf rfl A E _ _ ok (stays_trans st k1) fun h2 t2 k2 => ?_)
  cases d with
  | true => exact hQ h2 t2 (stays_trans k1 k2)
  | false => rw [if_neg (by decide)]; exact isTrue_or_nil (hQ h2 t2 (stays_trans k1 k2))
noncomputable def AV (w : World) (n : Nat) (env : Env) (h : Heap) (pos : Pos) (es : List Expr) (ds : List D) : Prop :=
 ∀ (A : Around) (E : Value → Shared → Prop) (s : Shared) (Q : List Value → Shared → Prop), Ok n A → h.StaysIn s.heap →
  (∀ vs h' tk, s.heap.StaysIn h' → VDs h' vs ds → Q vs { s with heap := h', toks := tk }) → wpAny (model PW w) A (spliced (backTo pos (starEach es env))) Q E s
theorem av_nil {pos : Pos} : AV w n env h pos [] [] := fun A E s Q ok st hQ => spliced_nil (hQ _ _ _ (stays_refl _) .nil)
theorem av_cons {pos : Pos} {e : Expr} {es : List Expr} {d : D} {ds : List D} (he : EV w n env h e d) (hs : AV w n env h pos es ds) (hn : starEach (e :: es) env = (false, eval e env) :: starEach es env := by rfl) : AV w n env h pos (e :: es) (d :: ds) := fun A E s Q ok st hQ => by
 rw [hn]
 refine spliced_cons (he A E s _ ok st fun v h1 t1 k1 v1 => hs A E _ _ ok (stays_trans st k1) fun vs h2 t2 k2 v2 => hQ _ h2 t2 (stays_trans k1 k2) (.cons (v1.keep k2) v2))
theorem ev_tuple {es : List Expr} {k : Nat} {pos : Pos} {ds : List D} (hb : Big h) (ha : AV w n env h pos es ds) (hz : ds.length ≤ sizeLine) : EV w n env h (.Tuple es k pos) (.tuple ds) := fun A E s Q ok st hQ =>
 Tuple_ (ha A E s _ ok st fun vs h1 t1 k1 v1 => wpAny_newTuple (hQ _ _ _ (stays_trans k1 (stays_push _ _)) (vd_new_tuple (hb.up (stays_trans st k1)) v1)) (by rw [v1.length]; exact hz))
theorem ev_list {es : List Expr} {pos : Pos} {ds : List D} (hb : Big h) (ha : AV w n env h pos es ds) (hz : ds.length ≤ sizeLine) : EV w n env h (.List es pos) (.list ds) := fun A E s Q ok st hQ =>
 List_ (ha A E s _ ok st fun vs h1 t1 k1 v1 => wpAny_newObj_type (hQ _ _ _ (stays_trans k1 (stays_push _ _)) (vd_new_list (hb.up (stays_trans st k1)) v1)) (by show vs.toArray.size ≤ sizeLine; rw [List.size_toArray, v1.length]; exact hz))
end
end Mine
-- MD6
namespace Mine
section
variable {w : World} {n : Nat} {env : Env} {h b : Heap}
structure Fe (env : Env) : Prop where
 kind : env.scope.kind = .function
 gl : env.globals = mainGlobals
 bi : env.builtins = builtinsNs
theorem ev_global {x : Str} {pos : Pos} {v : Value} (fe : Fe env) (G : Gr w b) (st : b.StaysIn h) (e : nsIn (hd.heap_1 w.params) mainGlobals x = some (some v)) (hx : env.kindOf x = some .globalImplicit)
  (hd : (x == ("__debug__" : Str)) = false := by decide) : EV w n env h (.Name x pos) (.con v) := fun A E s Q ok st' hQ => by
 obtain ⟨mean, mg, mb, T⟩ := G.t
 exact Name_function_global fe.kind hx (loadGlobal_global (fe.gl ▸ T.g.keeps (stays_trans st st')) (mg_of G.k T.g e) (hQ _ _ _ (stays_refl _) (.con _))) hd
theorem ev_builtin {x : Str} {pos : Pos} {v : Value} (fe : Fe env) (G : Gr w b) (st : b.StaysIn h) (e : nsIn (hd.heap_1 w.params) mainGlobals x = some none) (hv : bootBuiltins x = some v) (hn : x ≠ "__name__") (hx : env.kindOf x = some .globalImplicit)
  (hd : (x == ("__debug__" : Str)) = false := by decide) : EV w n env h (.Name x pos) (.con v) := fun A E s Q ok st' hQ => by
 obtain ⟨mean, mg, mb, T⟩ := G.t
 exact Name_function_global fe.kind hx (loadGlobal_builtin (fe.gl ▸ T.g.keeps (stays_trans st st')) (mg_none_of G.k T.g e) (fe.bi ▸ T.b.keeps (stays_trans st st')) ((T.builtins x hn).trans hv) (hQ _ _ _ (stays_refl _) (.con _))) hd
noncomputable def CV (w : World) (n : Nat) (h : Heap) (f : Value) (ds : List D) (r : D) : Prop :=
 ∀ (A : Around) (E : Value → Shared → Prop) (s : Shared) (Q : Value → Shared → Prop) (vs : List Value), Ok n A → h.StaysIn s.heap → VDs s.heap vs ds →
  (∀ v h' tk, s.heap.StaysIn h' → VD h' v r → Q v { s with heap := h', toks := tk }) → wpAny (model PW w) A (call f vs) Q E s
theorem wp_evalArgs {pos : Pos} {e : Expr} {es : List Expr} {ds : List D} {f : Value} (ha : AV w n env h pos (e :: es) ds) {A : Around} {E : Value → Shared → Prop} {s : Shared} {Q : Args → Shared → Prop} (ok : Ok n A) (st : h.StaysIn s.heap)
  (hQ : ∀ vs h' tk, s.heap.StaysIn h' → VDs h' vs ds → Q ⟨vs, []⟩ { s with heap := h', toks := tk }) (hn : starEach (e :: es) env = (false, eval e env) :: starEach es env) :
  wpAny (model PW w) A (evalArgs f true (backTo pos (starEach (e :: es) env)) []) Q E s := by
 have := ha A E s (fun vs s' => Q ⟨vs, []⟩ s') ok st hQ
 rw [hn] at this ⊢
 exact evalArgs_plain this
theorem ev_call {x : Str} {p pos : Pos} {e : Expr} {es : List Expr} {ds : List D} {f : Value} {r : D} (hf : EV w n env h (.Name x p) (.con f)) (ha : AV w n env h pos (e :: es) ds) (hc : CV w n h f ds r)
  (hk : (∃ id, f = .builtin id) ∨ (∃ T, f = .type T) ∨ (∃ a o fd, f = .ref a ∧ h.get? a = some o ∧ o.data = .func fd))
  (hs : ((backTo pos (starEach (e :: es) env)).any fun x => x.1) = false := by rfl)
  (hn : starEach (e :: es) env = (false, eval e env) :: starEach es env := by rfl) : EV w n env h (.Call (.Name x p) (e :: es) [] pos) r := fun A E s Q ok st hQ => by
 refine wpAny_Call_Name_kw (hf A E s _ ok st fun v h1 t1 k1 v1 => ?_)
 obtain rfl := (VD.conE v1).symm
 have fin : ∀ vs h' tk, h1.StaysIn h' → VDs h' vs ds → wpAny (model PW w) A (call f ([] ++ vs) []) Q E { s with heap := h', toks := tk } := fun vs h2 t2 k2 v2 =>
  hc A E { s with heap := h2, toks := t2 } Q vs ok (stays_trans st (stays_trans k1 k2)) v2 fun v h3 t3 k3 v3 => hQ v h3 t3 (stays_trans k1 (stays_trans k2 k3)) v3
 rcases hk with ⟨id, rfl⟩ | ⟨T, rfl⟩ | ⟨a, o, fd, rfl, ho, hd⟩
 ·exact callWith_builtin hs (wp_evalArgs ha ok (stays_trans st k1) fin hn)
 ·exact PySem.callWith_type hs (wp_evalArgs ha ok (stays_trans st k1) fin hn)
 ·exact callWith_function (o := o) (fd := fd) (wp_evalArgs ha ok (stays_trans st k1) (fun vs h2 t2 k2 v2 => ⟨⟨k2 _ _ (k1 _ _ (st _ _ ho)), hd⟩, fin vs h2 t2 k2 v2⟩) hn)
theorem cv_len_str {x : List Nat} (hx : x.length < 2 ^ 62) : CV w n h (.builtin "len") [.str (S x)] (.int x.length) := fun A E s Q vs ok st hv hQ => by
 obtain ⟨_, _, rfl, a, r⟩ := VDs.consE hv; obtain rfl := VDs.nilE r; obtain ⟨_, rfl⟩ := VD.strE a; refine P.len_str (by rw [S_len]; omega) ?_; rw [S_len]; exact hQ _ _ _ (stays_refl _) (.int _ _)
theorem cv_len_list {x : List D} (hx : x.length < 2 ^ 62) : CV w n h (.builtin "len") [.list x] (.int x.length) := fun A E s Q vs ok st hv hQ => by
 obtain ⟨_, _, rfl, a, r⟩ := VDs.consE hv
 obtain rfl := VDs.nilE r
 obtain ⟨_, _, _, rfl, hl, e, sl⟩ := VD.listE a
 have e2 := sl.length
 refine len_list ⟨_, e, rfl, _, rfl⟩ (by rw [List.size_toArray, e2]; omega) ?_
 rw [List.size_toArray, e2]; exact hQ _ _ _ (stays_refl _) (.int _ _)
theorem cv_chr {i : Int} (h0 : 0 ≤ i) (h1 : i < 0x110000) : CV w n h (.builtin "chr") [.int i] (.str (S [i.toNat])) := fun A E s Q vs ok st hv hQ => by
 obtain ⟨_, _, rfl, a, r⟩ := VDs.consE hv; obtain rfl := VDs.nilE r; obtain ⟨_, rfl⟩ := VD.intE a; exact P.chr_of_int (by simp; omega) (hQ _ _ _ (stays_refl _) (.str _ _))
theorem cv_min {i j : Int} : CV w n h (.builtin "min") [.int i, .int j] (.int (min i j)) := fun A E s Q vs ok st hv hQ => by
 obtain ⟨_, _, rfl, a, r⟩ := VDs.consE hv
 obtain ⟨_, _, rfl, b, r⟩ := VDs.consE r
 obtain rfl := VDs.nilE r; obtain ⟨_, rfl⟩ := VD.intE a; obtain ⟨_, rfl⟩ := VD.intE b
 refine min_two_ints ok.hd fun h' tk k => ?_
 by_cases q : j < i
 ·rw [if_pos q]; rw [show min i j = j from by omega] at hQ; exact hQ _ _ _ k (.int _ _)
 ·rw [if_neg q]; rw [show min i j = i from by omega] at hQ; exact hQ _ _ _ k (.int _ _)
theorem cv_max {i j : Int} : CV w n h (.builtin "max") [.int i, .int j] (.int (max i j)) := fun A E s Q vs ok st hv hQ => by
 obtain ⟨_, _, rfl, a, r⟩ := VDs.consE hv
 obtain ⟨_, _, rfl, b, r⟩ := VDs.consE r
 obtain rfl := VDs.nilE r; obtain ⟨_, rfl⟩ := VD.intE a; obtain ⟨_, rfl⟩ := VD.intE b
 refine max_two_ints ok.hd fun h' tk k => ?_
 by_cases q : j > i
 ·rw [if_pos q]; rw [show max i j = j from by omega] at hQ; exact hQ _ _ _ k (.int _ _)
 ·rw [if_neg q]; rw [show max i j = i from by omega] at hQ; exact hQ _ _ _ k (.int _ _)
theorem cv_str_int {i : Int} (hi : i.natAbs.log2 < 1920) : CV w n h (.type "str") [.int i] (.str (Str.ofString (toString i))) := fun A E s Q vs ok st hv hQ => by
 obtain ⟨_, _, rfl, a, r⟩ := VDs.consE hv; obtain rfl := VDs.nilE r; obtain ⟨_, rfl⟩ := VD.intE a; exact P.str_of_int hi (hQ _ _ _ (stays_refl _) (.str _ _))
theorem cv_int_str {x : List Nat} {i : Int} (hi : PySem.intText? (S x) = some i) (hl : x.length ≤ 640) : CV w n h (.type "int") [.str (S x)] (.int i) := fun A E s Q vs ok st hv hQ => by
 obtain ⟨_, _, rfl, a, r⟩ := VDs.consE hv; obtain rfl := VDs.nilE r; obtain ⟨_, rfl⟩ := VD.strE a; exact PySem.W.KIN.call_text hi (by rw [S_len]; exact hl) (hQ _ _ _ (stays_refl _) (.int _ _))
theorem ev_method_str {o : Expr} {name : Str} {id : String} {apos pos : Pos} {e : Expr} {es : List Expr} {x : Str} {ds : List D} {r : D} (ho : EV w n env h o (.str x)) (ha : AV w n env h pos (e :: es) ds)
  (pa : PlainAttrs "str") (sl : Slot "str" name id) (ty : typeOf (.builtin id) = pure (.type "method_descriptor"))
  (hc : CV w n h (.builtin id) (.str x :: ds) r)
  (hb : attributeBase o name env (eval o env) = eval o env := by rfl)
  (hl : ((((backTo pos (starEach (e :: es) env)).all fun x => !x.fst) && (backToKw pos (keywordEach [] env)).all fun x => x.fst.isSome) && decide (((e :: es).length + ([] : List Keyword).length + if ([] : List Keyword).isEmpty = true then 0 else 1) < 30)) = true := by rfl)
  (hp : (apos.endLine == pos.line) = true := by rfl)
  (hs : ((backTo pos (starEach (e :: es) env)).any fun x => x.1) = false := by rfl)
  (hn : starEach (e :: es) env = (false, eval e env) :: starEach es env := by rfl) : EV w n env h (.Call (.Attribute o name apos) (e :: es) [] pos) r := fun A E s Q ok st hQ => by
 refine wpAny_Call_method hb hl hp pa sl ty (ho A E s _ ok st fun v h1 t1 k1 v1 => ?_)
 obtain ⟨t, rfl⟩ := VD.strE v1
 refine ⟨rfl, fun a e => (nomatch e), callWith_builtin hs (wp_evalArgs ha ok (stays_trans st k1) (fun vs h2 t2 k2 v2 => ?_) hn)⟩
 exact hc A E { s with heap := h2, toks := t2 } Q (.str x t :: vs) ok (stays_trans st (stays_trans k1 k2)) (.cons (.str _ _) v2) fun v h3 t3 k3 v3 => hQ v h3 t3 (stays_trans k1 (stays_trans k2 k3)) v3
theorem ev_method_str0 {o : Expr} {name : Str} {id : String} {apos pos : Pos} {x : Str} {r : D} (ho : EV w n env h o (.str x))
  (pa : PlainAttrs "str") (sl : Slot "str" name id) (ty : typeOf (.builtin id) = pure (.type "method_descriptor"))
  (hc : CV w n h (.builtin id) [.str x] r)
  (hb : attributeBase o name env (eval o env) = eval o env := by rfl)
  (hp : (apos.endLine == pos.line) = true := by rfl) : EV w n env h (.Call (.Attribute o name apos) [] [] pos) r := fun A E s Q ok st hQ => by
 refine wpAny_Call_method hb rfl hp pa sl ty (ho A E s _ ok st fun v h1 t1 k1 v1 => ?_)
 obtain ⟨t, rfl⟩ := VD.strE v1
 refine ⟨rfl, fun a e => (nomatch e), callWith_builtin rfl (PySem.evalArgs_none ?_)⟩
 exact hc A E { s with heap := h1, toks := t1 } Q [.str x t] ok (stays_trans st k1) (.cons (.str _ _) .nil) fun v h3 t3 k3 v3 => hQ v h3 t3 (stays_trans k1 k3) v3
end
end Mine
-- MD7
namespace Mine
noncomputable abbrev TL (l : List (List Nat)) : List D := l.map fun x => .str (S x)
theorem vds_texts {h : Heap} : ∀ {vs : List Value} {l : List (List Nat)}, VDs h vs (TL l) → ∃ q : List (Str × Tok), vs = strValues q ∧ q.map (·.1) = l.map S
 | _, [], .nil => ⟨[], rfl, rfl⟩
 | _, x :: l, .cons a r => by
  obtain ⟨q, e1, e2⟩ := vds_texts r
  obtain ⟨t, rfl⟩ := VD.strE a; exact ⟨(S x, t) :: q, by rw [e1]; rfl, by rw [List.map_cons, e2, List.map_cons]⟩
theorem vds_of_values {h : Heap} : ∀ {q : List (Str × Tok)} {l : List (List Nat)}, q.map (·.1) = l.map S → VDs h (strValues q) (TL l)
 | [], [], _ => .nil
 | [], _ :: _, e => by cases e
 | _ :: _, [], e => by cases e
 | (y, t) :: q, x :: l, e => by
  rw [List.map_cons, List.map_cons] at e
  injection e with e1 e2
  dsimp only at e1
  subst e1
  exact .cons (.str _ _) (vds_of_values e2)
noncomputable def joinL (sep : List Nat) : List (List Nat) → List Nat
 | [] => []
 | [x] => x
 | x :: y :: r => x ++ sep ++ joinL sep (y :: r)
theorem join_S (sep : List Nat) : ∀ l : List (List Nat), Txt.join (S sep) (l.map S) = S (joinL sep l) := by
 intro l
 show Builtin.Str.glued (S sep) (l.map S) = _
 rw [StrLaws.glued_eq_join]
 induction l with
 | nil => rfl
 | cons x r ih =>
  cases r with
  | nil => rfl
  | cons y r =>
   show S x ++ S sep ++ Str.join (S sep) ((y :: r).map S) = _
   rw [ih, S_app, S_app]; rfl
section
variable {w : World} {n : Nat} {env : Env} {h b : Heap}
theorem cv_find {x y : List Nat} : CV w n h (.builtin "str.find") [.str (S x), .str (S y)] (.int (Txt.find (S x) (S y))) := fun A E s Q vs ok st hv hQ => by
 obtain ⟨_, _, rfl, a, r⟩ := VDs.consE hv; obtain ⟨_, _, rfl, b, r⟩ := VDs.consE r; obtain rfl := VDs.nilE r; obtain ⟨_, rfl⟩ := VD.strE a; obtain ⟨_, rfl⟩ := VD.strE b; exact SC.find (hQ _ _ _ (stays_refl _) (.int _ _))
theorem cv_find3 {x y : List Nat} {i : Int} : CV w n h (.builtin "str.find") [.str (S x), .str (S y), .int i] (.int (Txt.find3 (S x) (S y) i)) := fun A E s Q vs ok st hv hQ => by
 obtain ⟨_, _, rfl, a, r⟩ := VDs.consE hv; obtain ⟨_, _, rfl, b, r⟩ := VDs.consE r; obtain ⟨_, _, rfl, c, r⟩ := VDs.consE r; obtain rfl := VDs.nilE r; obtain ⟨_, rfl⟩ := VD.strE a; obtain ⟨_, rfl⟩ := VD.strE b; obtain ⟨_, rfl⟩ := VD.intE c; exact SC.find3 (hQ _ _ _ (stays_refl _) (.int _ _))
theorem cv_isspace {x : List Nat} : CV w n h (.builtin "str.isspace") [.str (S x)] (.bool (Txt.isspace (S x))) := fun A E s Q vs ok st hv hQ => by
 obtain ⟨_, _, rfl, a, r⟩ := VDs.consE hv; obtain rfl := VDs.nilE r; obtain ⟨_, rfl⟩ := VD.strE a; exact SC.isspace (hQ _ _ _ (stays_refl _) (.bool _))
theorem cv_join {x : List Nat} {l : List (List Nat)} (hok : JoinOk (S x) (l.map S) = true) : CV w n h (.builtin "str.join") [.str (S x), .list (TL l)] (.str (S (joinL x l))) := fun A E s Q vs ok st hv hQ => by
 obtain ⟨_, _, rfl, a, r⟩ := VDs.consE hv
 obtain ⟨_, _, rfl, b, r⟩ := VDs.consE r
 obtain rfl := VDs.nilE r; obtain ⟨_, rfl⟩ := VD.strE a
 obtain ⟨_, _, _, rfl, hl, e, sl⟩ := VD.listE b
 obtain ⟨q, e1, e2⟩ := vds_texts sl
 subst e1
 refine SC.join ⟨_, e, rfl, _, rfl⟩ e2 hok fun t' k => ?_
 rw [join_S]
 exact hQ _ _ _ (stays_refl _) (.str _ _)
theorem cv_split {x y : List Nat} {l : List (List Nat)} (hb : Big h) (hy : y ≠ []) (hl : Txt.split (S x) (S y) = l.map S) (hx : x.length ≤ sizeLine)
  (hz : (Builtin.Str.partsBetween (S x) (Builtin.Str.occurrences (S x) (S y) 0 (S x).length ((S x).length + 1)) (S y).length).length ≤ sizeLine) :
  CV w n h (.builtin "str.split") [.str (S x), .str (S y)] (.list (TL l)) := fun A E s Q vs ok st hv hQ => by
 obtain ⟨_, _, rfl, a, r⟩ := VDs.consE hv
 obtain ⟨_, _, rfl, b, r⟩ := VDs.consE r
 obtain rfl := VDs.nilE r
 obtain ⟨t, rfl⟩ := VD.strE a
 obtain ⟨u, rfl⟩ := VD.strE b
 have hy' : ((S y).length == 0) = false := by rw [S_len]; cases y with | nil => exact absurd rfl hy | cons c r => simp
 have one : Txt.split (S x) (S y) = [S x] → l.map S = ([(S x, t)] : List (Str × Tok)).map (·.1) := fun e => hl.symm.trans e
 cases h1 : (decide ((S x).length < (S y).length) || decide (Builtin.Str.strKind (S x) < Builtin.Str.strKind (S y)))
 ·cases hf : (Builtin.Str.occurrences (S x) (S y) 0 (S x).length ((S x).length + 1)).isEmpty
  ·refine call_meets F.slot_str_split (typeIs_str _ _ _) F.entry_str_split (F.args_str_split_2 _ _) (meets_str_split_sep (S x) (S y) t u h1 hy' hf (by rw [S_len]; exact hx) hz) ?_
   rw [strsFrom_eq]
   refine hQ _ _ _ (stays_push _ _) (vd_new_list (hb.up st) (vds_of_values ?_))
   refine (numbered_texts _ _).trans ?_
   rw [← hl]
   exact ((if_neg (ne_true_of_eq_false h1)).trans (if_neg (ne_true_of_eq_false hf))).symm
  ·refine call_meets F.slot_str_split (typeIs_str _ _ _) F.entry_str_split (F.args_str_split_2 _ _) (meets_str_split_not_found (S x) (S y) t u h1 hy' hf) ?_
   refine hQ _ _ s.toks (stays_push _ _) (vd_new_list (vs := strValues [(S x, t)]) (hb.up st) (vds_of_values (one ?_).symm))
   exact (if_neg (ne_true_of_eq_false h1)).trans (if_pos hf)
 ·refine call_meets F.slot_str_split (typeIs_str _ _ _) F.entry_str_split (F.args_str_split_2 _ _) (meets_str_split_cannot_occur (S x) (S y) t u h1) ?_
  exact hQ _ _ s.toks (stays_push _ _) (vd_new_list (vs := strValues [(S x, t)]) (hb.up st) (vds_of_values (one (if_pos h1)).symm))
noncomputable def EVF (w : World) (n : Nat) (env : Env) (h : Heap) (e : Expr) (d : D) : Prop :=
 ∀ (A : Around) (E : Value → Shared → Prop) (s : Shared) (Q : Value → Shared → Prop), Ok n A → h.StaysIn s.heap →
  (∀ v h' tk, s.heap.StaysIn h' → VD h' v d → (∀ a, v = .ref a → s.heap.get? a = none) → Q v { s with heap := h', toks := tk }) → wpAny (model PW w) A (eval e env) Q E s
theorem EVF.ev {e : Expr} {d : D} (x : EVF w n env h e d) : EV w n env h e d := fun A E s Q ok st hQ => x A E s Q ok st fun v h' tk k hv _ => hQ v h' tk k hv
noncomputable def EI (w : World) (n : Nat) (env : Env) (h : Heap) (e : Expr) (ds : List D) (fr kn : Bool) : Prop :=
 ∀ (A : Around) (E : Value → Shared → Prop) (s : Shared) (Q : Value → Shared → Prop), Ok n A → h.StaysIn s.heap →
  (∀ (I : Addr) (h' : Heap) (tk : Nat) (fp : List Addr) (P : Nat → Value → Prop) (St : Nat → Heap → Prop), (∀ A' : Around, A'.handled = none → Walks PW w A' I fp [I] ds.length P St) → St 0 h' → (∀ c ∈ fp, c < h'.objs.size) → s.heap.get? I = none → NT I → s.heap.StaysIn h' →
   (∀ i v, i < ds.length → P i v → ∃ d, ds[i]? = some d ∧ VD h' v d) → (∀ c, c ∈ fp → c ≠ I → (fr = true → s.heap.get? c = none) ∧ NT c ∧ ∃ o its k, h'.get? c = some o ∧ o.data = .seq its k) → (kn = true → ∀ i h, St i h → ∃ o fs, h.get? I = some o ∧ o.data = .fields fs ∧ o.cls ≠ .type "range") → Q (.ref I) { s with heap := h', toks := tk }) →
  wpAny (model PW w) A (eval e env) (fun x s₁ => wpAny (model PW w) A (pyIter x) Q E s₁) E s
theorem not_old {h h' : Heap} (k : h.StaysIn h') {a : Addr} (e : h'.get? a = none) : h.get? a = none := by
 cases q : h.get? a with
 | none => rfl
 | some o => rw [k _ _ q] at e; cases e
theorem ei_list {e : Expr} {ds : List D} (hb : Big h) (he : EV w n env h e (.list ds)) : EI w n env h e ds false true := fun A E s Q ok st hQ => by
 refine he A E s _ ok st fun v h1 t1 k1 v1 => ?_
 obtain ⟨a, _, vs, rfl, hl, e, sl⟩ := VD.listE v1
 have hne : a ≠ h1.objs.size := Nat.ne_of_lt (Heap.lt_size e)
 refine wpAny_pyIter_list ⟨_, e, rfl, _, rfl⟩ ?_
 refine hQ h1.objs.size _ t1 [h1.objs.size, a] (fun i v => vs.toArray[i]? = some v) (fun i h => h.IsListIter h1.objs.size a i ∧ h.IsList a vs.toArray) (fun A' hh => ?_) ⟨⟨_, get_push _ _, rfl, rfl⟩, ⟨_, stays_push _ _ _ _ e, rfl, _, rfl⟩⟩ ?_ (not_old k1 (fresh_size _)) (hb.up (stays_trans st k1)).size (stays_trans k1 (stays_push _ _)) ?_ ?_ ?_
 ·have := Walks.list (prog := PW) (w := w) hh h1.objs.size a hne vs.toArray
  have e3 : vs.toArray.size = ds.length := by rw [List.size_toArray, sl.length]
  rw [e3] at this
  exact this
 ·intro c hc
  rw [Heap.size_push]
  rcases List.mem_cons.mp hc with rfl | hc
  ·exact Nat.lt_succ_self _
  ·rcases List.mem_cons.mp hc with rfl | hc
   ·exact Nat.lt_succ_of_lt (Heap.lt_size e)
   ·cases hc
 ·intro i v hi hv
  rw [List.getElem?_toArray] at hv
  obtain ⟨y, e1, e2⟩ := sl.get (i := i) (d := ds[i]) (List.getElem?_eq_getElem hi)
  rw [hv] at e1; cases e1
  exact ⟨_, List.getElem?_eq_getElem hi, e2.keep (stays_push _ _)⟩
 ·intro c hc hci
  rcases List.mem_cons.mp hc with rfl | hc
  ·exact absurd rfl hci
  ·rcases List.mem_cons.mp hc with rfl | hc
   ·exact ⟨fun q => (nomatch q), hl, _, _, _, stays_push _ _ _ _ e, rfl⟩
   ·cases hc
 ·intro _ i h hS
  obtain ⟨⟨o, g, c, d⟩, _⟩ := hS
  exact ⟨o, _, g, d, by rw [c]; decide⟩
theorem ei_listF {e : Expr} {ds : List D} (hb : Big h) (he : EVF w n env h e (.list ds)) : EI w n env h e ds true true := fun A E s Q ok st hQ => by
 refine he A E s _ ok st fun v h1 t1 k1 v1 nw => ?_
 obtain ⟨a, _, vs, rfl, hl, e, sl⟩ := VD.listE v1
 have hne : a ≠ h1.objs.size := Nat.ne_of_lt (Heap.lt_size e)
 refine wpAny_pyIter_list ⟨_, e, rfl, _, rfl⟩ ?_
 refine hQ h1.objs.size _ t1 [h1.objs.size, a] (fun i v => vs.toArray[i]? = some v) (fun i h => h.IsListIter h1.objs.size a i ∧ h.IsList a vs.toArray) (fun A' hh => ?_) ⟨⟨_, get_push _ _, rfl, rfl⟩, ⟨_, stays_push _ _ _ _ e, rfl, _, rfl⟩⟩ ?_ (not_old k1 (fresh_size _)) (hb.up (stays_trans st k1)).size (stays_trans k1 (stays_push _ _)) ?_ ?_ ?_
 ·have := Walks.list (prog := PW) (w := w) hh h1.objs.size a hne vs.toArray
  have e3 : vs.toArray.size = ds.length := by rw [List.size_toArray, sl.length]
  rw [e3] at this
  exact this
 ·intro c hc
  rw [Heap.size_push]
  rcases List.mem_cons.mp hc with rfl | hc
  ·exact Nat.lt_succ_self _
  ·rcases List.mem_cons.mp hc with rfl | hc
   ·exact Nat.lt_succ_of_lt (Heap.lt_size e)
   ·cases hc
 ·intro i v hi hv
  rw [List.getElem?_toArray] at hv
  obtain ⟨y, e1, e2⟩ := sl.get (i := i) (d := ds[i]) (List.getElem?_eq_getElem hi)
  rw [hv] at e1; cases e1
  exact ⟨_, List.getElem?_eq_getElem hi, e2.keep (stays_push _ _)⟩
 ·intro c hc hci
  rcases List.mem_cons.mp hc with rfl | hc
  ·exact absurd rfl hci
  ·rcases List.mem_cons.mp hc with rfl | hc
   ·exact ⟨fun _ => nw _ rfl, hl, _, _, _, stays_push _ _ _ _ e, rfl⟩
   ·cases hc
 ·intro _ i h hS
  obtain ⟨⟨o, g, c, d⟩, _⟩ := hS
  exact ⟨o, _, g, d, by rw [c]; decide⟩
theorem ei_tuple {e : Expr} {ds : List D} (hb : Big h) (he : EV w n env h e (.tuple ds)) : EI w n env h e ds false true := fun A E s Q ok st hQ => by
 refine he A E s _ ok st fun v h1 t1 k1 v1 => ?_
 obtain ⟨a, _, vs, rfl, hl, e, sl⟩ := VD.tupleE v1
 have hne : a ≠ h1.objs.size := Nat.ne_of_lt (Heap.lt_size e)
 refine wpAny_pyIter_tuple ⟨_, e, rfl, _, rfl⟩ ?_
 refine hQ h1.objs.size _ t1 [h1.objs.size, a] (fun i v => vs.toArray[i]? = some v) (fun i h => h.IsTupleIter h1.objs.size a i ∧ h.IsTuple a vs.toArray) (fun A' hh => ?_) ⟨⟨_, get_push _ _, rfl, rfl⟩, ⟨_, stays_push _ _ _ _ e, rfl, _, rfl⟩⟩ ?_ (not_old k1 (fresh_size _)) (hb.up (stays_trans st k1)).size (stays_trans k1 (stays_push _ _)) ?_ ?_ ?_
 ·have := Walks.tuple (prog := PW) (w := w) hh h1.objs.size a hne vs.toArray
  have e3 : vs.toArray.size = ds.length := by rw [List.size_toArray, sl.length]
  rw [e3] at this
  exact this
 ·intro c hc
  rw [Heap.size_push]
  rcases List.mem_cons.mp hc with rfl | hc
  ·exact Nat.lt_succ_self _
  ·rcases List.mem_cons.mp hc with rfl | hc
   ·exact Nat.lt_succ_of_lt (Heap.lt_size e)
   ·cases hc
 ·intro i v hi hv
  rw [List.getElem?_toArray] at hv
  obtain ⟨y, e1, e2⟩ := sl.get (i := i) (d := ds[i]) (List.getElem?_eq_getElem hi)
  rw [hv] at e1; cases e1
  exact ⟨_, List.getElem?_eq_getElem hi, e2.keep (stays_push _ _)⟩
 ·intro c hc hci
  rcases List.mem_cons.mp hc with rfl | hc
  ·exact absurd rfl hci
  ·rcases List.mem_cons.mp hc with rfl | hc
   ·exact ⟨fun q => (nomatch q), hl, _, _, _, stays_push _ _ _ _ e, rfl⟩
   ·cases hc
 ·intro _ i h hS
  obtain ⟨⟨o, g, c, d⟩, _⟩ := hS
  exact ⟨o, _, g, d, by rw [c]; decide⟩
theorem ei_tupleF {e : Expr} {ds : List D} (hb : Big h) (he : EVF w n env h e (.tuple ds)) : EI w n env h e ds true true := fun A E s Q ok st hQ => by
 refine he A E s _ ok st fun v h1 t1 k1 v1 nw => ?_
 obtain ⟨a, _, vs, rfl, hl, e, sl⟩ := VD.tupleE v1
 have hne : a ≠ h1.objs.size := Nat.ne_of_lt (Heap.lt_size e)
 refine wpAny_pyIter_tuple ⟨_, e, rfl, _, rfl⟩ ?_
 refine hQ h1.objs.size _ t1 [h1.objs.size, a] (fun i v => vs.toArray[i]? = some v) (fun i h => h.IsTupleIter h1.objs.size a i ∧ h.IsTuple a vs.toArray) (fun A' hh => ?_) ⟨⟨_, get_push _ _, rfl, rfl⟩, ⟨_, stays_push _ _ _ _ e, rfl, _, rfl⟩⟩ ?_ (not_old k1 (fresh_size _)) (hb.up (stays_trans st k1)).size (stays_trans k1 (stays_push _ _)) ?_ ?_ ?_
 ·have := Walks.tuple (prog := PW) (w := w) hh h1.objs.size a hne vs.toArray
  have e3 : vs.toArray.size = ds.length := by rw [List.size_toArray, sl.length]
  rw [e3] at this
  exact this
 ·intro c hc
  rw [Heap.size_push]
  rcases List.mem_cons.mp hc with rfl | hc
  ·exact Nat.lt_succ_self _
  ·rcases List.mem_cons.mp hc with rfl | hc
   ·exact Nat.lt_succ_of_lt (Heap.lt_size e)
   ·cases hc
 ·intro i v hi hv
  rw [List.getElem?_toArray] at hv
  obtain ⟨y, e1, e2⟩ := sl.get (i := i) (d := ds[i]) (List.getElem?_eq_getElem hi)
  rw [hv] at e1; cases e1
  exact ⟨_, List.getElem?_eq_getElem hi, e2.keep (stays_push _ _)⟩
 ·intro c hc hci
  rcases List.mem_cons.mp hc with rfl | hc
  ·exact absurd rfl hci
  ·rcases List.mem_cons.mp hc with rfl | hc
   ·exact ⟨fun _ => nw _ rfl, hl, _, _, _, stays_push _ _ _ _ e, rfl⟩
   ·cases hc
 ·intro _ i h hS
  obtain ⟨⟨o, g, c, d⟩, _⟩ := hS
  exact ⟨o, _, g, d, by rw [c]; decide⟩
noncomputable abbrev SG (x : List Nat) : List D := x.map fun c => .str (S [c])
theorem ei_str {e : Expr} {x : List Nat} (hb : Big h) (he : EV w n env h e (.str (S x))) : EI w n env h e (SG x) true false := fun A E s Q ok st hQ => by
 refine he A E s _ ok st fun v h1 t1 k1 v1 => ?_
 obtain ⟨t, rfl⟩ := VD.strE v1
 refine wpAny_pyIter_str fun o St hW hS => ?_
 refine hQ h1.objs.size _ t1 [h1.objs.size] (SignAt (S x)) St (fun A' hh => ?_) hS ?_ (not_old k1 (fresh_size _)) (hb.up (stays_trans st k1)).size (stays_trans k1 (stays_push _ _)) ?_ ?_ ?_
 ·have := hW A' hh
  rw [show (S x).cps.size = (SG x).length from by simp [S]] at this
  exact this
 ·intro c hc
  rcases List.mem_cons.mp hc with rfl | hc
  ·rw [Heap.size_push]; exact Nat.lt_succ_self _
  ·cases hc
 ·intro i v hi hv
  obtain ⟨c, u, e1, rfl⟩ := hv
  have e2 : x[i]? = some c := by simpa [S] using e1
  exact ⟨.str (S [c]), by rw [List.getElem?_map, e2]; rfl, .str _ _⟩
 ·intro c hc hci
  rcases List.mem_cons.mp hc with rfl | hc
  ·exact absurd rfl hci
  ·cases hc
 ·intro q; cases q
noncomputable abbrev RG (a c : Int) (k : Nat) : List D := (List.range k).map fun i : Nat => .int (a + i * c)
theorem ei_range {e : Expr} {a b c : Int} {k : Nat} (hb : Big h) (he : EV w n env h e (.range a b c)) (hs : Builtin.Range.small a b c = true) (hk : Builtin.Range.rangeSize a b c = k) : EI w n env h e (RG a c k) true true := fun A E s Q ok st hQ => by
 refine he A E s _ ok st fun v h1 t1 k1 v1 => ?_
 cases v1 with
 | range hl e =>
  refine wpAny_pyIter_range e hs ?_
  refine hQ h1.objs.size _ t1 [h1.objs.size] (fun i v => ∃ t, v = Value.int (a + i * c) t) (fun i h => IsRangeIter h h1.objs.size (a + i * c) (k - i) c) (fun A' hh => ?_) ?_ ?_ (not_old k1 (fresh_size _)) (hb.up (stays_trans st k1)).size (stays_trans k1 (stays_push _ _)) ?_ ?_ ?_
  ·have := Walks.range (prog := PW) (w := w) hh h1.objs.size a c k
   rw [show (RG a c k).length = k from by simp]
   exact this
  ·show IsRangeIter _ _ (a + ((0 : Nat) : Int) * c) _ _
   rw [show a + ((0 : Nat) : Int) * c = a from by simp, show (k : Int) - ((0 : Nat) : Int) = k from by simp, ← hk]
   exact get_push _ _
  ·intro x hx
   rcases List.mem_cons.mp hx with rfl | hx
   ·rw [Heap.size_push]; exact Nat.lt_succ_self _
   ·cases hx
  ·intro i v hi hv
   obtain ⟨t, rfl⟩ := hv
   have hi' : i < k := by simpa using hi
   exact ⟨.int (a + i * c), by rw [List.getElem?_map, List.getElem?_range hi']; rfl, .int _ _⟩
  ·intro x hx hci
   rcases List.mem_cons.mp hx with rfl | hx
   ·exact absurd rfl hci
   ·cases hx
  ·intro _ i h hS
   exact ⟨_, _, hS, rfl, (by decide : Value.type "range_iterator" ≠ Value.type "range")⟩
theorem cv_range1 {b : Int} (hb : Big h) : CV w n h (.type "range") [.int b] (.range 0 b 1) := fun A E s Q vs ok st hv hQ => by
 obtain ⟨_, _, rfl, a, r⟩ := VDs.consE hv; obtain rfl := VDs.nilE r; obtain ⟨_, rfl⟩ := VD.intE a; exact call_range_1 (hQ _ _ _ (stays_push _ _) (.range (hb.up st).size (get_push _ _)))
theorem cv_range2 {a b : Int} (hb : Big h) : CV w n h (.type "range") [.int a, .int b] (.range a b 1) := fun A E s Q vs ok st hv hQ => by
 obtain ⟨_, _, rfl, a, r⟩ := VDs.consE hv; obtain ⟨_, _, rfl, b, r⟩ := VDs.consE r; obtain rfl := VDs.nilE r; obtain ⟨_, rfl⟩ := VD.intE a; obtain ⟨_, rfl⟩ := VD.intE b; exact call_range_2 (hQ _ _ _ (stays_push _ _) (.range (hb.up st).size (get_push _ _)))
theorem cv_range3 {a b c : Int} (hb : Big h) (hc : c ≠ 0) (hp : Builtin.divisionGoesByPylong (b - a) c = false) : CV w n h (.type "range") [.int a, .int b, .int c] (.range a b c) := fun A E s Q vs ok st hv hQ => by
 obtain ⟨_, _, rfl, a, r⟩ := VDs.consE hv; obtain ⟨_, _, rfl, b, r⟩ := VDs.consE r; obtain ⟨_, _, rfl, c, r⟩ := VDs.consE r; obtain rfl := VDs.nilE r; obtain ⟨_, rfl⟩ := VD.intE a; obtain ⟨_, rfl⟩ := VD.intE b; obtain ⟨_, rfl⟩ := VD.intE c; exact call_range_3 hc (hQ _ _ _ (stays_push _ _) (.range (hb.up st).size (get_push _ _))) (.inl hp)
end
end Mine
-- MD8
namespace Mine
structure Imm {α : Type} (a : α → D) where
 R : Value → α → Prop
 to : ∀ h v x, VD h v (a x) → R v x
 of : ∀ h v x, R v x → VD h v (a x)
 uniq : ∀ v x y, R v x → R v y → x = y
noncomputable def immS : Imm (fun x : List Nat => D.str (S x)) where
 R := fun v x => ∃ t, v = .str (S x) t
 to := fun h v x hv => by obtain ⟨t, rfl⟩ := VD.strE hv; exact ⟨t, rfl⟩
 of := fun h v x hv => by obtain ⟨t, rfl⟩ := hv; exact .str _ _
 uniq := fun v x y h1 h2 => by
  obtain ⟨t, rfl⟩ := h1
  obtain ⟨u, e⟩ := h2
  injection e with e1
  exact S_inj e1
noncomputable def immI : Imm (fun i : Int => D.int i) where
 R := fun v x => ∃ t, v = .int x t
 to := fun h v x hv => by obtain ⟨t, rfl⟩ := VD.intE hv; exact ⟨t, rfl⟩
 of := fun h v x hv => by obtain ⟨t, rfl⟩ := hv; exact .int _ _
 uniq := fun v x y h1 h2 => by
  obtain ⟨t, rfl⟩ := h1
  obtain ⟨u, e⟩ := h2
  injection e with e1
section
variable {w : World} {n : Nat} {env : Env} {h b : Heap}
theorem vds_paired {α β : Type} {a : α → D} {c : β → D} (ia : Imm a) (ic : Imm c) {g : α → β} {h : Heap} : ∀ {vs ys : List Value} {l : List α}, Paired (fun v y => ∀ x, ia.R v x → x ∈ l → ic.R y (g x)) vs ys → ∀ {l' : List α}, (∀ x ∈ l', x ∈ l) → vs.length = l'.length → (∀ (j : Nat) v, vs[j]? = some v → ∃ x, l'[j]? = some x ∧ ia.R v x) → VDs h ys (l'.map fun x => c (g x))
 | _, _, _, .nil, [], _, _, _ => .nil
 | _, _, _, .nil, _ :: _, _, hl, _ => by cases hl
 | _, _, _, .cons _ _, [], _, hl, _ => by cases hl
 | _, _, l, .cons (a := v) hF r, x :: l', hm, hl, hP => by
  refine .cons (ic.of _ _ _ ?_) (vds_paired ia ic r (fun x hx => hm x (.tail _ hx)) (by simpa using hl) fun j v hv => by
   have := hP (j + 1) v (by simpa using hv)
   simpa using this)
  obtain ⟨x', e, hr⟩ := hP 0 v rfl
  have e' : x = x' := by simpa using e
  subst e'
  exact hF x hr (hm x (.head _))
theorem ev_comp {α β : Type} {a : α → D} {c : β → D} (ia : Imm a) (ic : Imm c) {g : α → β} {l : List α} {elt iter : Expr} {x : Str} {px pos : Pos} {scope : Scope} {cl : List (Str × Addr)} (hb : Big h)
  {fl kn : Bool} (hi : EI w n env h iter (l.map a) fl kn) (hz : l.length ≤ sizeLine)
  (hclos : closureFor scope env = pure cl)
  (he : ∀ y ∈ l, ∀ C h' m v, h.StaysIn h' → h'.Ns C m → m x = some v → VD h' v (a y) → EV w n (compEnvC scope cl C env) h' elt (c (g y)))
  (hcell : ∀ y ∈ scope.names, y.2 ≠ .cell := by decide) (hkind : scope.kind = .function := by rfl)
  (hnames : ∀ y ∈ scope.names, y.2 = .local → scope.names.lookup y.1 = some .local := by decide) (hx : scope.names.lookup x = some .local := by rfl)
  (hs : ∀ x, foldedSetIterable iter env x = pure x := by intro _; rfl) :
  EVF w n env h (.ListComp elt [⟨.Name x px, iter, [], 0⟩] scope pos) (.list (l.map fun y => c (g y))) := fun A E s Q ok st hQ => by
 refine wpAny_ListComp_free (fun _ => true) (fun v y => ∀ x, ia.R v x → x ∈ l → ic.R y (g x)) hclos hcell hkind hnames hx (hi A E s _ ok st fun I h' tk fp P St W hS hfp hI hI2 k hP hfp2 _ => ?_) hs
 refine ⟨I, fp, [I], (l.map a).length, (fun i v => i < (l.map a).length ∧ P i v), St, rfl, ?_, by rw [List.length_map]; exact hz, hS, hfp, ⟨?_, ?_⟩, ?_⟩
 ·have W0 := W A ok.hd
  exact ⟨W0.sub, W0.frame, fun i s Q E hi st hQ => W0.item i s Q E hi st fun v h' tk hp => hQ v h' tk ⟨hi, hp⟩, W0.done, W0.self⟩
 ·intro C i v s3 m3 E' hC hPv hn hm hk htk
  exact wpAny_pure ⟨rfl, _, _, rfl, fun _ _ e => e⟩
 ·intro C i v s3 m3 E' hC hPv hp hn hm hk htk
  obtain ⟨hi, hPv⟩ := hPv
  obtain ⟨d, e1, e2⟩ := hP i v hi hPv
  rw [List.getElem?_map] at e1
  obtain ⟨y, e3, rfl⟩ := Option.map_eq_some_iff.mp e1
  have hy : y ∈ l := List.mem_of_getElem? e3
  have k3 : h.StaysIn s3.heap := fun c o e => hk c o (fun q => by
   rw [List.mem_singleton.mp q] at e
   rw [st _ _ e] at hI; cases hI) (k _ _ (st _ _ e))
  refine he y hy C s3.heap m3 v k3 hn hm (ia.of _ _ _ (ia.to _ _ _ e2)) A E' s3 _ ok (stays_refl _) fun r h4 t4 k4 v4 => ⟨fun x hx hxl => ?_, ?_⟩
  ·rw [← ia.uniq _ _ _ (ia.to _ _ _ e2) hx]
   exact ic.to _ _ _ v4
  ·exact ⟨h4, t4, rfl, k4⟩
 ·intro Dd h2 t2 ys vs hD hl hpl hlen hPv hF hk
  have k3 : s.heap.StaysIn h2 := fun c o e => hk c o (fun q => by
   rw [List.mem_singleton.mp q] at e
   rw [e] at hI; cases hI) (k _ _ e)
  refine hQ _ _ _ k3 ?_ (fun a q => (by cases q; exact not_old k hD))
  obtain ⟨kk, e⟩ := hpl
  have hDl : NT Dd := (hb.up (stays_trans st k)).nt hD
  obtain ⟨ysl⟩ := ys
  refine .list hDl e (vds_paired ia ic (vs := vs) (l := l) ?_ (fun _ hx => hx) ?_ ?_)
  ·have e0 : vs.filter (fun _ => true) = vs := List.filter_eq_self.mpr fun _ _ => rfl
   rw [e0] at hF
   exact hF
  ·simpa using hlen
  ·intro j v hv
   obtain ⟨hi, hp⟩ := hPv j v hv
   obtain ⟨d, e1, e2⟩ := hP j v hi hp
   rw [List.getElem?_map] at e1
   obtain ⟨y, e3, rfl⟩ := Option.map_eq_some_iff.mp e1
   exact ⟨y, e3, ia.to _ _ _ e2⟩
theorem preSum_eq (l : List Int) : ∀ k, k ≤ l.length → preSum (fun i => l.getD i 0) k = (l.take k).sum := by
 intro k
 induction k with
 | zero => intro _; rfl
 | succ k ih =>
  intro hk
  have e : preSum (fun i => l.getD i 0) (k + 1) = preSum (fun i => l.getD i 0) k + l.getD k 0 := rfl
  rw [e, ih (by omega), List.take_add_one, List.sum_append]
  have : l[k]? = some (l.getD k 0) := by
   rw [List.getD_eq_getElem?_getD, List.getElem?_eq_getElem (by omega)]; rfl
  rw [this]; simp
theorem cv_sum {l : List Int} (hb : Big h) (hl : ∀ x ∈ l, InLong x) (hs : ∀ k, k ≤ l.length → InLong (l.take k).sum) : CV w (n + 1) h (.builtin "sum") [.list (l.map .int)] (.int l.sum) := fun A E s Q vs ok st hv hQ => by
 obtain ⟨_, _, rfl, a, r⟩ := VDs.consE hv
 obtain rfl := VDs.nilE r
 have a9 := VD.listE a
 clear a
 obtain ⟨a, _, vs, rfl, hl', e, sl⟩ := a9
 have hne : a ≠ s.heap.objs.size := Nat.ne_of_lt (Heap.lt_size e)
 have e3 : vs.length = l.length := by rw [sl.length, List.length_map]
 refine call_sum_walk (wpAny_pyIter_list ⟨_, e, rfl, _, rfl⟩ ?_)
 refine ⟨s.heap.objs.size, [s.heap.objs.size, a], [s.heap.objs.size], _, _, _, fun i => l.getD i 0, rfl, Walks.list (A := A.in1) ok.hd s.heap.objs.size a hne vs.toArray, ⟨⟨_, get_push _ _, rfl, rfl⟩, ⟨_, stays_push _ _ _ _ e, rfl, _, rfl⟩⟩, ?_, ?_, ?_, ?_⟩
 ·intro c hc
  show c < (s.heap.push _).objs.size
  rw [Heap.size_push]
  rcases List.mem_cons.mp hc with rfl | hc
  ·exact Nat.lt_succ_self _
  ·rcases List.mem_cons.mp hc with rfl | hc
   ·exact Nat.lt_succ_of_lt (Heap.lt_size e)
   ·cases hc
 ·intro i v hv
  rw [List.getElem?_toArray] at hv
  have hi : i < l.length := by rw [← e3]; exact (List.getElem?_eq_some_iff.mp hv).1
  obtain ⟨y, e1, e2⟩ := sl.get (i := i) (d := .int l[i]) (by rw [List.getElem?_map, List.getElem?_eq_getElem hi]; rfl)
  rw [hv] at e1; cases e1
  obtain ⟨t, rfl⟩ := VD.intE e2
  refine ⟨t, ?_⟩
  dsimp only
  rw [List.getD_eq_getElem?_getD, List.getElem?_eq_getElem hi]; rfl
 ·intro j hj
  rw [List.size_toArray, e3] at hj
  refine ⟨?_, ?_⟩
  ·dsimp only
   rw [List.getD_eq_getElem?_getD, List.getElem?_eq_getElem hj]
   exact hl _ (List.getElem_mem hj)
  ·rw [preSum_eq l (j + 1) hj]; exact hs _ hj
 ·intro h' tk t' k
  rw [List.size_toArray, e3, preSum_eq l _ (Nat.le_refl _), List.take_length]
  refine hQ _ _ _ (fun c o ec => k c o (fun q => ?_) (stays_push _ _ _ _ ec)) (.int _ _)
  rw [List.mem_singleton.mp q, fresh_size] at ec
  cases ec
end
end Mine
-- MD9
namespace Mine
mutual
inductive Low : D → Prop where
 | none : Low .none
 | bool (b : Bool) : Low (.bool b)
 | int (i : Int) : Low (.int i)
 | str (x : Str) : Low (.str x)
 | range (a b c : Int) : Low (.range a b c)
 | tuple {l : List D} : Lows l → Low (.tuple l)
inductive Lows : List D → Prop where
 | nil : Lows []
 | cons {d : D} {l : List D} : Low d → Lows l → Lows (d :: l)
end
theorem Lows.append : ∀ {l m : List D}, Lows l → Lows m → Lows (l ++ m)
 | _, _, .nil, y => y
 | _, _, .cons a r, y => .cons a (Lows.append r y)
theorem Lows.drop : ∀ {l : List D} (k : Nat), Lows l → Lows (l.drop k)
 | _, 0, x => x
 | _, _ + 1, .nil => .nil
 | _, k + 1, .cons _ r => Lows.drop k r
theorem Lows.take : ∀ {l : List D} (k : Nat), Lows l → Lows (l.take k)
 | _, 0, x => by simpa using Lows.nil
 | _, _ + 1, .nil => .nil
 | _, k + 1, .cons a r => .cons a (Lows.take k r)
theorem lows_map {α : Type} {f : α → D} (hf : ∀ x, Low (f x)) : ∀ l : List α, Lows (l.map f)
 | [] => .nil
 | x :: l => .cons (hf x) (lows_map hf l)
noncomputable def Flat (d : D) : Prop := Low d ∨ ∃ l, d = .list l ∧ Lows l
noncomputable def OkD (d : D) : Prop := Flat d ∨ ∃ v, d = .con v
noncomputable def ButL (a : Addr) (h h' : Heap) : Prop := (∀ c o, c ≠ a → h.get? c = some o → h'.get? c = some o) ∧ ∃ vs n, h.get? a = some ⟨.type "list", none, .seq vs n, #[]⟩
theorem VD.butL {a : Addr} {h h' : Heap} (k : ButL a h h') {v : Value} {d : D} (x : VD h v d) : Low d → VD h' v d :=
 VD.rec (motive_1 := fun v d _ => Low d → VD h' v d) (motive_2 := fun vs ds _ => Lows ds → VDs h' vs ds) (fun _ => .none) (fun b _ => .bool b) (fun i t _ => .int i t) (fun x t _ => .str x t) (fun _ lw => nomatch lw)
  (fun l e _ => .range l (k.1 _ _ (fun q => by obtain ⟨vs, n, e2⟩ := k.2; rw [q, e2] at e; simp at e) e)) (fun _ _ _ _ lw => nomatch lw)
  (fun l e _ r lw => .tuple l (k.1 _ _ (fun q => by obtain ⟨vs, n, e2⟩ := k.2; rw [q, e2] at e; simp at e) e) (r (by cases lw; assumption))) (fun _ => .nil)
  (fun _ _ ia ir lw => by cases lw with | cons y s => exact .cons (ia y) (ir s)) x
theorem VDs.butL {a : Addr} {h h' : Heap} (k : ButL a h h') {vs : List Value} {ds : List D} (x : VDs h vs ds) : Lows ds → VDs h' vs ds :=
 VDs.rec (motive_1 := fun v d _ => Low d → VD h' v d) (motive_2 := fun vs ds _ => Lows ds → VDs h' vs ds) (fun _ => .none) (fun b _ => .bool b) (fun i t _ => .int i t) (fun x t _ => .str x t) (fun _ lw => nomatch lw)
  (fun l e _ => .range l (k.1 _ _ (fun q => by obtain ⟨vs, n, e2⟩ := k.2; rw [q, e2] at e; simp at e) e)) (fun _ _ _ _ lw => nomatch lw)
  (fun l e _ r lw => .tuple l (k.1 _ _ (fun q => by obtain ⟨vs, n, e2⟩ := k.2; rw [q, e2] at e; simp at e) e) (r (by cases lw; assumption))) (fun _ => .nil)
  (fun _ _ ia ir lw => by cases lw with | cons y s => exact .cons (ia y) (ir s)) x
noncomputable def At (h : Heap) (env : Env) (x : Str) (v : Value) : Prop :=
 (env.kindOf x = some .local ∧ ∃ m, h.Ns env.locals m ∧ m x = some v) ∨ (env.kindOf x = some .cell ∧ ∃ c, env.cells.lookup x = some c ∧ h.IsCell c (some v))
theorem At.uniq {h : Heap} {env : Env} {x : Str} {v v' : Value} (a : At h env x v) (b : At h env x v') : v = v' := by
 rcases a with ⟨k, m, n, e⟩ | ⟨k, c, l, o, g, d⟩ <;> rcases b with ⟨k', m', n', e'⟩ | ⟨k', c', l', o', g', d'⟩
 ·have := n.agree n' x
  rw [e, e'] at this
  exact Option.some.inj this
 ·rw [k] at k'; cases k'
 ·rw [k] at k'; cases k'
 ·rw [l] at l'; cases l'
  rw [g] at g'; cases g'
  rw [d] at d'
  injection d' with e
  injection e
theorem At.keep {h h' : Heap} {env : Env} {x : Str} {v : Value} (a : At h env x v) (k : h.StaysIn h') : At h' env x v := by
 rcases a with ⟨q, m, n, e⟩ | ⟨q, c, l, o, g, d⟩
 ·exact .inl ⟨q, m, n.keeps k, e⟩
 ·exact .inr ⟨q, c, l, o, k _ _ g, d⟩
structure LV (h₀ : Heap) (F : Addr → Prop) (env : Env) (σ : List (Str × D)) (O : List Str) (h : Heap) : Prop where
 st : ∀ c o, F c → h₀.get? c = some o → h.get? c = some o
 fd : ∀ c, F c → ∃ o, h₀.get? c = some o
 big : Big h
 ns : ∃ m, h.Ns env.locals m
 fr : ¬ F env.locals
 cl : ∀ x c, env.kindOf x = some .cell → env.cells.lookup x = some c → ¬ F c ∧ ∃ v, h.IsCell c v
 inj : ∀ x y c, env.kindOf x = some .cell → env.kindOf y = some .cell → env.cells.lookup x = some c → env.cells.lookup y = some c → x = y
 rd : ∀ x d, σ.lookup x = some d → ∃ v, At h env x v ∧ VD h v d
 fl : ∀ x d, σ.lookup x = some d → OkD d
 af : ∀ x y a l m, x ≠ y → σ.lookup x = some (.list l) → σ.lookup y = some (.list m) → At h env x (.ref a) → At h env y (.ref a) → False
 ow : ∀ x a l, x ∈ O → σ.lookup x = some (.list l) → At h env x (.ref a) → ¬ F a
section
variable {h₀ h h' : Heap} {F : Addr → Prop} {env : Env} {σ : List (Str × D)} {O : List Str}
theorem LV.back (x : LV h₀ F env σ O h) (k : h.StaysIn h') {y : Str} {v : Value} (a : At h' env y v) : At h env y v := by
 rcases a with ⟨q, m, n, e⟩ | ⟨q, c, l, o, g, d⟩
 ·obtain ⟨m', n'⟩ := x.ns
  exact .inl ⟨q, m', n', ((n'.keeps k).agree n y).trans e⟩
 ·obtain ⟨_, v', o', g', d'⟩ := x.cl y c q l
  have := k _ _ g'
  rw [g] at this; cases this
  rw [d] at d'
  exact .inr ⟨q, c, l, o, g', d⟩
theorem list_of_vd {v : Value} {a : Addr} {d : D} {vs : Array Value} {n : Nat} (hv : VD h (.ref a) d) (hf : Flat d) (g : h.get? a = some ⟨.type "list", none, .seq vs n, #[]⟩) : ∃ l, d = .list l ∧ Lows l := by
 rcases hf with hf | hf
 ·cases hf with
  | tuple _ => obtain ⟨_, _, l, e, _⟩ := VD.tupleR hv; rw [g] at e; simp at e
  | range a b c => cases hv with | range l e => rw [g] at e; simp at e
  | _ => cases hv
 ·exact hf
theorem LV.keep (x : LV h₀ F env σ O h) (k : h.StaysIn h') : LV h₀ F env σ O h' where
 st := fun c o f e => k _ _ (x.st c o f e)
 fd := x.fd
 big := x.big.up k
 ns := let ⟨m, n⟩ := x.ns; ⟨m, n.keeps k⟩
 fr := x.fr
 cl := fun y c q' q => let ⟨a, v, o, g, d⟩ := x.cl y c q' q; ⟨a, v, o, k _ _ g, d⟩
 inj := x.inj
 rd := fun y d q => let ⟨v, a, b⟩ := x.rd y d q; ⟨v, a.keep k, b.keep k⟩
 fl := x.fl
 af := fun y z a l m ne hy hz ay az => x.af y z a l m ne hy hz (x.back k ay) (x.back k az)
 ow := fun y a l hy hl ay => x.ow y a l hy hl (x.back k ay)
noncomputable def Turn (env : Env) (y : Str) (v : Value) (c : Addr) (h h' : Heap) : Prop :=
 (env.kindOf y = some .local ∧ c = env.locals ∧ ∃ m, h.Ns env.locals m ∧ h'.Ns env.locals fun z => if z = y then some v else m z) ∨ (env.kindOf y = some .cell ∧ env.cells.lookup y = some c ∧ h'.IsCell c (some v))
theorem LV.plain (x : LV h₀ F env σ O h) {y : Str} {v : Value} {c : Addr} (hc : Turn env y v c h h') : ¬ F c ∧ ∃ o, h.get? c = some o ∧ ((∃ es ep, o.data = .dict es ep) ∨ ∃ w, o.data = .cell w) := by
 rcases hc with ⟨_, rfl, m, ⟨o, es, ep, e, d, _⟩, _⟩ | ⟨kk, l, _⟩
 ·exact ⟨x.fr, o, e, .inl ⟨es, ep, d⟩⟩
 ·obtain ⟨e, w, o, g, d⟩ := x.cl y c kk l
  exact ⟨e, o, g, .inr ⟨w, d⟩⟩
theorem LV.at_on (x : LV h₀ F env σ O h) {y : Str} {v : Value} {c : Addr} (hs : Heap.SameBut c h h') (hc : Turn env y v c h h') {z : Str} (hz : z ≠ y) {u : Value} (a : At h env z u) : At h' env z u := by
 have keepO : ∀ a o, a ≠ c → h.get? a = some o → h'.get? a = some o := fun a o ne e => (hs.2 a ne).trans e
 rcases a with ⟨q, m, n, e⟩ | ⟨q, k, l, o, g, d⟩
 ·rcases hc with ⟨_, rfl, m', n1, n2⟩ | ⟨kk, l, _⟩
  ·refine .inl ⟨q, _, n2, ?_⟩
   rw [if_neg hz, ← n.agree n1 z]; exact e
  ·refine .inl ⟨q, m, n.sameBut hs fun q => ?_, e⟩
   obtain ⟨_, w, o, g, d⟩ := x.cl y c kk l
   obtain ⟨o', es, ep, e', d', _⟩ := n
   rw [q, g] at e'; cases e'
   rw [d] at d'; cases d'
 ·refine .inr ⟨q, k, l, o, keepO _ _ (fun e => ?_) g, d⟩
  subst e
  rcases hc with ⟨_, rfl, m', ⟨o', es, ep, e', d', _⟩, _⟩ | ⟨kk, l', _⟩
  ·rw [g] at e'; cases e'
   rw [d] at d'; cases d'
  ·exact hz (x.inj z y _ q kk l l')
theorem LV.at_off (x : LV h₀ F env σ O h) {y : Str} {v : Value} {c : Addr} (hs : Heap.SameBut c h h') (hc : Turn env y v c h h') {z : Str} (hz : z ≠ y) {u : Value} (a : At h' env z u) : At h env z u := by
 rcases a with ⟨q, m, n, e⟩ | ⟨q, k, l, o, g, d⟩
 ·rcases hc with ⟨_, rfl, m', n1, n2⟩ | ⟨kk, l, _⟩
  ·refine .inl ⟨q, m', n1, ?_⟩
   have := n.agree n2 z
   rw [if_neg hz, e] at this
   exact this.symm
  ·obtain ⟨m', n1⟩ := x.ns
   refine .inl ⟨q, m', n1, ?_⟩
   have hne : env.locals ≠ c := fun q => by
    obtain ⟨_, w, o, g, d⟩ := x.cl y c kk l
    obtain ⟨o', es, ep, e', d', _⟩ := n1
    rw [q, g] at e'; cases e'
    rw [d] at d'; cases d'
   rw [(n1.sameBut hs hne).agree n z]; exact e
 ·obtain ⟨_, w, o', g', d'⟩ := x.cl z k q l
  have hne : k ≠ c := fun e => by
   subst e
   rcases hc with ⟨_, rfl, m', ⟨o'', es, ep, e', d'', _⟩, _⟩ | ⟨kk, l', _⟩
   ·rw [g'] at e'; cases e'
    rw [d'] at d''; cases d''
   ·exact hz (x.inj z y _ q kk l l')
  have := (hs.2 k hne).symm.trans g
  rw [g'] at this; cases this
  exact .inr ⟨q, k, l, _, g', d⟩
theorem LV.at_new (x : LV h₀ F env σ O h) {y : Str} {v : Value} {c : Addr} (hc : Turn env y v c h h') : At h' env y v := by
 rcases hc with ⟨q, rfl, m, _, n⟩ | ⟨q, l, k⟩
 ·exact .inl ⟨q, _, n, if_pos rfl⟩
 ·exact .inr ⟨q, c, l, k⟩
theorem LV.seqLe (x : LV h₀ F env σ O h) {y : Str} {v : Value} {c : Addr} (hs : Heap.SameBut c h h') (hc : Turn env y v c h h') : SeqLe h h' := fun a o _ e d => by
 refine (hs.2 a fun q => ?_).trans e
 subst q
 obtain ⟨_, o', g, k⟩ := x.plain hc
 rw [e] at g; cases g
 rcases k with ⟨es, ep, k⟩ | ⟨w, k⟩ <;> rcases d with ⟨_, _, d⟩ | ⟨_, d⟩ <;> rw [k] at d <;> cases d
theorem LV.stored (x : LV h₀ F env σ O h) {y : Str} {v : Value} {d : D} {c : Addr} (hs : Heap.SameBut c h h') (hc : Turn env y v c h h')
  (hv : VD h v d) (hf : OkD d) (hfresh : ∀ a l, v = .ref a → d = .list l → ∀ z m, z ≠ y → σ.lookup z = some (.list m) → At h env z (.ref a) → False)
  {O' : List Str} (hO : ∀ z ∈ O', (z ∈ O ∧ z ≠ y) ∨ (z = y ∧ ∀ a l, v = .ref a → d = .list l → ¬ F a)) : LV h₀ F env ((y, d) :: σ) O' h' := by
 obtain ⟨c0, oc, gc, kc⟩ := x.plain hc
 have keepO : ∀ a o, a ≠ c → h.get? a = some o → h'.get? a = some o := fun a o ne e => (hs.2 a ne).trans e
 have isl : ∀ a vs n, h'.get? a = some ⟨.type "list", none, .seq vs n, #[]⟩ → a ≠ c → h.get? a = some ⟨.type "list", none, .seq vs n, #[]⟩ := fun a vs n e ne => (hs.2 a ne).symm.trans e
 have lk : ∀ z, z ≠ y → ((y, d) :: σ).lookup z = σ.lookup z := fun z hz => by rw [List.lookup_cons, beq_eq_false_iff_ne.mpr hz]
 have lky : ((y, d) :: σ).lookup y = some d := by rw [List.lookup_cons, beq_self_eq_true]
 have hnc : ∀ a vs n, h'.get? a = some ⟨.type "list", none, .seq vs n, #[]⟩ → a ≠ c := fun a vs n e q => by
  subst q
  rcases hc with ⟨_, rfl, m, _, ⟨o', es, ep, e', d', _⟩⟩ | ⟨_, _, o', e', d'⟩
  ·rw [e] at e'; cases e'; cases d'
  ·rw [e] at e'; cases e'; cases d'
 refine ⟨fun a o f e => keepO a o (fun q => c0 (q ▸ f)) (x.st a o f e), x.fd, ?_, ?_, x.fr, ?_, x.inj, ?_, ?_, ?_, ?_⟩
 ·refine x.big.but keepO fun o vs e d => ?_
  rw [gc] at e; cases e
  rcases kc with ⟨es, ep, k⟩ | ⟨w, k⟩ <;> rw [k] at d <;> cases d
 ·rcases hc with ⟨_, rfl, m, _, n⟩ | ⟨kk, l, _⟩
  ·exact ⟨_, n⟩
  ·obtain ⟨m, n⟩ := x.ns
   refine ⟨m, n.sameBut hs fun q => ?_⟩
   obtain ⟨_, w, o, g, d⟩ := x.cl y c kk l
   obtain ⟨o', es, ep, e', d', _⟩ := n
   rw [q, g] at e'; cases e'
   rw [d] at d'; cases d'
 ·intro z k kk l
  obtain ⟨e, w, o, g, d⟩ := x.cl z k kk l
  refine ⟨e, ?_⟩
  by_cases q : k = c
  ·subst q
   rcases hc with ⟨_, rfl, m, ⟨o', es, ep, e', d', _⟩, _⟩ | ⟨_, l', n⟩
   ·rw [g] at e'; cases e'; rw [d] at d'; cases d'
   ·exact ⟨_, n⟩
  ·exact ⟨w, o, keepO _ _ q g, d⟩
 ·intro z e hz
  by_cases q : z = y
  ·subst q
   rw [lky] at hz; cases hz
   exact ⟨v, x.at_new hc, hv.mono (x.seqLe hs hc)⟩
  ·rw [lk z q] at hz
   obtain ⟨u, a, b⟩ := x.rd z e hz
   exact ⟨u, x.at_on hs hc q a, b.mono (x.seqLe hs hc)⟩
 ·intro z e hz
  by_cases q : z = y
  ·subst q
   rw [lky] at hz; cases hz
   exact hf
  ·rw [lk z q] at hz
   exact x.fl z e hz
 ·intro z u a l m ne hz hu az au
  by_cases q : z = y
  ·subst q
   have := (x.at_new hc).uniq az
   subst this
   have hu' := ne.symm
   rw [lk u hu'] at hu
   rw [lky] at hz
   exact hfresh a l rfl (Option.some.inj hz) u m hu' hu (x.at_off hs hc hu' au)
  ·by_cases r : u = y
   ·subst r
    have := (x.at_new hc).uniq au
    subst this
    rw [lk z q] at hz
    rw [lky] at hu
    exact hfresh a m rfl (Option.some.inj hu) z l q hz (x.at_off hs hc q az)
   ·rw [lk z q] at hz
    rw [lk u r] at hu
    exact x.af z u a l m ne hz hu (x.at_off hs hc q az) (x.at_off hs hc r au)
 ·intro z a l hz hl az
  by_cases q : z = y
  ·subst q
   rw [lky] at hl; cases hl
   rcases hO z hz with ⟨_, h2⟩ | ⟨_, h1⟩
   ·exact absurd rfl h2
   ·exact h1 a l ((x.at_new hc).uniq az) rfl
  ·rw [lk z q] at hl
   rcases hO z hz with ⟨h1, h2⟩ | ⟨h1, _⟩
   ·exact x.ow z a l h1 hl (x.at_off hs hc h2 az)
   ·exact absurd h1 q
end
end Mine
-- MD10
namespace Mine
section
variable {h₀ h h' : Heap} {F : Addr → Prop} {env : Env} {σ : List (Str × D)} {O : List Str}
theorem LV.dom (x : LV h₀ F env σ O h) {c : Addr} (f : F c) : ∃ o, h.get? c = some o := let ⟨o, e⟩ := x.fd c f; ⟨o, x.st c o f e⟩
theorem LV.weaken (x : LV h₀ F env σ O h) {σ' : List (Str × D)} {O' : List Str} (hs : ∀ y d, σ'.lookup y = some d → σ.lookup y = some d) (hO : ∀ y l, y ∈ O' → σ'.lookup y = some (.list l) → y ∈ O) : LV h₀ F env σ' O' h where
 st := x.st
 fd := x.fd
 big := x.big
 ns := x.ns
 fr := x.fr
 cl := x.cl
 inj := x.inj
 rd := fun y d e => x.rd y d (hs y d e)
 fl := fun y d e => x.fl y d (hs y d e)
 af := fun y z a l m ne hy hz => x.af y z a l m ne (hs y _ hy) (hs z _ hz)
 ow := fun y a l hy hl => x.ow y a l (hO y l hy hl) (hs y _ hl)
end
namespace KLVadv
noncomputable def Claim0 (h₀ : Heap) (h : Heap) (h' : Heap) (F : Addr → Prop) (env : Env) (σ : List (Str × D)) (O : List Str) (I : Addr) : Prop :=
 ∀ (x : LV h₀ F env σ O h) (k : ∀ c o, c ≠ I → h.get? c = some o → h'.get? c = some o) (hI : ∃ o fs, h.get? I = some o ∧ o.data = .fields fs ∧ o.cls ≠ .type "range") (hF : ¬ F I) (hi : I ≠ 140 ∧ I ≠ 144 ∧ I ≠ 147 ∧ I ≠ 151), LV h₀ F env σ O h'
noncomputable abbrev Ty0 := (Heap) × (Heap) × (Heap) × (Addr → Prop) × (Env) × (List (Str × D)) × (List Str) × (Addr)
noncomputable def C0 (p : Ty0) : Prop := Claim0 p.1 p.2.1 p.2.2.1 p.2.2.2.1 p.2.2.2.2.1 p.2.2.2.2.2.1 p.2.2.2.2.2.2.1 p.2.2.2.2.2.2.2
noncomputable def eps0 : Ty0 := @Classical.epsilon Ty0 ⟨((default : Heap), (default : Heap), (default : Heap), (fun _ => True), (default : Env), (default : List (Str × D)), (default : List Str), (default : Addr))⟩ (fun p => ¬ C0 p)
noncomputable def h₀ := eps0.1
noncomputable def h := eps0.2.1
noncomputable def h' := eps0.2.2.1
noncomputable def F := eps0.2.2.2.1
noncomputable def env := eps0.2.2.2.2.1
noncomputable def σ := eps0.2.2.2.2.2.1
noncomputable def O := eps0.2.2.2.2.2.2.1
noncomputable def I := eps0.2.2.2.2.2.2.2
theorem main0 : Claim0 h₀ h h' F env σ O I := by
 intro x k hI hF hi
 obtain ⟨oI, fs, eI, dI, cI⟩ := hI
 have kn : ∀ {a m}, h.Ns a m → h'.Ns a m := fun {a m} n => by
  obtain ⟨o, es, ep, e, d, r⟩ := n
  exact ⟨o, es, ep, k _ _ (fun q => by rw [q, eI] at e; cases e; rw [dI] at d; cases d) e, d, r⟩
 have kc : ∀ {a v}, h.IsCell a v → h'.IsCell a v := fun {a v} n => by
  obtain ⟨o, e, d⟩ := n
  exact ⟨o, k _ _ (fun q => by rw [q, eI] at e; cases e; rw [dI] at d; cases d) e, d⟩
 have on : ∀ {y v}, At h env y v → At h' env y v := fun {y v} a => by
  rcases a with ⟨q, m, n, e⟩ | ⟨q, c, l, g⟩
  ·exact .inl ⟨q, m, kn n, e⟩
  ·exact .inr ⟨q, c, l, kc g⟩
 have off : ∀ {y v}, At h' env y v → At h env y v := fun {y v} a => by
  rcases a with ⟨q, m, n, e⟩ | ⟨q, c, l, g⟩
  ·obtain ⟨m', n'⟩ := x.ns
   exact .inl ⟨q, m', n', ((kn n').agree n y).trans e⟩
  ·obtain ⟨_, w, g'⟩ := x.cl y c q l
   obtain ⟨o1, e1, d1⟩ := kc g'
   obtain ⟨o2, e2, d2⟩ := g
   rw [e1] at e2; cases e2
   rw [d1] at d2; cases d2
   exact .inr ⟨q, c, l, g'⟩
 have kv : ∀ {v d}, VD h v d → VD h' v d := fun {v d} => by
  refine fun q => VD.rec (motive_1 := fun v d _ => VD h' v d) (motive_2 := fun vs ds _ => VDs h' vs ds) .none (fun b => .bool b) (fun i t => .int i t) (fun i t => .str i t) (fun v => .con v) ?_ ?_ ?_ .nil (fun _ _ a b => .cons a b) q
  ·intro r a b c t u v l e
   refine .range l (k _ _ (fun q => ?_) e)
   subst q
   rw [eI] at e; cases e; exact cI rfl
  ·intro a n vs l hl e _ hs
   refine .list hl (k _ _ (fun q => ?_) e) hs
   subst q
   rw [eI] at e; cases e; cases dI
  ·intro a n vs l hl e _ hs
   refine .tuple hl (k _ _ (fun q => ?_) e) hs
   subst q
   rw [eI] at e; cases e; cases dI
 have kb : Big h' := by
  have key : ∀ P T ps, IsCodeM h P T ps → P ≠ I → T ≠ I → IsCodeM h' P T ps := by
   intro P T ps e n1 n2
   exact e.mv (fun o _ a _ => k _ o n1 a) (fun o _ b _ => k _ o n2 b)
  obtain ⟨⟨ps, e⟩, ⟨qs, f⟩⟩ := x.big
  exact ⟨⟨ps, key _ _ _ e (Ne.symm hi.2.1) (Ne.symm hi.1)⟩, ⟨qs, key _ _ _ f (Ne.symm hi.2.2.2) (Ne.symm hi.2.2.1)⟩⟩
 refine ⟨fun c o f e => k _ _ (fun q => hF (q ▸ f)) (x.st c o f e), x.fd, kb, ?_, x.fr, ?_, x.inj, ?_, x.fl, ?_, ?_⟩
 ·obtain ⟨m, n⟩ := x.ns; exact ⟨m, kn n⟩
 ·intro y c kk l
  obtain ⟨a, v, g⟩ := x.cl y c kk l
  exact ⟨a, v, kc g⟩
 ·intro y d e
  obtain ⟨v, a, b⟩ := x.rd y d e
  exact ⟨v, on a, kv b⟩
 ·intro y z a l m ne hy hz ay az
  exact x.af y z a l m ne hy hz (off ay) (off az)
 ·intro y a l hy hl ay
  exact x.ow y a l hy hl (off ay)
end KLVadv
section
variable {h₀ h h' : Heap} {F : Addr → Prop} {env : Env} {σ : List (Str × D)} {O : List Str}
theorem LV.adv (x : LV h₀ F env σ O h) {I : Addr} (k : ∀ c o, c ≠ I → h.get? c = some o → h'.get? c = some o) (hI : ∃ o fs, h.get? I = some o ∧ o.data = .fields fs ∧ o.cls ≠ .type "range") (hF : ¬ F I)
  (hi : I ≠ 140 ∧ I ≠ 144 ∧ I ≠ 147 ∧ I ≠ 151) : LV h₀ F env σ O h' :=
 by_eps (C := KLVadv.C0) _ KLVadv.main0 (h₀, h, h', F, env, σ, O, I) x k hI hF hi
end
namespace KLVturned
noncomputable def Claim0 (h₀ : Heap) (h : Heap) (h' : Heap) (F : Addr → Prop) (env : Env) (σ : List (Str × D)) (O : List Str) (y : Str) (a : Addr) (l : List D) (l' : List D) (vs : List Value) (n : Nat) : Prop :=
 ∀ (x : LV h₀ F env σ O h) (hy : y ∈ O) (hl : σ.lookup y = some (.list l)) (ay : At h env y (.ref a)) (hs : Heap.SameBut a h h') (ha : h'.get? a = some ⟨.type "list", none, .seq vs.toArray n, #[]⟩) (hv : VDs h vs l') (hlow : Lows l'), LV h₀ F env ((y, .list l') :: σ) O h'
noncomputable abbrev Ty0 := (Heap) × (Heap) × (Heap) × (Addr → Prop) × (Env) × (List (Str × D)) × (List Str) × (Str) × (Addr) × (List D) × (List D) × (List Value) × (Nat)
noncomputable def C0 (p : Ty0) : Prop := Claim0 p.1 p.2.1 p.2.2.1 p.2.2.2.1 p.2.2.2.2.1 p.2.2.2.2.2.1 p.2.2.2.2.2.2.1 p.2.2.2.2.2.2.2.1 p.2.2.2.2.2.2.2.2.1 p.2.2.2.2.2.2.2.2.2.1 p.2.2.2.2.2.2.2.2.2.2.1 p.2.2.2.2.2.2.2.2.2.2.2.1 p.2.2.2.2.2.2.2.2.2.2.2.2
noncomputable def eps0 : Ty0 := @Classical.epsilon Ty0 ⟨((default : Heap), (default : Heap), (default : Heap), (fun _ => True), (default : Env), (default : List (Str × D)), (default : List Str), (default : Str), (default : Addr), (default : List D), (default : List D), (default : List Value), (default : Nat))⟩ (fun p => ¬ C0 p)
noncomputable def h₀ := eps0.1
noncomputable def h := eps0.2.1
noncomputable def h' := eps0.2.2.1
noncomputable def F := eps0.2.2.2.1
noncomputable def env := eps0.2.2.2.2.1
noncomputable def σ := eps0.2.2.2.2.2.1
noncomputable def O := eps0.2.2.2.2.2.2.1
noncomputable def y := eps0.2.2.2.2.2.2.2.1
noncomputable def a := eps0.2.2.2.2.2.2.2.2.1
noncomputable def l := eps0.2.2.2.2.2.2.2.2.2.1
noncomputable def l' := eps0.2.2.2.2.2.2.2.2.2.2.1
noncomputable def vs := eps0.2.2.2.2.2.2.2.2.2.2.2.1
noncomputable def n := eps0.2.2.2.2.2.2.2.2.2.2.2.2
theorem main0 : Claim0 h₀ h h' F env σ O y a l l' vs n := by
 intro x hy hl ay hs ha hv hlow
 obtain ⟨v, ay', vd⟩ := x.rd y _ hl
 have := ay'.uniq ay
 subst this
 obtain ⟨na, n0, vs0, ea⟩ : NT a ∧ ∃ n0 vs0, h.get? a = some ⟨.type "list", none, .seq vs0 n0, #[]⟩ := by
  obtain ⟨_, _, na, e, _⟩ := VD.listR vd; exact ⟨na, _, _, e⟩
 have keepO : ∀ c o, c ≠ a → h.get? c = some o → h'.get? c = some o := fun c o ne e => (hs.2 c ne).trans e
 have but : ButL a h h' := ⟨keepO, _, _, ea⟩
 have lk : ∀ z, z ≠ y → ((y, D.list l') :: σ).lookup z = σ.lookup z := fun z hz => by rw [List.lookup_cons, beq_eq_false_iff_ne.mpr hz]
 have lky : ((y, D.list l') :: σ).lookup y = some (.list l') := by rw [List.lookup_cons, beq_self_eq_true]
 have kn : ∀ {b m}, h.Ns b m → h'.Ns b m := fun {b m} n => by
  obtain ⟨o, es, ep, e, d, r⟩ := n
  exact ⟨o, es, ep, keepO _ _ (fun q => by rw [q, ea] at e; cases e; cases d) e, d, r⟩
 have kc : ∀ {b v}, h.IsCell b v → h'.IsCell b v := fun {b v} n => by
  obtain ⟨o, e, d⟩ := n
  exact ⟨o, keepO _ _ (fun q => by rw [q, ea] at e; cases e; cases d) e, d⟩
 have on : ∀ {y v}, At h env y v → At h' env y v := fun {y v} q => by
  rcases q with ⟨q, m, n, e⟩ | ⟨q, c, l, g⟩
  ·exact .inl ⟨q, m, kn n, e⟩
  ·exact .inr ⟨q, c, l, kc g⟩
 have off : ∀ {y v}, At h' env y v → At h env y v := fun {y v} q => by
  rcases q with ⟨q, m, n, e⟩ | ⟨q, c, l, g⟩
  ·obtain ⟨m', n'⟩ := x.ns
   exact .inl ⟨q, m', n', ((kn n').agree n y).trans e⟩
  ·obtain ⟨_, w, g'⟩ := x.cl y c q l
   obtain ⟨o1, e1, d1⟩ := kc g'
   obtain ⟨o2, e2, d2⟩ := g
   rw [e1] at e2; cases e2
   rw [d1] at d2; cases d2
   exact .inr ⟨q, c, l, g'⟩
 have nF : ¬ F a := x.ow y a l hy hl ay
 refine ⟨fun c o f e => keepO _ _ (fun q => nF (q ▸ f)) (x.st c o f e), x.fd, x.big.but keepO (fun o vs e d => by rw [ea] at e; cases e; cases d), ?_, x.fr, ?_, x.inj, ?_, ?_, ?_, ?_⟩
 ·obtain ⟨m, n⟩ := x.ns; exact ⟨m, kn n⟩
 ·intro z c kk l
  obtain ⟨a, v, g⟩ := x.cl z c kk l
  exact ⟨a, v, kc g⟩
 ·intro z d e
  by_cases q : z = y
  ·subst q
   rw [lky] at e; cases e
   exact ⟨_, on ay, .list na ha (hv.butL but hlow)⟩
  ·rw [lk z q] at e
   obtain ⟨v, az, b⟩ := x.rd z d e
   refine ⟨v, on az, ?_⟩
   rcases x.fl z d e with (lw | ⟨m, rfl, lw⟩) | ⟨v', rfl⟩
   ·exact b.butL but lw
   ·obtain ⟨a', _, vs', rfl, na', e', s'⟩ := VD.listE b
    refine .list na' (keepO _ _ (fun q' => ?_) e') (s'.butL but lw)
    subst q'
    exact x.af z y _ _ _ q e hl az ay
   ·obtain rfl := VD.conE b; exact .con _
 ·intro z d e
  by_cases q : z = y
  ·subst q
   rw [lky] at e; cases e
   exact .inl (.inr ⟨_, rfl, hlow⟩)
  ·rw [lk z q] at e; exact x.fl z d e
 ·intro z u c ws k ne hz hu az au
  have hz' : ∃ m, σ.lookup z = some (.list m) := by
   by_cases q : z = y
   ·exact ⟨l, by rw [q, hl]⟩
   ·rw [lk z q] at hz; exact ⟨_, hz⟩
  have hu' : ∃ m, σ.lookup u = some (.list m) := by
   by_cases q : u = y
   ·exact ⟨l, by rw [q, hl]⟩
   ·rw [lk u q] at hu; exact ⟨_, hu⟩
  obtain ⟨m1, hz'⟩ := hz'
  obtain ⟨m2, hu'⟩ := hu'
  exact x.af z u c m1 m2 ne hz' hu' (off az) (off au)
 ·intro z c m hz hm az
  by_cases q : z = y
  ·subst q
   have := (off az).uniq ay
   cases this
   exact nF
  ·rw [lk z q] at hm; exact x.ow z c m hz hm (off az)
end KLVturned
section
variable {h₀ h h' : Heap} {F : Addr → Prop} {env : Env} {σ : List (Str × D)} {O : List Str}
theorem LV.turned (x : LV h₀ F env σ O h) {y : Str} {a : Addr} {l l' : List D} {vs : List Value} {n : Nat} (hy : y ∈ O) (hl : σ.lookup y = some (.list l)) (ay : At h env y (.ref a))
  (hs : Heap.SameBut a h h') (ha : h'.get? a = some ⟨.type "list", none, .seq vs.toArray n, #[]⟩) (hv : VDs h vs l') (hlow : Lows l') : LV h₀ F env ((y, .list l') :: σ) O h' :=
 by_eps (C := KLVturned.C0) _ KLVturned.main0 (h₀, h, h', F, env, σ, O, y, a, l, l', vs, n) x hy hl ay hs ha hv hlow
end
section
variable {w : World} {n : Nat} {env : Env} {h₀ h b : Heap} {F : Addr → Prop} {σ : List (Str × D)} {O : List Str}
theorem ev_name {x : Str} {pos : Pos} {d : D} (fe : Fe env) (lv : LV h₀ F env σ O h) (hl : σ.lookup x = some d)
  (hd : (x == ("__debug__" : Str)) = false := by decide) : EV w n env h (.Name x pos) d := fun A E s Q ok st hQ => by
 obtain ⟨v, a, hv⟩ := lv.rd x d hl
 rcases a with ⟨k, m, nn, e⟩ | ⟨k, c, l, g⟩
 ·exact wpAny_Name (wpAny_loadName_local fe.kind k (nn.keeps st) e (hQ _ _ _ (stays_refl _) (hv.keep st))) hd
 ·obtain ⟨o, g, d⟩ := g
  exact wpAny_Name (wpAny_loadName_cell fe.kind k l ⟨o, st _ _ g, d⟩ (hQ _ _ _ (stays_refl _) (hv.keep st))) hd
end
end Mine
-- MD11
namespace Mine
structure XRel where
 r : Shared → Shared → Prop
 st : ∀ s h tk, r s { s with heap := h, toks := tk }
 tr : ∀ {a b c}, r a b → r b c → r a c
 a : Around → Prop
noncomputable def XF : XRel where
 r := fun s s' => s' = { s with heap := s'.heap, toks := s'.toks }
 st := fun s h tk => rfl
 tr := fun {a b c} x y => by rw [y, x]
 a := fun _ => True
inductive Out where
 | next (σ : List (Str × D)) (O : List Str)
 | brk (σ : List (Str × D)) (O : List Str)
 | cont (σ : List (Str × D)) (O : List Str)
 | ret (d : D) (fr : Bool)
section
variable (X : XRel) (w : World) (n : Nat) (env : Env) (h₀ : Heap) (F : Addr → Prop)
noncomputable def StF (h : Heap) : Prop := ∀ c o, F c → h₀.get? c = some o → h.get? c = some o
noncomputable def Post (o : Out) (s : Shared) (Q : Flow → Shared → Prop) : Prop := match o with
 | .next σ O => ∀ s', X.r s s' → LV h₀ F env σ O s'.heap → Q .next s'
 | .brk σ O => ∀ s', X.r s s' → LV h₀ F env σ O s'.heap → Q .brk s'
 | .cont σ O => ∀ s', X.r s s' → LV h₀ F env σ O s'.heap → Q .cont s'
 | .ret d fr => ∀ v s', X.r s s' → StF h₀ F s'.heap → Big s'.heap → VD s'.heap v d → (fr = true → ∀ a, v = .ref a → ¬ F a) → Q (.ret v) s'
noncomputable def SX (t : Sem Flow) (σ : List (Str × D)) (O : List Str) (o : Out) : Prop :=
 ∀ (A : Around) (E : Value → Shared → Prop) (s : Shared) (Q : Flow → Shared → Prop), (Ok n A ∧ X.a A) → LV h₀ F env σ O s.heap → Post X env h₀ F o s Q → wpAny (model PW w) A t Q E s
end
section
variable {X : XRel} {w : World} {n : Nat} {env : Env} {h₀ : Heap} {F : Addr → Prop} {σ σ' : List (Str × D)} {O O' : List Str} {o : Out}
theorem Post.tr {s s₁ : Shared} {Q : Flow → Shared → Prop} (p : Post X env h₀ F o s Q) (x : X.r s s₁) : Post X env h₀ F o s₁ Q := by
 cases o with
 | next σ O => exact fun s' y => p s' (X.tr x y)
 | brk σ O => exact fun s' y => p s' (X.tr x y)
 | cont σ O => exact fun s' y => p s' (X.tr x y)
 | ret d fr => exact fun v s' y => p v s' (X.tr x y)
theorem sx_nil : SX X w n env h₀ F (execs [] env) σ O (.next σ O) := fun A E s Q ok lv p => wpAny_execs_nil (p s (X.st s s.heap s.toks) lv)
theorem sx_cons {st : Stmt} {rest : List Stmt} (h : SX X w n env h₀ F (exec st env) σ O (.next σ' O')) (hr : SX X w n env h₀ F (execs rest env) σ' O' o) : SX X w n env h₀ F (execs (st :: rest) env) σ O o := fun A E s Q ok lv p =>
 wpAny_execs_cons (h A E s _ ok lv fun s' x lv' => hr A E s' Q ok lv' (p.tr x))
theorem sx_cons_ret {st : Stmt} {rest : List Stmt} {d : D} {fr : Bool} (h : SX X w n env h₀ F (exec st env) σ O (.ret d fr)) : SX X w n env h₀ F (execs (st :: rest) env) σ O (.ret d fr) := fun A E s Q ok lv p =>
 wpAny_execs_cons (h A E s _ ok lv fun v s' x st bg hv hf => p v s' x st bg hv hf)
theorem sx_cons_brk {st : Stmt} {rest : List Stmt} (h : SX X w n env h₀ F (exec st env) σ O (.brk σ' O')) : SX X w n env h₀ F (execs (st :: rest) env) σ O (.brk σ' O') := fun A E s Q ok lv p =>
 wpAny_execs_cons (h A E s _ ok lv fun s' x lv' => p s' x lv')
theorem sx_cons_cont {st : Stmt} {rest : List Stmt} (h : SX X w n env h₀ F (exec st env) σ O (.cont σ' O')) : SX X w n env h₀ F (execs (st :: rest) env) σ O (.cont σ' O') := fun A E s Q ok lv p =>
 wpAny_execs_cons (h A E s _ ok lv fun s' x lv' => p s' x lv')
theorem sx_one {st : Stmt} (h : SX X w n env h₀ F (exec st env) σ O o) : SX X w n env h₀ F (execs [st] env) σ O o := by
 cases o with
 | next σ O => exact sx_cons h sx_nil
 | brk σ O => exact sx_cons_brk h
 | cont σ O => exact sx_cons_cont h
 | ret d fr => exact sx_cons_ret h
theorem sx_weak {t : Sem Flow} (h : SX X w n env h₀ F t σ' O' o) (hs : ∀ y d, σ'.lookup y = some d → σ.lookup y = some d) (hO : ∀ y l, y ∈ O' → σ'.lookup y = some (.list l) → y ∈ O) : SX X w n env h₀ F t σ O o := fun A E s Q ok lv p =>
 h A E s Q ok (lv.weaken hs hO) p
theorem sx_post {t : Sem Flow} {σ₂ : List (Str × D)} {O₂ : List Str} (h : SX X w n env h₀ F t σ O (.next σ' O')) (hs : ∀ y d, σ₂.lookup y = some d → σ'.lookup y = some d) (hO : ∀ y l, y ∈ O₂ → σ₂.lookup y = some (.list l) → y ∈ O') : SX X w n env h₀ F t σ O (.next σ₂ O₂) := fun A E s Q ok lv p =>
 h A E s Q ok lv fun s' x lv' => p s' x (lv'.weaken hs hO)
theorem sx_pass {pos : Pos} : SX X w n env h₀ F (exec (.Pass pos) env) σ O (.next σ O) := fun A E s Q ok lv p => wpAny_Pass (p s (X.st s s.heap s.toks) lv)
theorem sx_break {pos : Pos} : SX X w n env h₀ F (exec (.Break pos) env) σ O (.brk σ O) := fun A E s Q ok lv p => wpAny_Break (p s (X.st s s.heap s.toks) lv)
theorem sx_continue {pos : Pos} : SX X w n env h₀ F (exec (.Continue pos) env) σ O (.cont σ O) := fun A E s Q ok lv p => wpAny_Continue (p s (X.st s s.heap s.toks) lv)
theorem sx_return {e : Expr} {pos : Pos} {d : D} (he : ∀ h, LV h₀ F env σ O h → EV w n env h e d) : SX X w n env h₀ F (exec (.Return (some e) pos) env) σ O (.ret d false) := fun A E s Q ok lv p =>
 wpAny_Return_some (he _ lv A E s _ ok.1 (stays_refl _) fun v h' tk k hv => p v _ (X.st _ _ _) (lv.keep k).st (lv.keep k).big hv fun q => nomatch q)
theorem sx_returnF {e : Expr} {pos : Pos} {d : D} (he : ∀ h, LV h₀ F env σ O h → EVF w n env h e d) : SX X w n env h₀ F (exec (.Return (some e) pos) env) σ O (.ret d true) := fun A E s Q ok lv p =>
 wpAny_Return_some (he _ lv A E s _ ok.1 (stays_refl _) fun v h' tk k hv hf => p v _ (X.st _ _ _) (lv.keep k).st (lv.keep k).big hv fun _ a q f => by
  obtain ⟨o, e⟩ := lv.dom f
  rw [hf a q] at e; cases e)
theorem sx_return_own {x : Str} {pos p' : Pos} {l : List D} (fe : Fe env) (hl : σ.lookup x = some (.list l)) (hx : x ∈ O)
  (hd : (x == ("__debug__" : Str)) = false := by decide) : SX X w n env h₀ F (exec (.Return (some (.Name x p')) pos) env) σ O (.ret (.list l) true) := fun A E s Q ok lv p => by
 obtain ⟨v, a, hv⟩ := lv.rd x _ hl
 refine wpAny_Return_some ?_
 have fin : Q (.ret v) s := p v s (X.st s s.heap s.toks) lv.st lv.big hv fun _ a' q f => lv.ow x a' l hx hl (q ▸ a) f
 rcases a with ⟨k, m, nn, e⟩ | ⟨k, c, l, g⟩
 ·exact wpAny_Name (wpAny_loadName_local fe.kind k nn e fin) hd
 ·exact wpAny_Name (wpAny_loadName_cell fe.kind k l g fin) hd
theorem sx_if {test : Expr} {body orelse : List Stmt} {pos : Pos} {b : Bool} (ht : ∀ h, LV h₀ F env σ O h → BV w n env h test b)
  (h1 : b = true → SX X w n env h₀ F (execs body env) σ O o) (h2 : b = false → SX X w n env h₀ F (execs orelse env) σ O o) : SX X w n env h₀ F (exec (.If test body orelse pos) env) σ O o := fun A E s Q ok lv p =>
 wpAny_If (ht _ lv A E s _ ok.1 (stays_refl _) fun h' tk k => by
  cases b with
  | true => exact h1 rfl A E _ Q ok (lv.keep k) (p.tr (X.st _ _ _))
  | false => exact h2 rfl A E _ Q ok (lv.keep k) (p.tr (X.st _ _ _)))
theorem store_name {x : Str} {v : Value} {d : D} {A : Around} {E : Value → Shared → Prop} {s : Shared} {Q : Unit → Shared → Prop} (fe : Fe env) (lv : LV h₀ F env σ O s.heap) (hk : env.kindOf x = some .local ∨ (env.kindOf x = some .cell ∧ ∃ c, env.cells.lookup x = some c))
  (hv : VD s.heap v d) (hf : OkD d) (hfresh : ∀ a l, v = .ref a → d = .list l → ∀ z m, z ≠ x → σ.lookup z = some (.list m) → At s.heap env z (.ref a) → False)
  {O' : List Str} (hO : ∀ z ∈ O', (z ∈ O ∧ z ≠ x) ∨ (z = x ∧ ∀ a l, v = .ref a → d = .list l → ¬ F a))
  (h : ∀ h' tk, (∀ u e, VD s.heap u e → VD h' u e) → LV h₀ F env ((x, d) :: σ) O' h' → Q () { s with heap := h', toks := tk }) : wpAny (model PW w) A (storeName env x v) Q E s := by
 have hp : (env.scope.kind == .class || (env.scope.kind == .module && env.locals != env.globals)) = false := by rw [fe.kind]; rfl
 rcases hk with hk | ⟨hk, c, l⟩
 ·obtain ⟨m, nn⟩ := lv.ns
  exact wpAny_storeName_local hk nn (fun h' n' sb => h _ _ (fun _ _ q => q.mono (lv.seqLe (y := x) (v := v) sb (.inl ⟨hk, rfl, m, nn, n'⟩))) (lv.stored sb (.inl ⟨hk, rfl, m, nn, n'⟩) hv hf hfresh hO)) hp
 ·obtain ⟨_, v₀, g⟩ := lv.cl x c hk l
  exact wpAny_storeName_cell fe.kind hk l g (fun h' n' sb => h _ s.toks (fun _ _ q => q.mono (lv.seqLe (y := x) (v := v) sb (.inr ⟨hk, l, n'⟩))) (lv.stored sb (.inr ⟨hk, l, n'⟩) hv hf hfresh hO))
theorem low_not_list {d : D} (hf : Low d) {h : Heap} {a : Addr} {vs : Array Value} {n : Nat} (hv : VD h (.ref a) d) (e : h.get? a = some ⟨.type "list", none, .seq vs n, #[]⟩) : False := by
 cases hf with
 | tuple _ => obtain ⟨_, _, l, g, _⟩ := VD.tupleR hv; rw [e] at g; simp at g
 | range a b c => cases hv with | range l g => rw [e] at g; simp at g
 | _ => cases hv
noncomputable def Stored (env : Env) (x : Str) : Prop := env.kindOf x = some .local ∨ (env.kindOf x = some .cell ∧ ∃ c, env.cells.lookup x = some c)
noncomputable def less (O : List Str) (x : Str) : List Str := O.filter fun y => !(y == x)
theorem store_low {x : Str} {v : Value} {d : D} {A : Around} {E : Value → Shared → Prop} {s : Shared} {Q : Unit → Shared → Prop} (fe : Fe env) (lv : LV h₀ F env σ O s.heap) (hk : Stored env x)
  (hv : VD s.heap v d) (hf : Low d)
  (h : ∀ h' tk, (∀ u e, VD s.heap u e → VD h' u e) → LV h₀ F env ((x, d) :: σ) (less O x) h' → Q () { s with heap := h', toks := tk }) : wpAny (model PW w) A (storeName env x v) Q E s :=
 store_name fe lv hk hv (.inl (.inl hf)) (fun a l q e _ _ _ _ _ => (by subst e; cases hf)) (fun z hz => by
  refine .inl ⟨(List.mem_filter.mp hz).1, ?_⟩
  have := (List.mem_filter.mp hz).2
  simpa using this) h
theorem sx_assign {x : Str} {p' pos : Pos} {value : Expr} {d : D} (fe : Fe env) (hk : Stored env x) (he : ∀ h, LV h₀ F env σ O h → EV w n env h value d) (hf : Low d)
  (hs : swapsWith value (some (.Name x p')) pos.line env = pure false := by rfl) : SX X w n env h₀ F (exec (.Assign [.Name x p'] value pos) env) σ O (.next ((x, d) :: σ) (less O x)) := fun A E s Q ok lv p =>
 wpAny_Assign_Name (he _ lv A E s _ ok.1 (stays_refl _) fun v h' tk k hv => store_low fe (lv.keep k) hk hv hf fun h2 tk2 _ lv2 => p _ (X.st _ _ _) lv2) hs
theorem sx_assignF {x : Str} {p' pos : Pos} {value : Expr} {l : List D} (fe : Fe env) (hk : Stored env x) (he : ∀ h, LV h₀ F env σ O h → EVF w n env h value (.list l)) (hf : Lows l)
  (hs : swapsWith value (some (.Name x p')) pos.line env = pure false := by rfl) : SX X w n env h₀ F (exec (.Assign [.Name x p'] value pos) env) σ O (.next ((x, .list l) :: σ) (x :: less O x)) := fun A E s Q ok lv p =>
 wpAny_Assign_Name (he _ lv A E s _ ok.1 (stays_refl _) fun v h' tk k hv fr => store_name fe (lv.keep k) hk hv (.inl (.inr ⟨l, rfl, hf⟩)) (fun a l' q e z m hz hl az => by
   have az' := lv.back k az
   obtain ⟨u, au, vd⟩ := lv.rd z _ hl
   have := au.uniq az'
   subst this
   have e0 := fr a q
   cases vd with | list _ g _ => rw [e0] at g; cases g) (fun z hz => by
    rcases List.mem_cons.mp hz with rfl | hz
    ·refine .inr ⟨rfl, fun a l q _ f => ?_⟩
     obtain ⟨o, g⟩ := lv.dom f
     rw [fr a q] at g; cases g
    ·refine .inl ⟨(List.mem_filter.mp hz).1, ?_⟩
     have := (List.mem_filter.mp hz).2
     simpa using this)
   fun h2 tk2 _ lv2 => p _ (X.st _ _ _) lv2) hs
end
end Mine
-- MD12
namespace Mine
section
variable {h₀ h₁ h h' : Heap} {F F' : Addr → Prop} {env : Env} {σ : List (Str × D)} {O : List Str}
theorem LV.rebase (x : LV h₀ F env σ O h) (st : ∀ c o, F' c → h₁.get? c = some o → h.get? c = some o) (fd : ∀ c, F' c → ∃ o, h₁.get? c = some o) (fr : ¬ F' env.locals)
  (cl : ∀ y c, env.kindOf y = some .cell → env.cells.lookup y = some c → ¬ F' c) (ow : ∀ y a l, y ∈ O → σ.lookup y = some (.list l) → At h env y (.ref a) → ¬ F' a) : LV h₁ F' env σ O h where
 st := st
 fd := fd
 big := x.big
 ns := x.ns
 fr := fr
 cl := fun y c q l => ⟨cl y c q l, (x.cl y c q l).2⟩
 inj := x.inj
 rd := x.rd
 fl := x.fl
 af := x.af
 ow := ow
theorem LV.now (x : LV h₀ F env σ O h) : LV h F env σ O h :=
 x.rebase (fun _ _ _ e => e) (fun c f => x.dom f) x.fr (fun y c q l => (x.cl y c q l).1) x.ow
theorem LV.own_at (x : LV h₀ F env σ O h) {y : Str} {a : Addr} {l : List D} (hl : σ.lookup y = some (.list l)) (ay : At h env y (.ref a)) : ∃ vs n, h.get? a = some ⟨.type "list", .none, .seq vs n, #[]⟩ := by
 obtain ⟨v, av, vd⟩ := x.rd y _ hl
 have := av.uniq ay
 subst this
 obtain ⟨_, _, _, e, _⟩ := VD.listR vd; exact ⟨_, _, e⟩
theorem vd_soft (k : ∀ c o, NT c → h.get? c = some o → ((∃ vs n, o = ⟨.type "tuple", .none, .seq vs n, #[]⟩) ∨ (o.cls = .type "range" ∧ ∃ fs, o.data = .fields fs)) → h'.get? c = some o) {v : Value} {d : D} (hv : VD h v d) : Low d → VD h' v d := by
 refine VD.rec (motive_1 := fun v d _ => Low d → VD h' v d) (motive_2 := fun vs ds _ => Lows ds → VDs h' vs ds) (fun _ => .none) (fun b _ => .bool b) (fun i t _ => .int i t) (fun i t _ => .str i t) (fun v q => nomatch q) ?_ ?_ ?_ (fun _ => .nil) ?_ hv
 ·intro r a b c t u v l e _
  exact .range l (k _ _ l e (.inr ⟨rfl, _, rfl⟩))
 ·intro a n vs l hl e _ hs q; cases q
 ·intro a n vs l hl e _ hs q
  cases q with | tuple q => exact .tuple hl (k _ _ hl e (.inl ⟨_, _, rfl⟩)) (hs q)
 ·intro v d vs ds _ _ a b q
  cases q with | cons p r => exact .cons (a p) (b r)
end
noncomputable def Bs (b h₀ : Heap) (F : Addr → Prop) : Prop := ∀ c o, b.get? c = some o → F c ∧ h₀.get? c = some o
theorem Bs.stays {b h₀ h : Heap} {F : Addr → Prop} {env : Env} {σ : List (Str × D)} {O : List Str} (x : Bs b h₀ F) (lv : LV h₀ F env σ O h) : b.StaysIn h := fun c o e => lv.st c o (x c o e).1 (x c o e).2
theorem Bs.up {b h₀ h₁ : Heap} {F F' : Addr → Prop} (x : Bs b h₀ F) (hF : ∀ c, F c → F' c) (hs : ∀ c o, F c → h₀.get? c = some o → h₁.get? c = some o) : Bs b h₁ F' := fun c o e => ⟨hF _ (x c o e).1, hs _ _ (x c o e).1 (x c o e).2⟩
noncomputable def Sub (σ' σ : List (Str × D)) : Prop := ∀ y d, σ'.lookup y = some d → σ.lookup y = some d
theorem Sub.refl (σ : List (Str × D)) : Sub σ σ := fun _ _ e => e
section
variable {X : XRel} {w : World} {n : Nat} {env : Env} {h₀ : Heap} {F : Addr → Prop} {σ : List (Str × D)} {O : List Str}
noncomputable def Fin (inv : Nat → List (Str × D)) (O : List Str) : Option (D × Bool) → Nat → Out
 | none, k => .next (inv k) O
 | some (d, fr), _ => .ret d fr
end
namespace Ksxfor
noncomputable def Claim0 (X : XRel) (w : World) (n : Nat) (env : Env) (h₀ : Heap) (F : Addr → Prop) (σ : List (Str × D)) (O : List Str) (x : Str) (px : Pos) (pos : Pos) (iter : Expr) (body : List Stmt) (ds : List D) (fr : Bool) (inv : Nat → List (Str × D)) : Prop :=
 ∀ (k : Nat) (rt : Option (D × Bool)) (fe : Fe env) (hk : Stored env x) (hi : ∀ h, LV h₀ F env σ O h → EI w n env h iter ds fr true) (hfr : fr = true ∨ O = []) (hlow : ∀ (i : Nat) d, ds[i]? = some d → Low d) (hx : x ∉ O) (h0 : Sub (inv 0) σ) (hO0 : ∀ y l, y ∈ O → (inv 0).lookup y = some (.list l) → y ∈ O) (hlen : (rt = none ∧ k = ds.length) ∨ (rt ≠ none ∧ k < ds.length)) (turn : ∀ h₁ F', (∀ c, F c → F' c) → (∀ c o, F c → h₀.get? c = some o → h₁.get? c = some o) → ∀ (i : Nat) d, i < k → ds[i]? = some d → SX X w n env h₁ F' (execs body env) ((x, d) :: inv i) O (.next (inv (i + 1)) O)) (last : ∀ h₁ F', (∀ c, F c → F' c) → (∀ c o, F c → h₀.get? c = some o → h₁.get? c = some o) → ∀ d r, rt = some r → ds[k]? = some d → SX X w n env h₁ F' (execs body env) ((x, d) :: inv k) O (.ret r.1 r.2)) (hs : ∀ x, foldedSetIterable iter env x = pure x), SX X w n env h₀ F (exec (.For (.Name x px) iter body [] pos) env) σ O (Fin inv O rt k)
noncomputable abbrev Ty0 := (XRel) × (World) × (Nat) × (Env) × (Heap) × (Addr → Prop) × (List (Str × D)) × (List Str) × (Str) × (Pos) × (Pos) × (Expr) × (List Stmt) × (List D) × (Bool) × (Nat → List (Str × D))
noncomputable def C0 (p : Ty0) : Prop := Claim0 p.1 p.2.1 p.2.2.1 p.2.2.2.1 p.2.2.2.2.1 p.2.2.2.2.2.1 p.2.2.2.2.2.2.1 p.2.2.2.2.2.2.2.1 p.2.2.2.2.2.2.2.2.1 p.2.2.2.2.2.2.2.2.2.1 p.2.2.2.2.2.2.2.2.2.2.1 p.2.2.2.2.2.2.2.2.2.2.2.1 p.2.2.2.2.2.2.2.2.2.2.2.2.1 p.2.2.2.2.2.2.2.2.2.2.2.2.2.1 p.2.2.2.2.2.2.2.2.2.2.2.2.2.2.1 p.2.2.2.2.2.2.2.2.2.2.2.2.2.2.2
noncomputable def eps0 : Ty0 := @Classical.epsilon Ty0 ⟨(XF, aWorld 1, (default : Nat), (default : Env), (default : Heap), (fun _ => True), (default : List (Str × D)), (default : List Str), (default : Str), (default : Pos), (default : Pos), (default : Expr), (default : List Stmt), (default : List D), (default : Bool), (default : Nat → List (Str × D)))⟩ (fun p => ¬ C0 p)
noncomputable def X := eps0.1
noncomputable def w := eps0.2.1
noncomputable def n := eps0.2.2.1
noncomputable def env := eps0.2.2.2.1
noncomputable def h₀ := eps0.2.2.2.2.1
noncomputable def F := eps0.2.2.2.2.2.1
noncomputable def σ := eps0.2.2.2.2.2.2.1
noncomputable def O := eps0.2.2.2.2.2.2.2.1
noncomputable def x := eps0.2.2.2.2.2.2.2.2.1
noncomputable def px := eps0.2.2.2.2.2.2.2.2.2.1
noncomputable def pos := eps0.2.2.2.2.2.2.2.2.2.2.1
noncomputable def iter := eps0.2.2.2.2.2.2.2.2.2.2.2.1
noncomputable def body := eps0.2.2.2.2.2.2.2.2.2.2.2.2.1
noncomputable def ds := eps0.2.2.2.2.2.2.2.2.2.2.2.2.2.1
noncomputable def fr := eps0.2.2.2.2.2.2.2.2.2.2.2.2.2.2.1
noncomputable def inv := eps0.2.2.2.2.2.2.2.2.2.2.2.2.2.2.2
set_option maxHeartbeats 1000000 in
theorem main0 : Claim0 X w n env h₀ F σ O x px pos iter body ds fr inv := fun k rt fe hk hi hfr hlow hx h0 hO0 hlen turn last hs => fun A E s Q ok lv p => by
 have hO : less O x = O := by
  unfold less
  refine List.filter_eq_self.mpr fun y hy => ?_
  have : y ≠ x := fun q => hx (q ▸ hy)
  simpa using this
 refine wpAny_For (hi _ lv A E s _ ok.1 (stays_refl _) fun I h1 tk fp P St W hS hfp hI hI2 kp hP hfp2 kn => ?_) hs
 have kn := kn rfl
 have lv1 := lv.keep kp
 let F' : Addr → Prop := fun c => (∃ o, h1.get? c = some o) ∧ c ≠ env.locals ∧ (∀ y, env.kindOf y = some .cell → env.cells.lookup y ≠ some c) ∧ ∀ y l, y ∈ O → σ.lookup y = some (.list l) → ¬ At h1 env y (.ref c)
 obtain ⟨oI, fI, eI, dI, cI⟩ := kn 0 _ hS
 have FF' : ∀ c, F c → F' c := fun c f => ⟨lv1.dom f, fun q => lv.fr (q ▸ f), fun y q l => (lv.cl y c q l).1 f, fun y l hy hl ay => lv1.ow y c l hy hl ay f⟩
 have FI : ∀ c, F c → c ≠ I := fun c f q => by
  obtain ⟨o, e⟩ := lv.dom f
  rw [q, hI] at e; cases e
 have F'I : F' I := by
  refine ⟨⟨_, eI⟩, fun q => ?_, fun y kk l => ?_, fun y l hy hl ay => ?_⟩
  ·obtain ⟨m, o, es, ep, e, d, _⟩ := lv.ns
   rw [← q, hI] at e; cases e
  ·obtain ⟨_, v, o, e, _⟩ := lv.cl y I kk l
   rw [hI] at e; cases e
  ·obtain ⟨vs, k, e⟩ := lv.own_at hl (lv.back kp ay)
   rw [hI] at e; cases e
 have Ffp : ∀ c ∈ fp, F' c := fun c hc => by
  by_cases q : c = I
  ·exact q ▸ F'I
  ·obtain ⟨f1, nt, o, its, k, e, d⟩ := hfp2 c hc q
   refine ⟨⟨o, e⟩, fun q => ?_, fun y kk l => ?_, fun y l hy hl ay => ?_⟩
   ·obtain ⟨m, o', es, ep, e', d', _⟩ := lv1.ns
    rw [← q, e] at e'; cases e'; rw [d] at d'; cases d'
   ·obtain ⟨_, v, o', e', d'⟩ := lv1.cl y c kk l
    rw [e] at e'; cases e'; rw [d] at d'; cases d'
   ·rcases hfr with hfr | hfr
    ·obtain ⟨vs, k, e'⟩ := lv.own_at hl (lv.back kp ay)
     rw [f1 hfr] at e'; cases e'
    ·rw [hfr] at hy; cases hy
 have F'soft : ∀ c o, h1.get? c = some o → ((∃ vs n, o = ⟨.type "tuple", .none, .seq vs n, #[]⟩) ∨ (o.cls = .type "range" ∧ ∃ fs, o.data = .fields fs)) → F' c ∧ c ≠ I := fun c o e d => by
  refine ⟨⟨⟨o, e⟩, fun q => ?_, fun y kk l => ?_, fun y l hy hl ay => ?_⟩, fun q => ?_⟩
  ·obtain ⟨m, o', es, ep, e', d', _⟩ := lv1.ns
   rw [← q, e] at e'; cases e'
   rcases d with ⟨_, _, rfl⟩ | ⟨_, _, d⟩
   ·cases d'
   ·rw [d] at d'; cases d'
  ·obtain ⟨_, v, o', e', d'⟩ := lv1.cl y c kk l
   rw [e] at e'; cases e'
   rcases d with ⟨_, _, rfl⟩ | ⟨_, _, d⟩
   ·cases d'
   ·rw [d] at d'; cases d'
  ·obtain ⟨vs, k, e'⟩ := lv1.own_at hl ay
   rw [e] at e'; cases e'
   rcases d with ⟨_, _, d⟩ | ⟨d, _⟩
   ·simp at d
   ·simp at d
  ·rw [q, eI] at e; cases e
   rcases d with ⟨_, _, rfl⟩ | ⟨d, _⟩
   ·cases dI
   ·exact cI d
 have nI : I ≠ 140 ∧ I ≠ 144 ∧ I ≠ 147 ∧ I ≠ 151 := by
  obtain ⟨⟨ps, e⟩, ⟨qs, f⟩⟩ := lv.big
  obtain ⟨⟨o1, v1, a1, _⟩, ⟨o2, v2, a2, _⟩⟩ := IsCode_at e
  obtain ⟨⟨o3, v3, a3, _⟩, ⟨o4, v4, a4, _⟩⟩ := IsCode_at f
  refine ⟨fun q => ?_, fun q => ?_, fun q => ?_, fun q => ?_⟩ <;> subst q
  ·rw [hI] at a2; cases a2
  ·rw [hI] at a1; cases a1
  ·rw [hI] at a4; cases a4
  ·rw [hI] at a3; cases a3
 let J : Nat → Shared → Prop := fun i s' => i ≤ k ∧ X.r s s' ∧ LV s'.heap F' env (inv i) O s'.heap ∧ (∀ c o, F' c → c ≠ I → h1.get? c = some o → s'.heap.get? c = some o) ∧ St i s'.heap
 have start : J 0 { s with heap := h1, toks := tk } := by
  refine ⟨Nat.zero_le _, X.st _ _ _, ?_, fun _ _ _ _ e => e, hS⟩
  refine LV.weaken (σ := σ) (O := O) ?_ h0 hO0
  exact lv1.rebase (fun _ _ _ e => e) (fun c f => f.1) (fun f => f.2.1 rfl) (fun y c q l f => f.2.2.1 y q l) (fun y a l hy hl ay f => f.2.2.2 y l hy hl ay)
 have step : ∀ (i : Nat) (s' : Shared) (h' : Heap), J i s' → (∀ b o, b ∉ [I] → s'.heap.get? b = some o → h'.get? b = some o) → (∃ o, h'.get? I = some o ∧ ∃ fs, o.data = .fields fs) → LV h' F' env (inv i) O h' ∧ (∀ c o, F' c → c ≠ I → h1.get? c = some o → h'.get? c = some o) := by
  intro i s' h' hJ hk' hI'
  obtain ⟨_, _, lvi, keep, hSi⟩ := hJ
  have kk : ∀ c o, c ≠ I → s'.heap.get? c = some o → h'.get? c = some o := fun c o ne e => hk' c o (fun q => ne (List.mem_singleton.mp q)) e
  have l2 : LV s'.heap (fun c => F' c ∧ c ≠ I) env (inv i) O s'.heap := lvi.rebase (fun _ _ _ e => e) (fun c f => lvi.dom f.1) (fun f => lvi.fr f.1) (fun y c q l f => (lvi.cl y c q l).1 f.1) (fun y a l hy hl ay f => lvi.ow y a l hy hl ay f.1)
  have l3 := l2.adv kk (kn i _ hSi) (fun f => f.2 rfl) nI
  obtain ⟨oj, ej, fj, dj⟩ := hI'
  refine ⟨l3.rebase (fun _ _ _ e => e) (fun c f => ?_) (fun f => lvi.fr f) (fun y c q l f => (lvi.cl y c q l).1 f) (fun y a l hy hl ay f => ?_), fun c o f ne e => kk c o ne (keep c o f ne e)⟩
  ·by_cases q : c = I
   ·exact ⟨oj, q ▸ ej⟩
   ·obtain ⟨o, e⟩ := lvi.dom f
    exact ⟨o, kk c o q e⟩
  ·by_cases q : a = I
   ·obtain ⟨vs, k, e'⟩ := l3.own_at hl ay
    rw [q, ej] at e'; cases e'; cases dj
   ·exact l3.ow y a l hy hl ay ⟨f, q⟩
 have toF : ∀ h' : Heap, (∀ c o, F' c → c ≠ I → h1.get? c = some o → h'.get? c = some o) → ∀ c o, F c → h₀.get? c = some o → h'.get? c = some o := fun h' kh c o f e => kh c o (FF' c f) (FI c f) (lv1.st c o f e)
 have fin : ∀ (i : Nat) (h' : Heap), LV h' F' env (inv i) O h' → (∀ c o, F' c → c ≠ I → h1.get? c = some o → h'.get? c = some o) → LV h₀ F env (inv i) O h' := fun i h' l kh =>
  l.rebase (toF h' kh) lv.fd lv.fr (fun y c kk q => (lv.cl y c kk q).1) (fun y a m hy hl ay f => l.ow y a m hy hl ay (FF' a f))
 refine codeAny_forLoop_any (fun m s' => ∃ i, m = ds.length - i ∧ J i s') (fun m s' hJ => ?_) ds.length ⟨0, rfl, start⟩
 obtain ⟨i, rfl, hJ⟩ := hJ
 have hJ' := hJ
 obtain ⟨hik, hXr, lvi, keep, hSi⟩ := hJ
 have hkl : k ≤ ds.length := by rcases hlen with ⟨_, q⟩ | ⟨_, q⟩ <;> omega
 by_cases hid : i < ds.length
 ·refine (W A ok.1.hd).item i s' _ _ hid hSi fun v h' tk' hPv hS' hk' => ?_
  obtain ⟨o', f', e', d', c'⟩ := kn _ _ hS'
  obtain ⟨l2, kh⟩ := step i s' h' hJ' hk' ⟨o', e', f', d'⟩
  obtain ⟨d, hd, hvd⟩ := hP i v hid hPv
  have hvd' : VD h' v d := vd_soft (fun c o _ e q => kh c o (F'soft c o e q).1 (F'soft c o e q).2 e) hvd (hlow i d hd)
  refine wpAny_pure ?_
  refine wpAny_assign_Name (store_low fe l2 hk hvd' (hlow i d hd) fun h2 tk2 _ l3 => ?_)
  rw [hO] at l3
  have toF' := toF h' kh
  have stepJ : ∀ s3 : Shared, X.r { s' with heap := h2, toks := tk2 } s3 → LV h' F' env (inv (i + 1)) O s3.heap → i < k → ∃ m, m < ds.length - i ∧ ∃ j, m = ds.length - j ∧ J j s3 := fun s3 x3 l4 hik => by
   refine ⟨ds.length - (i + 1), by omega, i + 1, rfl, by omega, X.tr (X.tr hXr (X.st _ _ _)) x3, l4.now, fun c o f ne e => l4.st c o f (kh c o f ne e), ?_⟩
   exact (W A ok.1.hd).frame _ _ _ hS' fun b hb o e => l4.st b o (Ffp b hb) e
  by_cases hik' : i < k
  ·refine turn h' F' FF' toF' i d hik' hd A _ _ _ ok l3 ?_
   exact fun s3 x3 l4 => stepJ s3 x3 l4 hik'
  ·have hik2 : i = k := by omega
   subst hik2
   rcases hlen with ⟨_, q⟩ | ⟨q, _⟩
   ·omega
   ·obtain ⟨r, hr⟩ := Option.ne_none_iff_exists'.mp q
    refine last h' F' FF' toF' d r hr hd A _ _ _ ok l3 ?_
    intro v3 s3 x3 st3 bg3 hv3 hf3
    subst hr
    exact p v3 s3 (X.tr (X.tr hXr (X.st _ _ _)) x3) (fun c o f e => st3 c o (FF' c f) (toF' c o f e)) bg3 hv3 fun q a e f => hf3 q a e (FF' a f)
 ·have hi2 : i = ds.length := by omega
  have hik2 : i = k := by omega
  rcases hlen with ⟨rfl, q⟩ | ⟨_, q⟩
  ·subst hi2
   refine (W A ok.1.hd).done s' _ _ hSi fun h' tk' hk' => wpAny_execs_nil ?_
   subst hik2
   have kk : ∀ c o, c ≠ I → s'.heap.get? c = some o → h'.get? c = some o := fun c o ne e => hk' c o (fun q => ne (List.mem_singleton.mp q)) e
   have l2 : LV s'.heap (fun c => F' c ∧ c ≠ I) env (inv ds.length) O s'.heap := lvi.rebase (fun _ _ _ e => e) (fun c f => lvi.dom f.1) (fun f => lvi.fr f.1) (fun y c q l f => (lvi.cl y c q l).1 f.1) (fun y a l hy hl ay f => lvi.ow y a l hy hl ay f.1)
   have l3 := l2.adv kk (kn _ _ hSi) (fun f => f.2 rfl) nI
   refine p _ (X.tr hXr (X.st _ _ _)) ?_
   exact l3.rebase (fun c o f e => kk c o (FI c f) (keep c o (FF' c f) (FI c f) (lv1.st c o f e))) lv.fd lv.fr (fun y c kk q => (lv.cl y c kk q).1) (fun y a m hy hl ay f => l3.ow y a m hy hl ay ⟨FF' a f, FI a f⟩)
  ·omega
end Ksxfor
section
variable {X : XRel} {w : World} {n : Nat} {env : Env} {h₀ : Heap} {F : Addr → Prop} {σ : List (Str × D)} {O : List Str}
theorem sx_for {x : Str} {px pos : Pos} {iter : Expr} {body : List Stmt} {ds : List D} {fr : Bool} (inv : Nat → List (Str × D)) (k : Nat) (rt : Option (D × Bool)) (fe : Fe env) (hk : Stored env x)
  (hi : ∀ h, LV h₀ F env σ O h → EI w n env h iter ds fr true) (hfr : fr = true ∨ O = []) (hlow : ∀ (i : Nat) d, ds[i]? = some d → Low d) (hx : x ∉ O) (h0 : Sub (inv 0) σ) (hO0 : ∀ y l, y ∈ O → (inv 0).lookup y = some (.list l) → y ∈ O := by intro _ _ h _; exact h)
  (hlen : (rt = none ∧ k = ds.length) ∨ (rt ≠ none ∧ k < ds.length))
  (turn : ∀ h₁ F', (∀ c, F c → F' c) → (∀ c o, F c → h₀.get? c = some o → h₁.get? c = some o) → ∀ (i : Nat) d, i < k → ds[i]? = some d → SX X w n env h₁ F' (execs body env) ((x, d) :: inv i) O (.next (inv (i + 1)) O))
  (last : ∀ h₁ F', (∀ c, F c → F' c) → (∀ c o, F c → h₀.get? c = some o → h₁.get? c = some o) → ∀ d r, rt = some r → ds[k]? = some d → SX X w n env h₁ F' (execs body env) ((x, d) :: inv k) O (.ret r.1 r.2) := by (intro _ _ _ _ _ _ q; cases q))
  (hs : ∀ x, foldedSetIterable iter env x = pure x := by intro _; rfl) :
  SX X w n env h₀ F (exec (.For (.Name x px) iter body [] pos) env) σ O (Fin inv O rt k) :=
 by_eps (C := Ksxfor.C0) _ Ksxfor.main0 (X, w, n, env, h₀, F, σ, O, x, px, pos, iter, body, ds, fr, inv) k rt fe hk hi hfr hlow hx h0 hO0 hlen turn last hs
end
end Mine
-- MD13
namespace Mine
section
variable {X : XRel} {w : World} {n : Nat} {env : Env} {h₀ : Heap} {F : Addr → Prop} {σ σ' : List (Str × D)} {O O' : List Str} {o : Out}
theorem sx_while {test : Expr} {body : List Stmt} {pos : Pos} (inv : Nat → List (Str × D)) (k : Nat) (h0 : Sub (inv 0) σ) (hO0 : ∀ y l, y ∈ O' → (inv 0).lookup y = some (.list l) → y ∈ O)
  (ht : ∀ i, i ≤ k → ∀ h, LV h₀ F env (inv i) O' h → BV w n env h test (decide (i < k)))
  (hb : ∀ i, i < k → SX X w n env h₀ F (execs body env) (inv i) O' (.next (inv (i + 1)) O')) :
  SX X w n env h₀ F (exec (.While test body [] pos) env) σ O (.next (inv k) O') := fun A E s Q ok lv p => by
 refine wpAny_While (codeAny_whileLoop (fun m s' => ∃ i, m = k - i ∧ i ≤ k ∧ X.r s s' ∧ LV h₀ F env (inv i) O' s'.heap) (fun m s' hJ => ?_) k ⟨0, rfl, Nat.zero_le _, X.st s s.heap s.toks, lv.weaken h0 hO0⟩)
 obtain ⟨i, rfl, hi, hx, lvi⟩ := hJ
 refine ht i hi _ lvi A _ s' _ ok.1 (stays_refl _) fun h' tk kp => ?_
 by_cases q : i < k
 ·rw [decide_eq_true q, if_pos rfl]
  refine hb i q A _ _ _ ok (lvi.keep kp) fun s3 x3 l3 => ?_
  exact ⟨k - (i + 1), by omega, i + 1, rfl, q, X.tr (X.tr hx (X.st _ _ _)) x3, l3⟩
 ·rw [decide_eq_false q, if_neg (by decide)]
  have : i = k := by omega
  subst this
  exact wpAny_execs_nil (p _ (X.tr hx (X.st _ _ _)) (lvi.keep kp))
theorem load_name {x : Str} {d : D} {A : Around} {E : Value → Shared → Prop} {s : Shared} {Q : Value → Shared → Prop} (fe : Fe env) (lv : LV h₀ F env σ O s.heap) (hl : σ.lookup x = some d) (h : ∀ v, At s.heap env x v → VD s.heap v d → Q v s) :
  wpAny (model PW w) A (loadName env x) Q E s := by
 obtain ⟨v, a, hv⟩ := lv.rd x d hl
 have h' := h v a hv
 rcases a with ⟨k, m, nn, e⟩ | ⟨k, c, l, g⟩
 ·exact wpAny_loadName_local fe.kind k nn e h'
 ·exact wpAny_loadName_cell fe.kind k l g h'
theorem name_at {x : Str} {pos : Pos} {d : D} {A : Around} {E : Value → Shared → Prop} {s : Shared} {Q : Value → Shared → Prop} (fe : Fe env) (lv : LV h₀ F env σ O s.heap) (hl : σ.lookup x = some d) (h : ∀ v, At s.heap env x v → VD s.heap v d → Q v s)
  (hd : (x == ("__debug__" : Str)) = false := by decide) : wpAny (model PW w) A (eval (.Name x pos) env) Q E s := wpAny_Name (load_name fe lv hl h) hd
theorem sx_aug {x : Str} {p' pos : Pos} {op : Operator} {value : Expr} {a b d : D} (fe : Fe env) (hk : Stored env x) (hl : σ.lookup x = some a) (he : ∀ h, LV h₀ F env σ O h → EV w n env h value b) (hf : Low d)
  (ho : ∀ (A : Around) (E : Value → Shared → Prop) (s : Shared) (Q : Value → Shared → Prop) (u v : Value), VD s.heap u a → VD s.heap v b → (∀ v tk, VD s.heap v d → Q v { s with toks := tk }) → wpAny (model PW w) A (inplaceOp op u v) Q E s) :
  SX X w n env h₀ F (exec (.AugAssign (.Name x p') op value pos) env) σ O (.next ((x, d) :: σ) (less O x)) := fun A E s Q ok lv p =>
 wpAny_AugAssign_Name (load_name fe lv hl fun u _ hu => he _ lv A E s _ ok.1 (stays_refl _) fun v h' tk k hv => ho A E _ _ u v (hu.keep k) hv fun r tk2 hr =>
  store_low fe (lv.keep k) hk hr hf fun h2 tk2 _ lv2 => p _ (X.st _ _ _) lv2)
theorem sx_aug_add {x : Str} {p' pos : Pos} {value : Expr} {i j : Int} (fe : Fe env) (hk : Stored env x) (hl : σ.lookup x = some (.int i)) (he : ∀ h, LV h₀ F env σ O h → EV w n env h value (.int j)) :
  SX X w n env h₀ F (exec (.AugAssign (.Name x p') .Add value pos) env) σ O (.next ((x, .int (i + j)) :: σ) (less O x)) :=
 sx_aug fe hk hl he (.int _) fun A E s Q u v hu hv hQ => by obtain ⟨_, rfl⟩ := VD.intE hu; obtain ⟨_, rfl⟩ := VD.intE hv; exact PyProof.Rows.iadd_int (hQ _ _ (.int _ _))
theorem sx_aug_sub {x : Str} {p' pos : Pos} {value : Expr} {i j : Int} (fe : Fe env) (hk : Stored env x) (hl : σ.lookup x = some (.int i)) (he : ∀ h, LV h₀ F env σ O h → EV w n env h value (.int j)) :
  SX X w n env h₀ F (exec (.AugAssign (.Name x p') .Sub value pos) env) σ O (.next ((x, .int (i - j)) :: σ) (less O x)) :=
 sx_aug fe hk hl he (.int _) fun A E s Q u v hu hv hQ => by obtain ⟨_, rfl⟩ := VD.intE hu; obtain ⟨_, rfl⟩ := VD.intE hv; exact PyProof.Rows.isub_int (hQ _ _ (.int _ _))
theorem upd_list {h : Heap} {a : Addr} {vs : List Value} {k : Nat} (e : h.get? a = some ⟨.type "list", none, .seq vs.toArray k, #[]⟩) (f : Array Value → Array Value) :
  ∃ m, (h.update a (Obj.mapSeq f)).get? a = some ⟨.type "list", none, .seq (f vs.toArray).toList.toArray m, #[]⟩ := by
 rw [Array.toArray_toList]
 exact ⟨_, Heap.get?_update_self _ e rfl⟩
theorem sx_append {x : Str} {p1 apos pos p2 : Pos} {e : Expr} {l : List D} {d : D} (fe : Fe env) (hl : σ.lookup x = some (.list l)) (hx : x ∈ O) (he : ∀ h, LV h₀ F env σ O h → EV w n env h e d) (hf : Low d) (hll : Lows l) (hz : l.length ≤ sizeLine)
  (hb : attributeBase (.Name x p1) (Str.ofString "append") env (eval (.Name x p1) env) = eval (.Name x p1) env := by rfl)
  (hn : starEach [e] env = [(false, eval e env)] := by rfl)
  (hd : (x == ("__debug__" : Str)) = false := by decide)
  (hp : (apos.endLine == pos.line) = true := by rfl)
  (hi : interactive env = false := by rfl) (hs : swapsWith (.Call (.Attribute (.Name x p1) (Str.ofString "append") apos) [e] [] pos) none p2.line env = pure false := by rfl) :
  SX X w n env h₀ F (exec (.Expr (.Call (.Attribute (.Name x p1) (Str.ofString "append") apos) [e] [] pos) p2) env) σ O (.next ((x, .list (l ++ [d])) :: σ) O) := fun A E s Q ok lv p => by
 have hm : ((((backTo pos (starEach [e] env)).all fun x => !x.fst) && (backToKw pos (keywordEach [] env)).all fun x => x.fst.isSome) && decide (([e].length + ([] : List Keyword).length + if ([] : List Keyword).isEmpty = true then 0 else 1) < 30)) = true := by rw [hn]; rfl
 refine wpAny_Expr_any (wpAny_Call_method hb hm hp PySem.F.plainAttrs_list PySem.F.slot_list_append PySem.F.type_list_append (name_at fe lv hl (fun v av vd => ?_) hd)) hi hs
 obtain ⟨a, m, vs, rfl, na, ea, sl⟩ := VD.listE vd
 refine ⟨⟨_, ea, rfl⟩, fun a' q => by cases q; exact ⟨_, ea, rfl⟩, ?_⟩
 rw [hn]
 refine P.append_list (he _ lv A E s _ ok.1 (stays_refl _) fun v h' tk k hv => ?_)
 refine ⟨vs.toArray, m, by rw [List.size_toArray, sl.length]; exact hz, k _ _ ea, ?_⟩
 obtain ⟨m', eu⟩ := upd_list (k _ _ ea) (fun xs => xs.push v)
 rw [show (vs.toArray.push v).toList = vs ++ [v] from by simp] at eu
 exact p _ (X.st _ _ _) ((lv.keep k).turned hx hl (av.keep k) (Heap.SameBut.update ..) eu ((sl.keep k).append (.cons hv .nil)) (hll.append (.cons hf .nil)))
theorem sx_extend {x : Str} {p1 apos pos p2 : Pos} {e : Expr} {l r : List D} (fe : Fe env) (hl : σ.lookup x = some (.list l)) (hx : x ∈ O) (he : ∀ h, LV h₀ F env σ O h → EVF w n env h e (.list r)) (hf : Lows r) (hll : Lows l) (hz : l.length + r.length < 1000)
  (hb : attributeBase (.Name x p1) (Str.ofString "extend") env (eval (.Name x p1) env) = eval (.Name x p1) env := by rfl)
  (hn : starEach [e] env = [(false, eval e env)] := by rfl)
  (hd : (x == ("__debug__" : Str)) = false := by decide)
  (hp : (apos.endLine == pos.line) = true := by rfl)
  (hi : interactive env = false := by rfl) (hs : swapsWith (.Call (.Attribute (.Name x p1) (Str.ofString "extend") apos) [e] [] pos) none p2.line env = pure false := by rfl) :
  SX X w n env h₀ F (exec (.Expr (.Call (.Attribute (.Name x p1) (Str.ofString "extend") apos) [e] [] pos) p2) env) σ O (.next ((x, .list (l ++ r)) :: σ) O) := fun A E s Q ok lv p => by
 have hm : ((((backTo pos (starEach [e] env)).all fun x => !x.fst) && (backToKw pos (keywordEach [] env)).all fun x => x.fst.isSome) && decide (([e].length + ([] : List Keyword).length + if ([] : List Keyword).isEmpty = true then 0 else 1) < 30)) = true := by rw [hn]; rfl
 refine wpAny_Expr_any (wpAny_Call_method hb hm hp PySem.F.plainAttrs_list PySem.F.slot_list_extend PySem.F.type_list_extend (name_at fe lv hl (fun v av vd => ?_) hd)) hi hs
 obtain ⟨a, m, vs, rfl, na, ea, sl⟩ := VD.listE vd
 refine ⟨⟨_, ea, rfl⟩, fun a' q => by cases q; exact ⟨_, ea, rfl⟩, ?_⟩
 rw [hn]
 refine P.extend_list (he _ lv A E s _ ok.1 (stays_refl _) fun v h' tk k hv _ => ?_)
 obtain ⟨a2, m2, vs2, rfl, na2, ea2, sl2⟩ := VD.listE hv
 have z := sizeLine_eq
 refine ⟨a2, vs.toArray, vs2.toArray, m, m2, by rw [List.size_toArray, sl.length]; omega, by rw [List.size_toArray, List.size_toArray, sl.length, sl2.length]; omega, ?_, rfl, k _ _ ea, ea2, ?_⟩
 ·unfold Builtin.List.listTooLong
  rw [List.size_toArray, List.size_toArray, sl.length, sl2.length]
  simp
  omega
 ·obtain ⟨m', eu⟩ := upd_list (k _ _ ea) (fun xs => xs ++ vs2.toArray)
  rw [show (vs.toArray ++ vs2.toArray).toList = vs ++ vs2 from by simp] at eu
  exact p _ (X.st _ _ _) ((lv.keep k).turned hx hl (av.keep k) (Heap.SameBut.update ..) eu ((sl.keep k).append sl2) (hll.append hf))
theorem vds_set {h : Heap} : ∀ {vs : List Value} {ds : List D} {v : Value} {d : D} (i : Nat), VDs h vs ds → VD h v d → VDs h (vs.set i v) (ds.set i d)
 | _, _, _, _, _, .nil, _ => .nil
 | _, _, _, _, 0, .cons _ r, x => .cons x r
 | _, _, _, _, i + 1, .cons a r, x => .cons a (vds_set i r x)
theorem Lows.set : ∀ {l : List D} {d : D} (i : Nat), Lows l → Low d → Lows (l.set i d)
 | _, _, _, .nil, _ => .nil
 | _, _, 0, .cons _ r, x => .cons x r
 | _, _, i + 1, .cons a r, x => .cons a (Lows.set i r x)
theorem sx_setitem {x : Str} {p1 p2 pos : Pos} {i value : Expr} {l : List D} {d : D} {k : Nat} (fe : Fe env) (hl : σ.lookup x = some (.list l)) (hx : x ∈ O) (he : ∀ h, LV h₀ F env σ O h → EV w n env h value d) (hi : ∀ h, LV h₀ F env σ O h → EV w n env h i (.int k)) (hf : Low d) (hll : Lows l) (hk : k < l.length) (hz : l.length < 1000)
  (hd : (x == ("__debug__" : Str)) = false := by decide)
  (hs : swapsWith value (some (.Subscript (.Name x p1) i p2)) pos.line env = pure false := by rfl) :
  SX X w n env h₀ F (exec (.Assign [.Subscript (.Name x p1) i p2] value pos) env) σ O (.next ((x, .list (l.set k d)) :: σ) O) := fun A E s Q ok lv p => by
 refine wpAny_Assign_Subscript (he _ lv A E s _ ok.1 (stays_refl _) fun v h1 t1 k1 v1 => name_at (s := { s with heap := h1, toks := t1 }) fe (lv.keep k1) hl (fun u av vd => ?_) hd) hs
 refine hi _ (lv.keep k1) A E _ _ ok.1 (stays_refl _) fun iv h2 t2 k2 v2 => ?_
 obtain ⟨t, rfl⟩ := VD.intE v2
 obtain ⟨a, m, vs, rfl, na, ea, sl⟩ := VD.listE vd
 refine ki_setAt (k2 _ _ ea) (by omega) (by omega) (by rw [List.size_toArray, sl.length]; omega) ?_
 obtain ⟨m', eu⟩ := upd_list (k2 _ _ ea) (fun x => x.setIfInBounds (k : Int).toNat v)
 rw [show (vs.toArray.setIfInBounds (k : Int).toNat v).toList = vs.set k v from by simp] at eu
 exact p _ (X.st _ _ _) (((lv.keep k1).keep k2).turned hx hl (av.keep k2) (Heap.SameBut.update ..) eu (vds_set k (sl.keep k2) (v1.keep k2)) (hll.set k hf))
end
end Mine
-- MD14
namespace Mine
section
variable {X : XRel} {w : World} {n : Nat} {env : Env} {h₀ : Heap} {F : Addr → Prop} {σ σ' : List (Str × D)} {O O' : List Str} {o : Out}
theorem less_of {O : List Str} {x : Str} (h : x ∉ O) : less O x = O :=
 List.filter_eq_self.mpr fun y hy => by
  have : y ≠ x := fun q => h (q ▸ hy)
  simpa using this
theorem stays_ext {h h' : Heap} (x : Heap.ExtBut h.objs.size h h') : h.StaysIn h' := fun a o e => x a o (Nat.ne_of_lt (Heap.lt_size e)) e
theorem sx_two {x y : Str} {elts : List Expr} {k : Nat} {tpos pos : Pos} {value : Expr} {d e : D} (fe : Fe env) (hx : Stored env x) (hy : Stored env y) (hv : ∀ h, LV h₀ F env σ O h → EV w n env h value (.tuple [d, e])) (hd : Low d) (he : Low e)
  (hs : swapsWithSole [.Tuple elts k tpos] value pos.line env = pure false := by rfl)
  (hw : swappedStores [.Tuple elts k tpos] value env = pure (some [x, y]) := by rfl) :
  SX X w n env h₀ F (exec (.Assign [.Tuple elts k tpos] value pos) env) σ O (.next ((x, d) :: (y, e) :: σ) (less (less O y) x)) := fun A E s Q ok lv p => by
 refine Assign_Tuple_swapped (hv _ lv A E s _ ok.1 (stays_refl _) fun v h1 t1 k1 v1 => ?_) hs hw
 obtain ⟨a, m, vs, rfl, na, ea, sl⟩ := VD.tupleE v1
 have hl := sl.length
 have e2 : unpackItems (.ref a) ([x, y] : List Str).length none = unpackItems (.ref a) vs.toArray.size none := by rw [List.size_toArray, hl]; rfl
 rw [e2]
 refine PyProof.Rows.unpackItems_tuple ok.1.hd ⟨_, ea, rfl, _, rfl⟩ fun h2 x2 => ?_
 obtain ⟨_, _, rfl, a1, sl⟩ := VDs.consE sl
 obtain ⟨_, _, rfl, a2, sl⟩ := VDs.consE sl
 obtain rfl := VDs.nilE sl
 have k2 := stays_ext x2
 refine PySem.wpAny_assignInOrder_more (wpAny_bindName (store_low fe ((lv.keep k1).keep k2) hy (a2.keep k2) he fun h3 t3 kv l3 => ?_))
 refine PySem.wpAny_assignInOrder_more (wpAny_bindName (store_low fe l3 hx (kv _ _ (a1.keep k2)) hd fun h4 t4 kv l4 => PySem.wpAny_assignInOrder_none ?_))
 exact p _ (X.st _ _ _) l4
theorem assign_names {ps : List (Str × Pos)} (fe : Fe env) : ∀ {vs : List Value} {ds : List D} {σ : List (Str × D)} {O : List Str} {A : Around} {E : Value → Shared → Prop} {s : Shared} {Q : Unit → Shared → Prop}, (∀ q ∈ ps, Stored env q.1) → VDs s.heap vs ds → Lows ds → ps.length = ds.length →
  LV h₀ F env σ O s.heap → (∀ s', X.r s s' → LV h₀ F env (((ps.map (·.1)).zip ds).reverse ++ σ) ((ps.map (·.1)).foldl less O) s'.heap → Q () s') →
  wpAny (model PW w) A (assignInOrder (ps.map fun q => assign (.Name q.1 q.2) env) vs) Q E s := by
 induction ps with
 | nil =>
  intro vs ds σ O A E s Q _ hv _ hl lv h
  cases ds with
  | nil => obtain rfl := VDs.nilE hv; exact PySem.wpAny_assignInOrder_none (h s (X.st s s.heap s.toks) lv)
  | cons _ _ => cases hl
 | cons q ps ih =>
  intro vs ds σ O A E s Q hst hv hlo hl lv h
  cases hv with
  | nil => cases hl
  | cons a r =>
  cases hlo with
  | cons b c =>
  refine PySem.wpAny_assignInOrder_more (wpAny_assign_Name (store_low fe lv (hst q (.head _)) a b fun h2 t2 kv l2 => ?_))
  have rr : ∀ {vs ds}, VDs s.heap vs ds → VDs h2 vs ds := by
   intro vs
   induction vs with
   | nil => intro ds q; cases q; exact .nil
   | cons v vs ih => intro ds q; cases q with | cons x y => exact .cons (kv _ _ x) (ih y)
  refine ih (fun q hq => hst q (.tail _ hq)) (rr r) c (by simpa using hl) l2 fun s' x' l' => h s' (X.tr (X.st _ _ _) x') ?_
  simpa using l'
theorem sx_names {ps : List (Str × Pos)} {elts : List Expr} {k : Nat} {tpos pos : Pos} {value : Expr} {ds : List D} (fe : Fe env) (hst : ∀ q ∈ ps, Stored env q.1) (hv : ∀ h, LV h₀ F env σ O h → EV w n env h value (.tuple ds)) (hlo : Lows ds) (hl : ps.length = ds.length)
  (he : (assignEach elts env).map (·.2) = ps.map fun q => assign (.Name q.1 q.2) env) (hn : (assignEach elts env).length = ds.length) (hstar : (assignEach elts env).findIdx? (·.1) = none)
  (hs : swapsWithSole [.Tuple elts k tpos] value pos.line env = pure false := by rfl)
  (hw : swappedStores [.Tuple elts k tpos] value env = pure none := by rfl) :
  SX X w n env h₀ F (exec (.Assign [.Tuple elts k tpos] value pos) env) σ O (.next (((ps.map (·.1)).zip ds).reverse ++ σ) ((ps.map (·.1)).foldl less O)) := fun A E s Q ok lv p => by
 refine Assign_Tuple (hv _ lv A E s _ ok.1 (stays_refl _) fun v h1 t1 k1 v1 => ?_) hs hw
 obtain ⟨a, m, vs, rfl, na, ea, sl⟩ := VD.tupleE v1
 refine assign_Tuple_tuple ok.1.hd ⟨_, ea, rfl, _, rfl⟩ (by rw [hn, List.size_toArray, sl.length]) hstar fun h2 x2 => ?_
 rw [he]
 have k2 := stays_ext x2
 exact assign_names (X := X) fe hst (sl.keep k2) hlo hl ((lv.keep k1).keep k2) fun s' x' l' => p s' (X.tr (X.st _ _ _) x') l'
end
end Mine
-- MD15
namespace Mine
noncomputable def CVF (w : World) (n : Nat) (h : Heap) (f : Value) (ds : List D) (r : D) (fr : Bool) : Prop :=
 ∀ (A : Around) (E : Value → Shared → Prop) (s : Shared) (Q : Value → Shared → Prop) (vs : List Value), Ok n A → h.StaysIn s.heap → VDs s.heap vs ds →
  (∀ v h' tk, s.heap.StaysIn h' → VD h' v r → (fr = true → ∀ a, v = .ref a → s.heap.get? a = none) → Q v { s with heap := h', toks := tk }) → wpAny (model PW w) A (call f vs) Q E s
theorem CVF.cv {w : World} {n : Nat} {h : Heap} {f : Value} {ds : List D} {r : D} {fr : Bool} (x : CVF w n h f ds r fr) : CV w n h f ds r := fun A E s Q vs ok st hv hQ => x A E s Q vs ok st hv fun v h' tk k hr _ => hQ v h' tk k hr
theorem lookup_zip_of {α β : Type} [BEq α] [LawfulBEq α] : ∀ {l : List α} {m : List β} {x : α} {y : β}, (l.zip m).lookup x = some y → ∃ i : Nat, l[i]? = some x ∧ m[i]? = some y
 | [], _, _, _, h => by simp at h
 | _ :: _, [], _, _, h => by simp at h
 | a :: l, b :: m, x, y, h => by
  rw [List.zip_cons_cons, List.lookup_cons] at h
  by_cases q : x == a
  ·rw [q] at h
   have : x = a := by simpa using q
   subst this
   cases h
   exact ⟨0, rfl, rfl⟩
  ·rw [Bool.eq_false_iff.mpr q] at h
   obtain ⟨i, e1, e2⟩ := lookup_zip_of h
   exact ⟨i + 1, by simpa using e1, by simpa using e2⟩
theorem lookup_zip_at {α β : Type} [BEq α] [LawfulBEq α] : ∀ {l : List α} {m : List β} {x : α} {y : β} {i : Nat}, l.Nodup → l[i]? = some x → m[i]? = some y → (l.zip m).lookup x = some y
 | [], _, _, _, i, _, h, _ => by simp at h
 | _ :: _, [], _, _, i, _, _, h => by simp at h
 | a :: l, b :: m, x, y, 0, _, h, h' => by
  simp at h h'
  subst h h'
  simp
 | a :: l, b :: m, x, y, i + 1, nd, h, h' => by
  have h1 : l[i]? = some x := by simpa using h
  have h2 : m[i]? = some y := by simpa using h'
  rw [List.zip_cons_cons, List.lookup_cons]
  have : (x == a) = false := by
   rw [beq_eq_false_iff_ne]
   intro q
   subst q
   exact (List.nodup_cons.mp nd).1 (List.mem_of_getElem? h1)
  rw [this]
  exact lookup_zip_at (List.nodup_cons.mp nd).2 h1 h2
theorem lookup_rev {α β : Type} [BEq α] [LawfulBEq α] {l : List α} {m : List β} {x : α} {y : β} {i : Nat} (nd : l.Nodup) (hl : l.length = m.length) (h1 : l[i]? = some x) (h2 : m[i]? = some y) : (l.zip m).reverse.lookup x = some y := by
 have e : (l.zip m).reverse = l.reverse.zip m.reverse := by
  rw [List.zip_eq_zipWith, List.zip_eq_zipWith, List.reverse_zipWith hl]
 rw [e]
 have hi : i < l.length := (List.getElem?_eq_some_iff.mp h1).1
 refine lookup_zip_at (i := l.length - 1 - i) (List.pairwise_reverse.mpr (nd.imp fun q => q.symm)) ?_ ?_
 ·rw [List.getElem?_reverse (by omega), show l.length - 1 - (l.length - 1 - i) = i from by omega]; exact h1
 ·rw [List.getElem?_reverse (by omega), show m.length - 1 - (l.length - 1 - i) = i from by omega]; exact h2
section
variable {w : World} {n : Nat} {h b : Heap}
theorem VDs.at {h : Heap} {vs : List Value} {ds : List D} (x : VDs h vs ds) {i : Nat} {v : Value} (e : vs[i]? = some v) : ∃ d, ds[i]? = some d ∧ VD h v d := by
 have hi : i < ds.length := by rw [← x.length]; exact (List.getElem?_eq_some_iff.mp e).1
 obtain ⟨u, e1, e2⟩ := x.get (List.getElem?_eq_getElem hi)
 rw [e] at e1; cases e1
 exact ⟨_, List.getElem?_eq_getElem hi, e2⟩
theorem cv_def {name qual : Str} {params : Arguments} {body : List Stmt} {scope : Scope} {dV kV doc pm cdv ct oc : Value} {an od : Option Addr} {osl : Array (Option Value)} {f : Addr} {names : List Str} {ds : List D} {r : D} {fr : Bool}
  (G : Gr w b) (bs : b.StaysIn h) (hbig : Big h)
  (ho : (hd.heap_1 w.params).lookup f = some ⟨oc, od, .func (fnX name qual params body scope [] dV kV doc pm an cdv ct), osl⟩)
  (hcd : codeIn (hd.heap_1 w.params) cdv qual = true)
  (hbind : ∀ s vs, vs.length = names.length → BindsTo s (fnX name qual params body scope [] dV kV doc pm an cdv ct) ⟨vs, []⟩ (names.zip vs))
  (hlen : names.length = ds.length) (hnd : names.Nodup) (hloc : ∀ y ∈ names, scope.names.lookup y = some .local)
  (hfl : ∀ d ∈ ds, Flat d) (hone : ∀ (i j : Nat) l m, ds[i]? = some (.list l) → ds[j]? = some (.list m) → i = j)
  (hcell : ∀ x ∈ scope.names, x.2 ≠ .cell)
  (hbody : ∀ h₀ F L', Bs b h₀ F → Fe (envX qual scope L' f cdv []) → SX XF w n (envX qual scope L' f cdv []) h₀ F (execs body (envX qual scope L' f cdv [])) (names.zip ds) [] (.ret r fr))
  (hco : scope.isCoroutine = false := by rfl) (hgen : scope.isGenerator = false := by rfl) (hk : scope.kind = .function := by rfl) : CVF w (n + 1) h (.ref f) ds r fr := fun A E s Q vs ok st hv hQ => by
 obtain ⟨mean, mg, mb, T⟩ := G.t
 have bs' := stays_trans bs st
 have hvl : vs.length = names.length := by rw [hv.length, hlen]
 refine wpAny_call (codeAny_call_def (fd := fnX name qual params body scope [] dV kV doc pm an cdv ct) (body := body) (binds := names.zip vs) ?_ (bs' _ _ (G.k _ _ ho)) rfl (T.nolimit.keeps bs') (codeRec_of (fun a o e => bs' a o (G.k a o e)) hcd) rfl (hbind s vs hvl) hcell ?_ (fun h₁ hns hk₁ => ?_) hco hgen hk)
 ·have := ok.dp
  show A.depth < 1000
  omega
 ·intro y hy
  exact hloc y.1 (List.of_mem_zip (a := y.1) (b := y.2) hy).1
 ·have hke : ∀ y, (callEnv (fnX name qual params body scope [] dV kV doc pm an cdv ct) s.heap.objs.size f).kindOf y = scope.names.lookup y := fun y => rfl
  have lv : LV s.heap (fun c => ∃ o, s.heap.get? c = some o) (envX qual scope s.heap.objs.size f cdv []) (names.zip ds) [] h₁ := by
   refine ⟨fun c o _ e => hk₁ c o e, fun c f => f, (hbig.up st).up hk₁, ⟨_, hns⟩, fun ⟨o, e⟩ => absurd (Heap.lt_size e) (Nat.lt_irrefl _), (fun x c _ l => nomatch l), (fun x y c _ _ l => nomatch l), ?_, ?_, ?_, (fun x a l q => nomatch q)⟩
   ·intro x d e
    obtain ⟨i, e1, e2⟩ := lookup_zip_of e
    obtain ⟨v, e3, e4⟩ := hv.get e2
    exact ⟨v, .inl ⟨hloc x (List.mem_of_getElem? e1), _, hns, lookup_rev hnd hvl.symm e1 e3⟩, e4.keep hk₁⟩
   ·intro x d e
    obtain ⟨i, e1, e2⟩ := lookup_zip_of e
    exact .inl (hfl d (List.mem_of_getElem? e2))
   ·intro x y a l m ne hx hy ax ay
    obtain ⟨i, e1, e2⟩ := lookup_zip_of hx
    obtain ⟨j, f1, f2⟩ := lookup_zip_of hy
    have := hone i j l m e2 f2
    subst this
    rw [e1] at f1
    cases f1
    exact ne rfl
  have fe : Fe (envX qual scope s.heap.objs.size f cdv []) := ⟨hk, rfl, rfl⟩
  refine hbody s.heap _ s.heap.objs.size (fun c o e => ⟨⟨o, bs' c o e⟩, bs' c o e⟩) fe _ _ _ _ ⟨ok.deeper, trivial⟩ lv ?_
  intro v s' x st' bg' hv' hf'
  have x' : s' = { s with heap := s'.heap, toks := s'.toks } := x
  rw [x']
  refine hQ v _ _ (fun c o e => st' c o ⟨o, e⟩ e) hv' fun q a e => ?_
  cases g : s.heap.get? a with
  | none => rfl
  | some o => exact absurd ⟨o, g⟩ (hf' q a e)
end
end Mine
-- MD16
namespace Mine
section
variable {X : XRel} {w : World} {n : Nat} {env : Env} {h₀ h b : Heap} {F : Addr → Prop} {σ σ' : List (Str × D)} {O O' : List Str} {o : Out}
theorem sx_if_true {test : Expr} {body orelse : List Stmt} {pos : Pos} (ht : ∀ h, LV h₀ F env σ O h → BV w n env h test true)
  (h1 : SX X w n env h₀ F (execs body env) σ O o) : SX X w n env h₀ F (exec (.If test body orelse pos) env) σ O o := sx_if ht (fun _ => h1) fun q => nomatch q
theorem sx_if_false {test : Expr} {body orelse : List Stmt} {pos : Pos} (ht : ∀ h, LV h₀ F env σ O h → BV w n env h test false)
  (h1 : SX X w n env h₀ F (execs orelse env) σ O o) : SX X w n env h₀ F (exec (.If test body orelse pos) env) σ O o := sx_if ht (fun q => nomatch q) fun _ => h1
theorem ev_eq {e : Expr} {d d' : D} (x : EV w n env h e d) (q : d = d') : EV w n env h e d' := q ▸ x
theorem evf_eq {e : Expr} {d d' : D} (x : EVF w n env h e d) (q : d = d') : EVF w n env h e d' := q ▸ x
theorem bv_eq {e : Expr} {d d' : Bool} (x : BV w n env h e d) (q : d = d') : BV w n env h e d' := q ▸ x
theorem ev_strS {x : Str} {k : Nat} {pos : Pos} : EV w n env h (.Constant (.str x) k pos) (.str (S x.cps.toList)) := by rw [S_of]; exact ev_str
theorem ev_globalD {x : Str} {pos : Pos} {v : Value} {d : D} (fe : Fe env) (G : Gr w b) (st : b.StaysIn h) (e : nsIn (hd.heap_1 w.params) mainGlobals x = some (some v)) (hv : ∀ h, VD h v d) (hx : env.kindOf x = some .globalImplicit)
  (hd : (x == ("__debug__" : Str)) = false := by decide) : EV w n env h (.Name x pos) d := fun A E s Q ok st' hQ =>
 ev_global fe G st e hx hd A E s Q ok st' fun v' h' tk k hv' => by obtain rfl := VD.conE hv'; exact hQ _ h' tk k (hv h')
theorem cv_lower {x y : List Nat} (e : Txt.lower (S x) = S y) (hf : Builtin.Str.tooLong (Txt.lower (S x)).length = false) : CV w n h (.builtin "str.lower") [.str (S x)] (.str (S y)) := fun A E s Q vs ok st hv hQ => by
 obtain ⟨_, _, rfl, a, r⟩ := VDs.consE hv; obtain rfl := VDs.nilE r; obtain ⟨_, rfl⟩ := VD.strE a; exact SC.lower hf (by rw [e]; exact hQ _ _ _ (stays_refl _) (.str _ _))
noncomputable def Dig (c : Nat) : Prop := 49 ≤ c ∧ c ≤ 57
theorem lower_dig {c : Nat} (hc : Dig c) : Txt.lower (S [c]) = S [c] ∧ Builtin.Str.tooLong (Txt.lower (S [c])).length = false := by
 obtain ⟨h1, h2⟩ := hc
 have : c = 49 ∨ c = 50 ∨ c = 51 ∨ c = 52 ∨ c = 53 ∨ c = 54 ∨ c = 55 ∨ c = 56 ∨ c = 57 := by omega
 rcases this with rfl | rfl | rfl | rfl | rfl | rfl | rfl | rfl | rfl <;> decide +kernel
end
set_option maxHeartbeats 4000000 in
theorem cost_cv {w : World} {n : Nat} {h b : Heap} (G : Gr w b) (bs : b.StaysIn h) (hbig : Big h) {c d : Nat} (hc : Dig c) (hd' : Dig d) : CVF w (n + 1) h (.ref 233) [.str (S [c]), .str (S [d])] (.int (if c = d then 0 else 2)) false := by
 have hh := Eq.refl (PySem.Challenge.rw_xl0021_01, hd.heap_1)
 revert hh
 k_fill
 intro _
 refine' cv_def (names := [Str.ofString "ch_a", Str.ofString "ch_b"]) G bs hbig ?k1 ?k2 ?k3 rfl ?k4 ?k5 ?k6 ?k7 ?k8 ?k9 ?k10 ?k11 ?k12
 case k1 => k_is
 case k2 => k_is
 case k3 =>
  intro s vs hl
  obtain ⟨a, b, rfl⟩ : ∃ a b, vs = [a, b] := by
   match vs, hl with | [a, b], _ => exact ⟨a, b, rfl⟩
  exact BindsTo.of_eq rfl
 case k4 => decide
 case k5 => decide
 case k6 => intro x hx; simp at hx; rcases hx with rfl | rfl <;> exact .inl (.str _)
 case k7 =>
  intro i j l m hi hj
  have : ∀ (i : Nat) l, [D.str (S [c]), D.str (S [d])][i]? = some (.list l) → False := by
   intro i l hi
   match i with
   | 0 => cases hi
   | 1 => cases hi
   | i + 2 => simp at hi
  exact (this i l hi).elim
 case k8 => decide
 case k10 => rfl
 case k11 => rfl
 case k12 => rfl
 case k9 =>
  intro h₀ F L' hb fe
  by_cases q : c = d
  ·subst q
   rw [if_pos rfl]
   refine sx_cons_ret (sx_if_true (fun h lv => bv_eq (bv_cmp (ev_name fe lv rfl) (ev_name fe lv rfl) cmp_eqs) (by simp)) (sx_one (sx_return fun h lv => ev_int)))
  ·rw [if_neg q]
   refine sx_cons (sx_if_false (fun h lv => bv_eq (bv_cmp (ev_name fe lv rfl) (ev_name fe lv rfl) cmp_eqs) (by simpa using q)) sx_nil) ?_
   refine sx_cons (sx_if_false (fun h lv => bv_eq (bv_cmp (ev_method_str0 (ev_name fe lv rfl) PySem.F.plainAttrs_str PySem.F.slot_str_lower PySem.F.type_str_lower (cv_lower (lower_dig hc).1 (lower_dig hc).2)) (ev_method_str0 (ev_name fe lv rfl) PySem.F.plainAttrs_str PySem.F.slot_str_lower PySem.F.type_str_lower (cv_lower (lower_dig hd').1 (lower_dig hd').2)) cmp_eqs) (by simpa using q)) sx_nil) ?_
   exact sx_one (sx_return fun h lv => ev_globalD fe G (hb.stays lv) (by k_is) (fun h => .int _ _) rfl)
end Mine
-- MD17
namespace Mine
section
variable {X : XRel} {w : World} {n : Nat} {env : Env} {h₀ h b : Heap} {F : Addr → Prop} {σ σ' : List (Str × D)} {O O' : List Str} {o : Out}
theorem cvf_list_range {a c d : Int} {k : Nat} (hb : Big h) (hs : Builtin.Range.small a c d = true) (hk : Builtin.Range.rangeSize a c d = k) (hz : k ≤ 2 ^ 24) : CVF w n h (.type "list") [.range a c d] (.list (RG a d k)) true := fun A E s Q vs ok st hv hQ => by
 obtain ⟨_, _, rfl, x, r⟩ := VDs.consE hv
 obtain rfl := VDs.nilE r
 cases x with
 | range nt e =>
  refine PySem.call_list_range ok.hd e hs hk hz fun h' tk acc cc kp e2 hi => ?_
  refine hQ _ _ _ kp ?_ (fun _ a q => by cases q; exact fresh_size _)
  obtain ⟨acl⟩ := acc
  refine .list (hb.up st).size e2 ?_
  have hl : acl.length = k := by simpa using hi.1
  have hi2 := hi.2
  clear hi
  have key : ∀ (l : List Value) (m : List D), l.length = m.length → (∀ (j : Nat) v, l[j]? = some v → ∃ d, m[j]? = some d ∧ VD h' v d) → VDs h' l m := by
   intro l
   induction l with
   | nil => intro m hm _; cases m with | nil => exact .nil | cons _ _ => cases hm
   | cons v l ih =>
    intro m hm hj
    cases m with
    | nil => cases hm
    | cons d m =>
     obtain ⟨d', e1, e2⟩ := hj 0 v rfl
     have : d = d' := by simpa using e1
     subst this
     exact .cons e2 (ih m (by simpa using hm) fun j u hu => by simpa using hj (j + 1) u (by simpa using hu))
  refine key _ _ (by simp [hl]) fun j v hj => ?_
  obtain ⟨t, rfl⟩ := hi2 j v (by simpa using hj)
  have hjk : j < k := by rw [← hl]; exact (List.getElem?_eq_some_iff.mp hj).1
  exact ⟨.int (a + j * d), by rw [List.getElem?_map, List.getElem?_range hjk]; rfl, .int _ _⟩
theorem pv_or_none {e : Expr} {p : Pos} {k : Nat} {pc : Pos} {i : Int} (x : EV w n env h e (.int i)) : PV w n env h (some (.BoolOp .Or [e, .Constant .none k pc] p)) (if i = 0 then none else some i) := fun A E s Q ok st hQ => by
 rw [evalPart_some]
 refine BoolOp_or (x A E s _ ok st fun v h1 t1 k1 v1 => ?_)
 obtain ⟨t, rfl⟩ := VD.intE v1
 refine truthy_int ?_
 by_cases q : i = 0
 ·subst q
  rw [show ((0 : Int) != 0) = false from rfl, if_neg (by decide)]
  exact BoolOp_one (wpAny_pure (hQ none h1 t1 k1 rfl))
 ·rw [show (i != 0) = true from by simpa using q, if_pos rfl]
  exact hQ (some (i, t)) h1 t1 k1 (by simp [q])
theorem evf_call {x : Str} {p pos : Pos} {e : Expr} {es : List Expr} {ds : List D} {f : Value} {r : D} (hf : EV w n env h (.Name x p) (.con f)) (ha : AV w n env h pos (e :: es) ds) (hc : CVF w n h f ds r true)
  (hk : (∃ id, f = .builtin id) ∨ (∃ T, f = .type T) ∨ (∃ a o fd, f = .ref a ∧ h.get? a = some o ∧ o.data = .func fd))
  (hs : ((backTo pos (starEach (e :: es) env)).any fun x => x.1) = false := by rfl)
  (hn : starEach (e :: es) env = (false, eval e env) :: starEach es env := by rfl) : EVF w n env h (.Call (.Name x p) (e :: es) [] pos) r := fun A E s Q ok st hQ => by
 refine wpAny_Call_Name_kw (hf A E s _ ok st fun v h1 t1 k1 v1 => ?_)
 obtain rfl := (VD.conE v1).symm
 have fin : ∀ vs h' tk, h1.StaysIn h' → VDs h' vs ds → wpAny (model PW w) A (call f ([] ++ vs) []) Q E { s with heap := h', toks := tk } := fun vs h2 t2 k2 v2 =>
  hc A E { s with heap := h2, toks := t2 } Q vs ok (stays_trans st (stays_trans k1 k2)) v2 fun v h3 t3 k3 v3 f3 => hQ v h3 t3 (stays_trans k1 (stays_trans k2 k3)) v3 fun a q => not_old (stays_trans k1 k2) (f3 rfl a q)
 rcases hk with ⟨id, rfl⟩ | ⟨T, rfl⟩ | ⟨a, o, fd, rfl, ho, hd⟩
 ·exact callWith_builtin hs (wp_evalArgs ha ok (stays_trans st k1) fin hn)
 ·exact PySem.callWith_type hs (wp_evalArgs ha ok (stays_trans st k1) fin hn)
 ·exact callWith_function (o := o) (fd := fd) (wp_evalArgs ha ok (stays_trans st k1) (fun vs h2 t2 k2 v2 => ⟨⟨k2 _ _ (k1 _ _ (st _ _ ho)), hd⟩, fin vs h2 t2 k2 v2⟩) hn)
theorem sx_both {x y : Str} {p1 p2 pos : Pos} {value : Expr} {d : D} (fe : Fe env) (hx : Stored env x) (hy : Stored env y) (he : ∀ h, LV h₀ F env σ O h → EV w n env h value d) (hf : Low d)
  (hs : (assignEach [.Name x p1, .Name y p2] env).map (·.2) = [assign (.Name x p1) env, assign (.Name y p2) env] := by rfl)
  (hw : swappedStores [.Name x p1, .Name y p2] value env = pure none := by rfl) :
  SX X w n env h₀ F (exec (.Assign [.Name x p1, .Name y p2] value pos) env) σ O (.next ((y, d) :: (x, d) :: σ) (less (less O x) y)) := fun A E s Q ok lv p =>
 wpAny_Assign_two (he _ lv A E s _ ok.1 (stays_refl _) fun v h' tk k hv => wpAny_assign_Name (store_low fe (lv.keep k) hx hv hf fun h2 tk2 kv lv2 =>
  wpAny_assign_Name (store_low fe lv2 hy (kv _ _ hv) hf fun h3 tk3 _ lv3 => p _ (X.st _ _ _) lv3))) hs hw
theorem evf_addl {l r : Expr} {pos : Pos} {x y : List D} (hb : Big h) (hl : EV w n env h l (.list x)) (hr : EV w n env h r (.list y)) (hz : x.length + y.length ≤ sizeLine) : EVF w n env h (.BinOp l .Add r pos) (.list (x ++ y)) := fun A E s Q ok st hQ =>
 wpAny_BinOp (hl A E s _ ok st fun u h1 t1 k1 v1 => hr A E _ _ ok (stays_trans st k1) fun v h2 t2 k2 v2 => by
  have v1' := v1.keep k2
  obtain ⟨_, _, _, rfl, ha, ea, sa⟩ := VD.listE v1'
  obtain ⟨_, _, _, rfl, hb', eb, sb⟩ := VD.listE v2
  refine P.add_list ea eb (hQ _ _ _ (stays_trans k1 (stays_trans k2 (stays_push _ _))) ?_ (fun a q => by cases q; exact not_old (stays_trans k1 k2) (fresh_size _))) (by rw [List.size_toArray, List.size_toArray, sa.length, sb.length]; exact hz)
  rw [List.append_toArray]
  exact vd_new_list (hb.up (stays_trans st (stays_trans k1 k2))) (sa.append sb))
theorem evf_list {es : List Expr} {pos : Pos} {ds : List D} (hb : Big h) (ha : AV w n env h pos es ds) (hz : ds.length ≤ sizeLine) : EVF w n env h (.List es pos) (.list ds) := fun A E s Q ok st hQ =>
 List_ (ha A E s _ ok st fun vs h1 t1 k1 v1 => wpAny_newObj_type (hQ _ _ _ (stays_trans k1 (stays_push _ _)) (vd_new_list (hb.up (stays_trans st k1)) v1) (fun a q => by cases q; exact not_old k1 (fresh_size _))) (by show vs.toArray.size ≤ sizeLine; rw [List.size_toArray, v1.length]; exact hz))
theorem evf_tuple {es : List Expr} {k : Nat} {pos : Pos} {ds : List D} (hb : Big h) (ha : AV w n env h pos es ds) (hz : ds.length ≤ sizeLine) : EVF w n env h (.Tuple es k pos) (.tuple ds) := fun A E s Q ok st hQ =>
 Tuple_ (ha A E s _ ok st fun vs h1 t1 k1 v1 => wpAny_newTuple (hQ _ _ _ (stays_trans k1 (stays_push _ _)) (vd_new_tuple (hb.up (stays_trans st k1)) v1) (fun a q => by cases q; exact not_old k1 (fresh_size _))) (by rw [v1.length]; exact hz))
theorem cv_of_ref {x : Str} {f : Addr} {o : Obj} {fd : FuncData} {b h : Heap} {w : World} (G : Gr w b) (st : b.StaysIn h) (ho : (hd.heap_1 w.params).lookup f = some o) (hd' : o.data = .func fd) : ∃ a o fd, Value.ref f = .ref a ∧ h.get? a = some o ∧ o.data = .func fd :=
 ⟨f, o, fd, rfl, st _ _ (G.k _ _ ho), hd'⟩
end
end Mine
-- MD18
namespace Mine
theorem sub_nil {σ : List (Str × D)} : Sub [] σ := fun _ _ e => nomatch e
theorem sub_cons {σ r : List (Str × D)} {x : Str} {d : D} (h : σ.lookup x = some d) (hr : Sub r σ) : Sub ((x, d) :: r) σ := fun y e q => by
 rw [List.lookup_cons] at q
 by_cases k : y == x
 ·rw [k] at q
  cases q
  have : y = x := by simpa using k
  rw [this]; exact h
 ·rw [Bool.eq_false_iff.mpr k] at q
  exact hr y e q
noncomputable def lcp : List Nat → List Nat → Nat
 | a :: x, b :: y => if a = b then lcp x y + 1 else 0
 | _, _ => 0
theorem lcp_le : ∀ (x y : List Nat), lcp x y ≤ x.length ∧ lcp x y ≤ y.length
 | [], _ => by simp [lcp]
 | _ :: _, [] => by simp [lcp]
 | a :: x, b :: y => by
  have := lcp_le x y
  unfold lcp
  split <;> simp <;> omega
theorem lcp_test : ∀ (x y : List Nat) (i : Nat), i ≤ lcp x y → decide (i < lcp x y) = ((decide (i < x.length) && decide (i < y.length)) && (x[i]? == y[i]?))
 | [], y, i, h => by simp [lcp]
 | a :: x, [], i, h => by simp [lcp]
 | a :: x, b :: y, 0, h => by
  unfold lcp
  by_cases q : a = b
  ·simp [q]
  ·simp [q]
 | a :: x, b :: y, i + 1, h => by
  unfold lcp at h ⊢
  by_cases q : a = b
  ·rw [if_pos q] at h ⊢
   have := lcp_test x y i (by omega)
   simp only [List.length_cons, List.getElem?_cons_succ, Nat.add_lt_add_iff_right] at this ⊢
   exact this
  ·rw [if_neg q] at h; omega
noncomputable def trimA (x y : List Nat) : List Nat := let x1 := x.drop (lcp x y); let y1 := y.drop (lcp x y); x1.take (x1.length - lcp x1.reverse y1.reverse)
noncomputable def trimB (x y : List Nat) : List Nat := let x1 := x.drop (lcp x y); let y1 := y.drop (lcp x y); y1.take (y1.length - lcp x1.reverse y1.reverse)
structure Cell where
 row : List Int
 dist : Int
 res : Int
 mn : Int
noncomputable def inn (a : List Nat) (c : Nat) (s : Cell) (i : Nat) : Cell :=
 let r := min (min s.res (s.row.getD i 0) + 2) (s.dist + if c = a.getD i 0 then 0 else 2)
 ⟨s.row.set i r, s.row.getD i 0, r, if r < s.mn then r else s.mn⟩
noncomputable def innN (a : List Nat) (c : Nat) (s : Cell) : Nat → Cell
 | 0 => s
 | i + 1 => inn a c (innN a c s i) i
noncomputable def big : Int := 9223372036854775807
noncomputable def outN (a b : List Nat) : Nat → Cell
 | 0 => ⟨(List.range a.length).map fun i : Nat => 2 + (i : Int) * 2, 0, 0, 0⟩
 | j + 1 => innN a (b.getD j 0) ⟨(outN a b j).row, (j : Int) * 2, (j : Int) * 2, big⟩ a.length
noncomputable def levAt (a b : List Nat) (m : Int) : Nat := (List.range b.length).findIdx fun j => decide (m < (outN a b (j + 1)).mn)
noncomputable def levDP (a b : List Nat) (m : Int) : Int := if levAt a b m < b.length then m + 1 else (outN a b b.length).res
noncomputable def lev (x y : List Nat) (m : Int) : Int :=
 if x = y then 0 else
 if (trimA x y).isEmpty then 2 * ((trimA x y).length + (trimB x y).length : Nat) else
 if m < 0 then m + 1 else levDP (trimA x y) (trimB x y) m
theorem trim_len {x y : List Nat} (h : x.length = y.length) : (trimA x y).length = (trimB x y).length := by
 unfold trimA trimB
 dsimp only
 simp only [List.length_take, List.length_drop, h]
theorem inn_len (a : List Nat) (c : Nat) (s : Cell) (i : Nat) : (inn a c s i).row.length = s.row.length := by simp [inn]
theorem innN_len (a : List Nat) (c : Nat) (s : Cell) (i : Nat) : (innN a c s i).row.length = s.row.length := by
 induction i with
 | zero => rfl
 | succ i ih => exact (inn_len ..).trans ih
theorem outN_len (a b : List Nat) (j : Nat) : (outN a b j).row.length = a.length := by
 induction j with
 | zero => simp [outN]
 | succ j ih => exact (innN_len ..).trans ih
section
variable {X : XRel} {w : World} {n : Nat} {env : Env} {h₀ h b : Heap} {F : Addr → Prop} {σ σ' : List (Str × D)} {O O' : List Str} {o : Out}
theorem bv_pos {e : Expr} {x : List Nat} (he : EV w n env h e (.str (S x))) (hx : x.length < 1000) (hs : isTrue e env (eval e env) = (do let v ← eval e env; standAt e.pos; holding [v] (truthy v)) := by with_unfolding_all rfl) : BV w n env h e (!x.isEmpty) :=
 bv_plain he (tru_str (by omega)) hs
theorem seq_at {i : Int} {n k : Nat} (h : k < n) (hi : i = k ∨ i = (k : Int) - n) : seqIndex? i n = some k := by
 unfold seqIndex?
 rcases hi with rfl | rfl
 ·split <;> simp <;> omega
 ·split <;> simp <;> omega
end
theorem g_len {w : World} : nsIn (hd.heap_1 w.params) mainGlobals "len" = some none := by
 have hh := Eq.refl (PySem.Challenge.rw_xl0021_01, hd.heap_1)
 revert hh
 k_fill
 intro _
 have e : nsIn (hd.heap_1 w.params) mainGlobals "len" = some none := by k_is
 exact e
theorem b_len : bootBuiltins "len" = some (.builtin "len") := by kernel_rfl
theorem g_list {w : World} : nsIn (hd.heap_1 w.params) mainGlobals "list" = some none := by
 have hh := Eq.refl (PySem.Challenge.rw_xl0021_01, hd.heap_1)
 revert hh
 k_fill
 intro _
 have e : nsIn (hd.heap_1 w.params) mainGlobals "list" = some none := by k_is
 exact e
theorem b_list : bootBuiltins "list" = some (.type "list") := by kernel_rfl
theorem g_range {w : World} : nsIn (hd.heap_1 w.params) mainGlobals "range" = some none := by
 have hh := Eq.refl (PySem.Challenge.rw_xl0021_01, hd.heap_1)
 revert hh
 k_fill
 intro _
 have e : nsIn (hd.heap_1 w.params) mainGlobals "range" = some none := by k_is
 exact e
theorem b_range : bootBuiltins "range" = some (.type "range") := by kernel_rfl
theorem g_min {w : World} : nsIn (hd.heap_1 w.params) mainGlobals "min" = some none := by
 have hh := Eq.refl (PySem.Challenge.rw_xl0021_01, hd.heap_1)
 revert hh
 k_fill
 intro _
 have e : nsIn (hd.heap_1 w.params) mainGlobals "min" = some none := by k_is
 exact e
theorem b_min : bootBuiltins "min" = some (.builtin "min") := by kernel_rfl
theorem g_max {w : World} : nsIn (hd.heap_1 w.params) mainGlobals "max" = some none := by
 have hh := Eq.refl (PySem.Challenge.rw_xl0021_01, hd.heap_1)
 revert hh
 k_fill
 intro _
 have e : nsIn (hd.heap_1 w.params) mainGlobals "max" = some none := by k_is
 exact e
theorem b_max : bootBuiltins "max" = some (.builtin "max") := by kernel_rfl
theorem g_str {w : World} : nsIn (hd.heap_1 w.params) mainGlobals "str" = some none := by
 have hh := Eq.refl (PySem.Challenge.rw_xl0021_01, hd.heap_1)
 revert hh
 k_fill
 intro _
 have e : nsIn (hd.heap_1 w.params) mainGlobals "str" = some none := by k_is
 exact e
theorem b_str : bootBuiltins "str" = some (.type "str") := by kernel_rfl
theorem g_int {w : World} : nsIn (hd.heap_1 w.params) mainGlobals "int" = some none := by
 have hh := Eq.refl (PySem.Challenge.rw_xl0021_01, hd.heap_1)
 revert hh
 k_fill
 intro _
 have e : nsIn (hd.heap_1 w.params) mainGlobals "int" = some none := by k_is
 exact e
theorem b_int : bootBuiltins "int" = some (.type "int") := by kernel_rfl
theorem g_chr {w : World} : nsIn (hd.heap_1 w.params) mainGlobals "chr" = some none := by
 have hh := Eq.refl (PySem.Challenge.rw_xl0021_01, hd.heap_1)
 revert hh
 k_fill
 intro _
 have e : nsIn (hd.heap_1 w.params) mainGlobals "chr" = some none := by k_is
 exact e
theorem b_chr : bootBuiltins "chr" = some (.builtin "chr") := by kernel_rfl
theorem g_sum {w : World} : nsIn (hd.heap_1 w.params) mainGlobals "sum" = some none := by
 have hh := Eq.refl (PySem.Challenge.rw_xl0021_01, hd.heap_1)
 revert hh
 k_fill
 intro _
 have e : nsIn (hd.heap_1 w.params) mainGlobals "sum" = some none := by k_is
 exact e
theorem b_sum : bootBuiltins "sum" = some (.builtin "sum") := by kernel_rfl
section
variable {w : World} {n : Nat} {env : Env} {h b : Heap}
theorem av_one {pos : Pos} {e : Expr} {d : D} (he : EV w n env h e d) (hn : starEach [e] env = (false, eval e env) :: starEach [] env := by rfl) : AV w n env h pos [e] [d] := av_cons he av_nil hn
theorem av_two {pos : Pos} {e f : Expr} {d c : D} (he : EV w n env h e d) (hf : EV w n env h f c) (hn : starEach [e, f] env = (false, eval e env) :: starEach [f] env := by rfl) (hm : starEach [f] env = (false, eval f env) :: starEach [] env := by rfl) : AV w n env h pos [e, f] [d, c] := av_cons he (av_cons hf av_nil hm) hn
theorem av_three {pos : Pos} {e f g : Expr} {d c a : D} (he : EV w n env h e d) (hf : EV w n env h f c) (hg : EV w n env h g a) (hn : starEach [e, f, g] env = (false, eval e env) :: starEach [f, g] env := by rfl) (hm : starEach [f, g] env = (false, eval f env) :: starEach [g] env := by rfl) (hl : starEach [g] env = (false, eval g env) :: starEach [] env := by rfl) : AV w n env h pos [e, f, g] [d, c, a] := av_cons he (av_cons hf (av_cons hg av_nil hl) hm) hn
theorem ev_len {e : Expr} {p pos : Pos} {x : List Nat} (fe : Fe env) (G : Gr w b) (st : b.StaysIn h) (he : EV w n env h e (.str (S x))) (hx : x.length < 1000000) (hk : env.kindOf (Str.ofString "len") = some .globalImplicit := by rfl)
  (hs : ((backTo pos (starEach [e] env)).any fun x => x.1) = false := by rfl) (hn : starEach [e] env = (false, eval e env) :: starEach [] env := by rfl) : EV w n env h (.Call (.Name (Str.ofString "len") p) [e] [] pos) (.int x.length) :=
 ev_call (ev_builtin fe G st g_len b_len (by decide) hk) (av_one he hn) (cv_len_str (by omega)) (.inl ⟨_, rfl⟩) hs hn
theorem ev_lenl {e : Expr} {p pos : Pos} {x : List D} (fe : Fe env) (G : Gr w b) (st : b.StaysIn h) (he : EV w n env h e (.list x)) (hx : x.length < 1000000) (hk : env.kindOf (Str.ofString "len") = some .globalImplicit := by rfl)
  (hs : ((backTo pos (starEach [e] env)).any fun x => x.1) = false := by rfl) (hn : starEach [e] env = (false, eval e env) :: starEach [] env := by rfl) : EV w n env h (.Call (.Name (Str.ofString "len") p) [e] [] pos) (.int x.length) :=
 ev_call (ev_builtin fe G st g_len b_len (by decide) hk) (av_one he hn) (cv_len_list (by omega)) (.inl ⟨_, rfl⟩) hs hn
theorem ev_min {e f : Expr} {p pos : Pos} {i j : Int} (fe : Fe env) (G : Gr w b) (st : b.StaysIn h) (he : EV w n env h e (.int i)) (hf : EV w n env h f (.int j)) (hk : env.kindOf (Str.ofString "min") = some .globalImplicit := by rfl)
  (hs : ((backTo pos (starEach [e, f] env)).any fun x => x.1) = false := by rfl) (hn : starEach [e, f] env = (false, eval e env) :: starEach [f] env := by rfl) (hm : starEach [f] env = (false, eval f env) :: starEach [] env := by rfl) : EV w n env h (.Call (.Name (Str.ofString "min") p) [e, f] [] pos) (.int (min i j)) :=
 ev_call (ev_builtin fe G st g_min b_min (by decide) hk) (av_two he hf hn hm) cv_min (.inl ⟨_, rfl⟩) hs hn
theorem ev_max {e f : Expr} {p pos : Pos} {i j : Int} (fe : Fe env) (G : Gr w b) (st : b.StaysIn h) (he : EV w n env h e (.int i)) (hf : EV w n env h f (.int j)) (hk : env.kindOf (Str.ofString "max") = some .globalImplicit := by rfl)
  (hs : ((backTo pos (starEach [e, f] env)).any fun x => x.1) = false := by rfl) (hn : starEach [e, f] env = (false, eval e env) :: starEach [f] env := by rfl) (hm : starEach [f] env = (false, eval f env) :: starEach [] env := by rfl) : EV w n env h (.Call (.Name (Str.ofString "max") p) [e, f] [] pos) (.int (max i j)) :=
 ev_call (ev_builtin fe G st g_max b_max (by decide) hk) (av_two he hf hn hm) cv_max (.inl ⟨_, rfl⟩) hs hn
theorem ev_range1 {e : Expr} {p pos : Pos} {i : Int} (fe : Fe env) (G : Gr w b) (st : b.StaysIn h) (hb : Big h) (he : EV w n env h e (.int i)) (hk : env.kindOf (Str.ofString "range") = some .globalImplicit := by rfl)
  (hs : ((backTo pos (starEach [e] env)).any fun x => x.1) = false := by rfl) (hn : starEach [e] env = (false, eval e env) :: starEach [] env := by rfl) : EV w n env h (.Call (.Name (Str.ofString "range") p) [e] [] pos) (.range 0 i 1) :=
 ev_call (ev_builtin fe G st g_range b_range (by decide) hk) (av_one he hn) (cv_range1 hb) (.inr (.inl ⟨_, rfl⟩)) hs hn
theorem ev_range2 {e f : Expr} {p pos : Pos} {i j : Int} (fe : Fe env) (G : Gr w b) (st : b.StaysIn h) (hb : Big h) (he : EV w n env h e (.int i)) (hf : EV w n env h f (.int j)) (hk : env.kindOf (Str.ofString "range") = some .globalImplicit := by rfl)
  (hs : ((backTo pos (starEach [e, f] env)).any fun x => x.1) = false := by rfl) (hn : starEach [e, f] env = (false, eval e env) :: starEach [f] env := by rfl) (hm : starEach [f] env = (false, eval f env) :: starEach [] env := by rfl) : EV w n env h (.Call (.Name (Str.ofString "range") p) [e, f] [] pos) (.range i j 1) :=
 ev_call (ev_builtin fe G st g_range b_range (by decide) hk) (av_two he hf hn hm) (cv_range2 hb) (.inr (.inl ⟨_, rfl⟩)) hs hn
theorem ev_range3 {e f g : Expr} {p pos : Pos} {i j k : Int} (fe : Fe env) (G : Gr w b) (st : b.StaysIn h) (hb : Big h) (he : EV w n env h e (.int i)) (hf : EV w n env h f (.int j)) (hg : EV w n env h g (.int k)) (hk0 : k ≠ 0) (hks : k.natAbs < 1073741824) (hk : env.kindOf (Str.ofString "range") = some .globalImplicit := by rfl)
  (hs : ((backTo pos (starEach [e, f, g] env)).any fun x => x.1) = false := by rfl) (hn : starEach [e, f, g] env = (false, eval e env) :: starEach [f, g] env := by rfl) (hm : starEach [f, g] env = (false, eval f env) :: starEach [g] env := by rfl) (hl : starEach [g] env = (false, eval g env) :: starEach [] env := by rfl) : EV w n env h (.Call (.Name (Str.ofString "range") p) [e, f, g] [] pos) (.range i j k) :=
 ev_call (ev_builtin fe G st g_range b_range (by decide) hk) (av_three he hf hg hn hm hl) (cv_range3 hb hk0 (PyProof.noPylong_small hks)) (.inr (.inl ⟨_, rfl⟩)) hs hn
theorem ev_fn {x : Str} {p pos : Pos} {e : Expr} {es : List Expr} {ds : List D} {f : Addr} {r : D} {o : Obj} {fd : FuncData} (fe : Fe env) (G : Gr w b) (st : b.StaysIn h) (g : nsIn (hd.heap_1 w.params) mainGlobals x = some (some (.ref f))) (ho : (hd.heap_1 w.params).lookup f = some o) (hd' : o.data = .func fd)
  (ha : AV w n env h pos (e :: es) ds) (hc : CV w n h (.ref f) ds r) (hk : env.kindOf x = some .globalImplicit)
  (hd : (x == ("__debug__" : Str)) = false := by decide)
  (hs : ((backTo pos (starEach (e :: es) env)).any fun x => x.1) = false := by rfl)
  (hn : starEach (e :: es) env = (false, eval e env) :: starEach es env := by rfl) : EV w n env h (.Call (.Name x p) (e :: es) [] pos) r :=
 ev_call (ev_global fe G st g hk hd) ha hc (.inr (.inr (cv_of_ref (w := w) (x := x) G st ho hd'))) hs hn
theorem evf_fn {x : Str} {p pos : Pos} {e : Expr} {es : List Expr} {ds : List D} {f : Addr} {r : D} {o : Obj} {fd : FuncData} (fe : Fe env) (G : Gr w b) (st : b.StaysIn h) (g : nsIn (hd.heap_1 w.params) mainGlobals x = some (some (.ref f))) (ho : (hd.heap_1 w.params).lookup f = some o) (hd' : o.data = .func fd)
  (ha : AV w n env h pos (e :: es) ds) (hc : CVF w n h (.ref f) ds r true) (hk : env.kindOf x = some .globalImplicit)
  (hd : (x == ("__debug__" : Str)) = false := by decide)
  (hs : ((backTo pos (starEach (e :: es) env)).any fun x => x.1) = false := by rfl)
  (hn : starEach (e :: es) env = (false, eval e env) :: starEach es env := by rfl) : EVF w n env h (.Call (.Name x p) (e :: es) [] pos) r :=
 evf_call (ev_global fe G st g hk hd) ha hc (.inr (.inr (cv_of_ref (w := w) (x := x) G st ho hd'))) hs hn
end
theorem small_any {a b c : Int} (ha : -1000000 < a) (ha' : a < 1000000) (hb : -1000000 < b) (hb' : b < 1000000) (hc : 0 < c) (hc' : c < 1000000) : Builtin.Range.small a b c = true := by
 have h1 : 0 ≤ (b - a - 1) / c ∨ b - a - 1 < 0 := by
  by_cases q : b - a - 1 < 0
  ·exact .inr q
  ·exact .inl (Int.ediv_nonneg (by omega) (by omega))
 have h2 : a < b → (b - a - 1) / c ≤ b - a - 1 := fun q => Int.ediv_le_self _ (by omega)
 unfold Builtin.Range.small
 simp only [Builtin.Range.rangeSize, Builtin.Range.rangeFitsLong, Bool.and_eq_true, Bool.or_eq_true, decide_eq_true_eq, beq_iff_eq, show c > 0 from hc, if_true]
 split <;> omega
theorem size_one (k : Nat) : Builtin.Range.rangeSize 0 (k : Int) 1 = k := by
 unfold Builtin.Range.rangeSize
 rw [if_pos (by decide)]
 split <;> omega
section
variable {X : XRel} {w : World} {n : Nat} {env : Env} {h₀ : Heap} {F : Addr → Prop} {σ : List (Str × D)} {O : List Str}
theorem sx_for_stop {x : Str} {px pos : Pos} {iter : Expr} {body : List Stmt} {ds : List D} {fr : Bool} (inv : Nat → List (Str × D)) (stop : Nat → Bool) (r : D × Bool) (fe : Fe env) (hk : Stored env x)
  (hi : ∀ h, LV h₀ F env σ O h → EI w n env h iter ds fr true) (hfr : fr = true ∨ O = []) (hlow : ∀ (i : Nat) d, ds[i]? = some d → Low d) (hx : x ∉ O) (h0 : Sub (inv 0) σ)
  (turn : ∀ h₁ F', (∀ c, F c → F' c) → (∀ c o, F c → h₀.get? c = some o → h₁.get? c = some o) → ∀ (i : Nat) d, ds[i]? = some d → SX X w n env h₁ F' (execs body env) ((x, d) :: inv i) O (if stop i then .ret r.1 r.2 else .next (inv (i + 1)) O))
  (hs : ∀ x, foldedSetIterable iter env x = pure x := by intro _; rfl) :
  SX X w n env h₀ F (exec (.For (.Name x px) iter body [] pos) env) σ O (if (List.range ds.length).findIdx stop < ds.length then .ret r.1 r.2 else .next (inv ds.length) O) := by
 have hno : ∀ i, i < (List.range ds.length).findIdx stop → i < ds.length → stop i = false := fun i hi hl => by
  have := List.not_of_lt_findIdx hi
  simpa using this
 have hle : (List.range ds.length).findIdx stop ≤ ds.length := by
  have := List.findIdx_le_length (p := stop) (xs := List.range ds.length)
  simpa using this
 by_cases q : (List.range ds.length).findIdx stop < ds.length
 ·rw [if_pos q]
  have hat : stop ((List.range ds.length).findIdx stop) = true := by
   have := List.findIdx_getElem (p := stop) (xs := List.range ds.length) (w := by simpa using q)
   simpa using this
  refine sx_for inv ((List.range ds.length).findIdx stop) (some r) fe hk hi hfr hlow hx h0 (hlen := .inr ⟨by simp, q⟩) (turn := fun h₁ F' a c i d hi he => ?_) (last := fun h₁ F' a c d r' hr he => ?_) (hs := hs)
  ·have t := turn h₁ F' a c i d he
   rw [hno i hi (by omega)] at t
   exact t
  ·have t := turn h₁ F' a c _ d he
   rw [hat] at t
   cases hr
   exact t
 ·rw [if_neg q]
  have e : (List.range ds.length).findIdx stop = ds.length := by omega
  refine sx_for inv ds.length none fe hk hi hfr hlow hx h0 (hlen := .inl ⟨rfl, rfl⟩) (turn := fun h₁ F' a c i d hi he => ?_) (hs := hs)
  have t := turn h₁ F' a c i d he
  rw [hno i (by omega) hi] at t
  exact t
theorem sx_for_all {x : Str} {px pos : Pos} {iter : Expr} {body : List Stmt} {ds : List D} {fr : Bool} (inv : Nat → List (Str × D)) (fe : Fe env) (hk : Stored env x)
  (hi : ∀ h, LV h₀ F env σ O h → EI w n env h iter ds fr true) (hfr : fr = true ∨ O = []) (hlow : ∀ (i : Nat) d, ds[i]? = some d → Low d) (hx : x ∉ O) (h0 : Sub (inv 0) σ)
  (turn : ∀ h₁ F', (∀ c, F c → F' c) → (∀ c o, F c → h₀.get? c = some o → h₁.get? c = some o) → ∀ (i : Nat) d, ds[i]? = some d → SX X w n env h₁ F' (execs body env) ((x, d) :: inv i) O (.next (inv (i + 1)) O))
  (hs : ∀ x, foldedSetIterable iter env x = pure x := by intro _; rfl) :
  SX X w n env h₀ F (exec (.For (.Name x px) iter body [] pos) env) σ O (.next (inv ds.length) O) :=
 sx_for inv ds.length none fe hk hi hfr hlow hx h0 (hlen := .inl ⟨rfl, rfl⟩) (turn := fun h₁ F' a c i d hi he => turn h₁ F' a c i d he) (hs := hs)
theorem sx_cons_if {st : Stmt} {rest : List Stmt} {c : Prop} [Decidable c] {r : D} {fr : Bool} {σ' : List (Str × D)} {O' : List Str} {o : Out} (h : SX X w n env h₀ F (exec st env) σ O (if c then .ret r fr else .next σ' O')) (hr : ¬ c → SX X w n env h₀ F (execs rest env) σ' O' o) (hc : c → o = .ret r fr) : SX X w n env h₀ F (execs (st :: rest) env) σ O o := by
 by_cases q : c
 ·rw [if_pos q] at h
  rw [hc q]
  exact sx_cons_ret h
 ·rw [if_neg q] at h
  exact sx_cons h (hr q)
end
end Mine
-- MD19
namespace Mine
noncomputable abbrev A1 (x y : List Nat) (m : Int) : List (Str × D) := [("a", .str (S x)), ("b", .str (S y)), ("max_cost", .int m)]
theorem mul_ok {a b : Int} (h : b.natAbs < 2 ^ 60 ∨ a.natAbs < 2 ^ 60) : IntMulOk a b := by
 rcases h with h | h
 ·exact .of_right (intBits_le_64 (by omega) (by omega))
 ·exact .of_left (intBits_le_64 (by omega) (by omega))
theorem isE {x : List Nat} : (!x.isEmpty) = decide (0 < x.length) := by cases x <;> simp
theorem not_isE {x : List Nat} (h : (!x.isEmpty) = true) : 0 < x.length := by rw [isE] at h; simpa using h
namespace Klevcv
noncomputable def Claim0 (w : World) (n : Nat) (h : Heap) (b : Heap) (x : List Nat) (m : Int) : Prop :=
 ∀ (G : Gr w b) (bs : b.StaysIn h) (hbig : Big h) (y : List Nat) (hx : ∀ c ∈ x, Dig c) (hy : ∀ c ∈ y, Dig c) (hlen : x.length = y.length) (hL : x.length ≤ 8), CVF w (n + 3) h (.ref 240) [.str (S x), .str (S y), .int m] (.int (lev x y m)) false
noncomputable abbrev Ty0 := (World) × (Nat) × (Heap) × (Heap) × (List Nat) × (Int)
noncomputable def C0 (p : Ty0) : Prop := Claim0 p.1 p.2.1 p.2.2.1 p.2.2.2.1 p.2.2.2.2.1 p.2.2.2.2.2
noncomputable def eps0 : Ty0 := @Classical.epsilon Ty0 ⟨(aWorld 1, (default : Nat), (default : Heap), (default : Heap), (default : List Nat), (default : Int))⟩ (fun p => ¬ C0 p)
noncomputable def w := eps0.1
noncomputable def n := eps0.2.1
noncomputable def h := eps0.2.2.1
noncomputable def b := eps0.2.2.2.1
noncomputable def x := eps0.2.2.2.2.1
noncomputable def m := eps0.2.2.2.2.2
set_option maxHeartbeats 8000000 in
theorem main0 : Claim0 w n h b x m := by
 intro G bs hbig y hx hy hlen hL
 have hh := Eq.refl (PySem.Challenge.rw_xl0021_01, hd.heap_1)
 revert hh
 k_fill
 intro _
 refine' cv_def (names := [Str.ofString "a", Str.ofString "b", Str.ofString "max_cost"]) G bs hbig ?k1 ?k2 ?k3 rfl ?k4 ?k5 ?k6 ?k7 ?k8 ?k9 ?k10 ?k11 ?k12
 case k1 => k_is
 case k2 => k_is
 case k3 =>
  intro s vs hl
  obtain ⟨a, b, c, rfl⟩ : ∃ a b c, vs = [a, b, c] := by
   match vs, hl with | [a, b, c], _ => exact ⟨a, b, c, rfl⟩
  exact BindsTo.of_eq rfl
 case k4 => decide
 case k5 => decide
 case k6 => intro x hx; simp at hx; rcases hx with rfl | rfl | rfl <;> first | exact .inl (.str _) | exact .inl (.int _)
 case k7 =>
  intro i j l m' hi hj
  have : ∀ (i : Nat) l, [D.str (S x), D.str (S y), D.int m][i]? = some (.list l) → False := by
   intro i l hi
   match i with
   | 0 => cases hi
   | 1 => cases hi
   | 2 => cases hi
   | i + 3 => simp at hi
  exact (this i l hi).elim
 case k8 => decide
 case k10 => rfl
 case k11 => rfl
 case k12 => rfl
 case k9 =>
  intro h₀ F L' hb fe
  have z := sizeLine_eq
  by_cases hxy : x = y
  ·subst hxy
   rw [show lev x x m = 0 from if_pos rfl]
   exact sx_cons_ret (sx_if_true (fun h lv => bv_eq (bv_cmp (ev_name fe lv rfl) (ev_name fe lv rfl) cmp_eqs) (by simp)) (sx_one (sx_return fun h lv => ev_int)))
  refine sx_cons (sx_if_false (fun h lv => bv_eq (bv_cmp (ev_name fe lv rfl) (ev_name fe lv rfl) cmp_eqs) (by simpa using hxy)) sx_nil) ?_
  refine sx_cons (sx_assign fe (.inl rfl) (fun h lv => ev_int) (.int _)) ?_
  refine sx_cons (sx_while (fun i => ("pre", .int (i : Nat)) :: A1 x y m) (lcp x y) (O' := []) (Sub.refl _) (fun _ _ q => nomatch q) (fun i hi h lv => ?_) fun i hi => ?_) ?_
  ·have hle := lcp_le x y
   rw [lcp_test x y i hi]
   have e1 : cut x (some (i : Nat)) none 1 = x.drop i := cut_from x i
   have e2 : cut y (some (i : Nat)) none 1 = y.drop i := cut_from y i
   have hc : decide (i < x.length) = !(x.drop i).isEmpty := by rw [isE, List.length_drop]; congr 1; simp; omega
   have hd' : decide (i < y.length) = !(y.drop i).isEmpty := by rw [isE, List.length_drop]; congr 1; simp; omega
   rw [hc, hd', ← e1, ← e2]
   refine bv_and3 (bv_pos (ev_cut_str (ev_name fe lv rfl) (pv_some (ev_name fe lv rfl)) pv_none (by omega)) ?_) (fun _ => bv_pos (ev_cut_str (ev_name fe lv rfl) (pv_some (ev_name fe lv rfl)) pv_none (by omega)) ?_) fun q1 q2 => ?_
   ·rw [e1, List.length_drop]; omega
   ·rw [e2, List.length_drop]; omega
   ·rw [e1] at q1
    have q1 := not_isE q1
    rw [List.length_drop] at q1
    have hi1 : i < x.length := by omega
    have hi2 : i < y.length := by omega
    have f1 := List.getElem?_eq_getElem hi1
    have f2 := List.getElem?_eq_getElem hi2
    refine bv_eq (bv_cmp (ev_idx_str (ev_name fe lv rfl) (ev_name fe lv rfl) (seq_at hi1 (.inl rfl)) f1 (by omega) (by omega)) (ev_idx_str (ev_name fe lv rfl) (ev_name fe lv rfl) (seq_at hi2 (.inl rfl)) f2 (by omega) (by omega)) cmp_eqs) ?_
    rw [f1, f2]
    simp
  ·exact sx_one (sx_post (sx_aug_add fe (.inl rfl) rfl fun h lv => ev_int) (sub_cons rfl (sub_cons rfl (sub_cons rfl (sub_cons rfl sub_nil)))) (fun _ _ q => nomatch q))
  have hle := lcp_le x y
  have ex : cut x (some (lcp x y : Nat)) none 1 = x.drop (lcp x y) := cut_from x _
  have ey : cut y (some (lcp x y : Nat)) none 1 = y.drop (lcp x y) := cut_from y _
  refine sx_cons (sx_assign fe (.inl rfl) (fun h lv => ev_eq (ev_cut_str (ev_name fe lv rfl) (pv_some (ev_name fe lv rfl)) pv_none (by omega)) (congrArg (fun q => D.str (S q)) ex)) (.str _)) ?_
  refine sx_cons (sx_assign fe (.inl rfl) (fun h lv => ev_eq (ev_cut_str (ev_name fe lv rfl) (pv_some (ev_name fe lv rfl)) pv_none (by omega)) (congrArg (fun q => D.str (S q)) ey)) (.str _)) ?_
  refine sx_cons (sx_assign fe (.inl rfl) (fun h lv => ev_int) (.int _)) ?_
  generalize hx1 : x.drop (lcp x y) = x1
  generalize hy1 : y.drop (lcp x y) = y1
  have hl1 : x1.length = y1.length := by rw [← hx1, ← hy1, List.length_drop, List.length_drop, hlen]
  have hL1 : x1.length ≤ 8 := by rw [← hx1, List.length_drop]; omega
  have eA : trimA x y = x1.take (x1.length - lcp x1.reverse y1.reverse) := by unfold trimA; rw [hx1, hy1]
  have eB : trimB x y = y1.take (y1.length - lcp x1.reverse y1.reverse) := by unfold trimB; rw [hx1, hy1]
  have hle1 := lcp_le x1.reverse y1.reverse
  rw [List.length_reverse, List.length_reverse] at hle1
  have cutp : ∀ (v : List Nat) (i : Nat), cut v none (if (-(i : Int)) = 0 then none else some (-(i : Int))) 1 = v.take (v.length - i) := by
   intro v i
   by_cases q : i = 0
   ·subst q; simp [cut_all]
   ·rw [if_neg (by omega)]; exact cut_neg v i (by omega)
  refine sx_cons (sx_while (fun i => ("post", .int (-(i : Nat))) :: A1 x1 y1 m) (lcp x1.reverse y1.reverse) (O' := []) (sub_cons rfl (sub_cons rfl (sub_cons rfl (sub_cons rfl sub_nil)))) (fun _ _ q => nomatch q) (fun i hi h lv => ?_) fun i hi => ?_) ?_
  ·rw [lcp_test x1.reverse y1.reverse i hi, List.length_reverse, List.length_reverse]
   have e1 := cutp x1 i
   have e2 := cutp y1 i
   have hc : decide (i < x1.length) = !(x1.take (x1.length - i)).isEmpty := by rw [isE, List.length_take]; congr 1; simp; omega
   have hd' : decide (i < y1.length) = !(y1.take (y1.length - i)).isEmpty := by rw [isE, List.length_take]; congr 1; simp; omega
   rw [hc, hd', ← e1, ← e2]
   refine bv_and3 (bv_pos (ev_cut_str (ev_name fe lv rfl) pv_none (pv_or_none (ev_name fe lv rfl)) (by omega)) ?_) (fun _ => bv_pos (ev_cut_str (ev_name fe lv rfl) pv_none (pv_or_none (ev_name fe lv rfl)) (by omega)) ?_) fun q1 q2 => ?_
   ·rw [e1, List.length_take]; omega
   ·rw [e2, List.length_take]; omega
   ·rw [e1] at q1
    have q1 := not_isE q1
    rw [List.length_take] at q1
    have hi1 : x1.length - 1 - i < x1.length := by omega
    have hi2 : y1.length - 1 - i < y1.length := by omega
    have f1 := List.getElem?_eq_getElem hi1
    have f2 := List.getElem?_eq_getElem hi2
    refine bv_eq (bv_cmp (ev_idx_str (ev_name fe lv rfl) (ev_sub (ev_name fe lv rfl) ev_int) (seq_at hi1 (.inr (by omega))) f1 (by omega) (by omega)) (ev_idx_str (ev_name fe lv rfl) (ev_sub (ev_name fe lv rfl) ev_int) (seq_at hi2 (.inr (by omega))) f2 (by omega) (by omega)) cmp_eqs) ?_
    rw [List.getElem?_reverse (by omega), List.getElem?_reverse (by omega), f1, f2]
    simp
  ·refine sx_one (sx_post (sx_aug_sub fe (.inl rfl) rfl fun h lv => ev_int) (sub_cons ?_ (sub_cons rfl (sub_cons rfl (sub_cons rfl sub_nil)))) (fun _ _ q => nomatch q))
   show some _ = some _
   congr 2
   omega
  refine sx_cons (sx_assign fe (.inl rfl) (fun h lv => ev_eq (ev_cut_str (ev_name fe lv rfl) pv_none (pv_or_none (ev_name fe lv rfl)) (by omega)) (congrArg (fun q => D.str (S q)) ((cutp _ _).trans eA.symm))) (.str _)) ?_
  refine sx_cons (sx_assign fe (.inl rfl) (fun h lv => ev_eq (ev_cut_str (ev_name fe lv rfl) pv_none (pv_or_none (ev_name fe lv rfl)) (by omega)) (congrArg (fun q => D.str (S q)) ((cutp _ _).trans eB.symm))) (.str _)) ?_
  have hlAB := trim_len hlen
  have hLA : (trimA x y).length ≤ 8 := by rw [eA, List.length_take]; omega
  have hdA : ∀ c ∈ trimA x y, Dig c := fun c hc => hx c (List.mem_of_mem_drop (hx1 ▸ List.mem_of_mem_take (eA ▸ hc)))
  have hdB : ∀ c ∈ trimB x y, Dig c := fun c hc => hy c (List.mem_of_mem_drop (hy1 ▸ List.mem_of_mem_take (eB ▸ hc)))
  have hlev : lev x y m = if (trimA x y).isEmpty then (2 : Int) * (((trimA x y).length + (trimB x y).length : Nat) : Int) else if m < 0 then m + 1 else levDP (trimA x y) (trimB x y) m := if_neg hxy
  rw [hlev]
  clear hlev eA eB ex ey cutp hle1 hx1 hy1
  generalize trimA x y = u at *
  generalize trimB x y = v at *
  obtain ⟨vm, gm, hm⟩ : ∃ v, nsIn (hd.heap_1 w.params) mainGlobals "_MOVE_COST" = some (some v) ∧ ∀ h, VD h v (.int 2) := ⟨_, by k_is, fun h => .int _ _⟩
  obtain ⟨vz, gz, hvz⟩ : ∃ v, nsIn (hd.heap_1 w.params) mainGlobals "_MAX_STRING_SIZE" = some (some v) ∧ ∀ h, VD h v (.int 40) := ⟨_, by k_is, fun h => .int _ _⟩
  have gc : nsIn (hd.heap_1 w.params) mainGlobals "_substitution_cost" = some (some (.ref 233)) := by k_is
  by_cases hu : u = []
  ·subst hu
   have hv : v = [] := List.length_eq_zero_iff.mp hlAB.symm
   subst hv
   rw [if_pos (show ([] : List Nat).isEmpty = true from rfl)]
   refine sx_cons_ret (sx_if_true (fun h lv => bv_eq (bv_or2 (bv_not (bv_pos (ev_name fe lv rfl) (by decide))) (fun _ => bv_not (bv_pos (ev_name fe lv rfl) (by decide)))) rfl) (sx_one (sx_return fun h lv => ?_)))
   exact ev_mul (ev_globalD fe G (hb.stays lv) gm hm rfl) (ev_add (ev_len fe G (hb.stays lv) (ev_name fe lv rfl) (by decide)) (ev_len fe G (hb.stays lv) (ev_name fe lv rfl) (by decide))) (mul_ok (.inr (by decide)))
  have hul : 0 < u.length := List.length_pos_iff.mpr hu
  have hue : u.isEmpty = false := by cases u with | nil => exact absurd rfl hu | cons _ _ => rfl
  have hvl : v.length < 1000 := by omega
  have hve : v.isEmpty = false := by cases v with | nil => rw [hlAB] at hul; simp at hul | cons _ _ => rfl
  rw [if_neg (by rw [hue]; decide)]
  refine sx_cons (sx_if_false (fun h lv => bv_eq (bv_or2 (bv_not (bv_pos (ev_name fe lv rfl) (by omega))) (fun _ => bv_not (bv_pos (ev_name fe lv rfl) (by omega)))) (by rw [hue, hve]; rfl)) sx_nil) ?_
  refine sx_cons (sx_if_false (fun h lv => bv_eq (bv_or2 (bv_cmp (ev_len fe G (hb.stays lv) (ev_name fe lv rfl) (by omega)) (ev_globalD fe G (hb.stays lv) gz hvz rfl) cmp_gt) (fun _ => bv_cmp (ev_len fe G (hb.stays lv) (ev_name fe lv rfl) (by omega)) (ev_globalD fe G (hb.stays lv) gz hvz rfl) cmp_gt)) (by simp; omega)) sx_nil) ?_
  refine sx_cons (sx_if_false (fun h lv => bv_eq (bv_cmp (ev_len fe G (hb.stays lv) (ev_name fe lv rfl) (by omega)) (ev_len fe G (hb.stays lv) (ev_name fe lv rfl) (by omega)) cmp_lt) (by simp; omega)) sx_nil) ?_
  by_cases hm0 : m < 0
  ·rw [if_pos hm0]
   refine sx_cons_ret (sx_if_true (fun h lv => bv_eq (bv_cmp (ev_mul (ev_sub (ev_len fe G (hb.stays lv) (ev_name fe lv rfl) (by omega)) (ev_len fe G (hb.stays lv) (ev_name fe lv rfl) (by omega))) (ev_globalD fe G (hb.stays lv) gm hm rfl) (mul_ok (.inl (by decide)))) (ev_name fe lv rfl) cmp_gt) (by rw [hlAB]; simp; omega)) (sx_one (sx_return fun h lv => ev_add (ev_name fe lv rfl) ev_int)))
  rw [if_neg hm0]
  refine sx_cons (sx_if_false (fun h lv => bv_eq (bv_cmp (ev_mul (ev_sub (ev_len fe G (hb.stays lv) (ev_name fe lv rfl) (by omega)) (ev_len fe G (hb.stays lv) (ev_name fe lv rfl) (by omega))) (ev_globalD fe G (hb.stays lv) gm hm rfl) (mul_ok (.inl (by decide)))) (ev_name fe lv rfl) cmp_gt) (by rw [hlAB]; simp; omega)) sx_nil) ?_
  refine sx_cons (sx_assignF (l := (outN u v 0).row.map .int) fe (.inl rfl) (fun h lv => evf_eq (evf_call (ev_builtin fe G (hb.stays lv) g_list b_list (by decide) rfl) (av_one (ev_range3 fe G (hb.stays lv) lv.big (ev_globalD fe G (hb.stays lv) gm hm rfl) (ev_mul (ev_globalD fe G (hb.stays lv) gm hm rfl) (ev_add (ev_len fe G (hb.stays lv) (ev_name fe lv rfl) (by omega)) ev_int) (mul_ok (.inr (by decide)))) (ev_globalD fe G (hb.stays lv) gm hm rfl) (by decide) (by decide))) (cvf_list_range (k := u.length) lv.big ?rs ?rk ?rz) (.inr (.inl ⟨_, rfl⟩))) (congrArg D.list ?re)) ?rl) ?_
  case rs => exact small_any (by decide) (by decide) (by omega) (by omega) (by decide) (by decide)
  case rk =>
   unfold Builtin.Range.rangeSize
   rw [if_pos (by decide), if_pos (by omega)]
   omega
  case rz => omega
  case re => exact (show RG 2 2 u.length = (outN u v 0).row.map .int from by simp [outN, RG, Function.comp_def])
  case rl => exact lows_map (fun _ => .int _) _
  refine sx_cons (sx_assign fe (.inl rfl) (fun h lv => ev_int) (.int _)) ?_
  have hfin : ∀ (i : Nat) d, (RG 0 1 v.length)[i]? = some d → i < v.length ∧ d = .int i := fun i d e => by
   rw [List.getElem?_map] at e
   obtain ⟨j, e1, rfl⟩ := Option.map_eq_some_iff.mp e
   rw [List.getElem?_eq_some_iff] at e1
   obtain ⟨h1, h2⟩ := e1
   simp at h1 h2
   subst h2
   exact ⟨h1, by simp⟩
  have hfinU : ∀ (i : Nat) d, (RG 0 1 u.length)[i]? = some d → i < u.length ∧ d = .int i := by rw [hlAB]; exact hfin
  have hRl : (RG 0 1 v.length).length = v.length := by simp
  have hRu : (RG 0 1 u.length).length = u.length := by simp
  have hstop : levDP u v m = if levAt u v m < v.length then m + 1 else (outN u v v.length).res := rfl
  rw [hstop]
  refine sx_cons_if (sx_for_stop (fr := true) (ds := RG 0 1 v.length) (fun j => [("row", .list ((outN u v j).row.map .int)), ("result", .int (outN u v j).res), ("a", .str (S u)), ("b", .str (S v)), ("max_cost", .int m)]) (fun j => decide (m < (outN u v (j + 1)).mn)) (.int (m + 1), false) fe (.inl rfl)
   (fun h lv => ei_range lv.big (ev_range1 fe G (hb.stays lv) lv.big (ev_len fe G (hb.stays lv) (ev_name fe lv rfl) (by omega))) (small_any (by decide) (by decide) (by omega) (by omega) (by decide) (by decide)) (size_one _)) (.inl rfl) (fun i d e => (hfin i d e).2 ▸ .int _) (by decide)
   (sub_cons rfl (sub_cons rfl (sub_cons rfl (sub_cons rfl (sub_cons rfl sub_nil))))) (fun h₁ F' hF hs i d hi => ?turn)) (fun q => ?rest) (fun q => ?ret)
  case ret =>
   rw [hRl] at q
   show Out.ret (.int (if levAt u v m < v.length then m + 1 else (outN u v v.length).res)) false = _
   rw [if_pos (show levAt u v m < v.length from q)]
  case rest =>
   rw [hRl] at q ⊢
   rw [if_neg (show ¬ levAt u v m < v.length from q)]
   exact sx_one (sx_return fun h lv => ev_name fe lv rfl)
  case turn =>
   obtain ⟨hiv, rfl⟩ := hfin i d hi
   have hb := hb.up hF hs
   have fv := List.getElem?_eq_getElem hiv
   refine sx_cons (sx_assign fe (.inl rfl) (fun h lv => ev_idx_str (ev_name fe lv rfl) (ev_name fe lv rfl) (seq_at hiv (.inl rfl)) fv (by omega) (by omega)) (.str _)) ?_
   refine sx_cons (sx_both fe (.inl rfl) (.inl rfl) (fun h lv => ev_mul (ev_name fe lv rfl) (ev_globalD fe G (hb.stays lv) gm hm rfl) (mul_ok (.inl (by decide)))) (.int _)) ?_
   refine sx_cons (sx_assign fe (.inl rfl) (fun h lv => ev_int) (.int _)) ?_
   have hcd : v.getD i 0 = v[i] := by rw [List.getD_eq_getElem?_getD, fv]; rfl
   have hcdig : Dig v[i] := hdB _ (List.getElem_mem hiv)
   have hout : outN u v (i + 1) = innN u v[i] ⟨(outN u v i).row, (i : Int) * 2, (i : Int) * 2, big⟩ u.length := by rw [← hcd]; rfl
   generalize hs0 : (⟨(outN u v i).row, (i : Int) * 2, (i : Int) * 2, big⟩ : Cell) = s0 at hout
   have hs0l : s0.row.length = u.length := by rw [← hs0]; exact outN_len ..
   generalize v[i] = c at *
   refine sx_cons (sx_for_all (fr := true) (ds := RG 0 1 u.length) (fun j => [("row", .list ((innN u c s0 j).row.map .int)), ("distance", .int (innN u c s0 j).dist), ("result", .int (innN u c s0 j).res), ("minimum", .int (innN u c s0 j).mn), ("bchar", .str (S [c])), ("a", .str (S u)), ("b", .str (S v)), ("max_cost", .int m)]) fe (.inl rfl)
    (fun h lv => ei_range lv.big (ev_range1 fe G (hb.stays lv) lv.big (ev_len fe G (hb.stays lv) (ev_name fe lv rfl) (by omega))) (small_any (by decide) (by decide) (by omega) (by omega) (by decide) (by decide)) (size_one _)) (.inl rfl) (fun i d e => (hfinU i d e).2 ▸ .int _) (by decide)
    ?sub (fun h₁ F' hF hs j d hj => ?inner)) ?after
   case sub =>
    subst hs0
    exact sub_cons rfl (sub_cons rfl (sub_cons rfl (sub_cons rfl (sub_cons rfl (sub_cons rfl (sub_cons rfl (sub_cons rfl sub_nil)))))))
   case after =>
    rw [hRu, ← hout]
    by_cases q : m < (outN u v (i + 1)).mn
    ·rw [if_pos (decide_eq_true q)]
     exact sx_one (sx_if_true (fun h lv => bv_eq (bv_cmp (ev_name fe lv rfl) (ev_name fe lv rfl) cmp_gt) (decide_eq_true q)) (sx_one (sx_return fun h lv => ev_add (ev_name fe lv rfl) ev_int)))
    ·rw [if_neg (by simpa using q)]
     refine sx_one (sx_if_false (fun h lv => bv_eq (bv_cmp (ev_name fe lv rfl) (ev_name fe lv rfl) cmp_gt) (decide_eq_false q)) (sx_post sx_nil (sub_cons rfl (sub_cons rfl (sub_cons rfl (sub_cons rfl (sub_cons rfl sub_nil))))) fun _ _ q _ => q))
   case inner =>
    obtain ⟨hju, rfl⟩ := hfinU j d hj
    have hb := hb.up hF hs
    have fu := List.getElem?_eq_getElem hju
    have hud : u.getD j 0 = u[j] := by rw [List.getD_eq_getElem?_getD, fu]; rfl
    have hudig : Dig u[j] := hdA _ (List.getElem_mem hju)
    have hrl : (innN u c s0 j).row.length = u.length := (innN_len ..).trans hs0l
    have hrow : ((innN u c s0 j).row.map D.int)[j]? = some (.int ((innN u c s0 j).row.getD j 0)) := by
     rw [List.getElem?_map, List.getD_eq_getElem?_getD, List.getElem?_eq_getElem (by omega)]; rfl
    have hstep : innN u c s0 (j + 1) = inn u c (innN u c s0 j) j := rfl
    rw [hstep]
    unfold inn
    rw [hud]
    generalize innN u c s0 j = sj at *
    refine sx_cons (sx_assign fe (.inl rfl) (fun h lv => ev_add (ev_name fe lv rfl) (ev_fn fe G (hb.stays lv) gc (by k_is) rfl (av_two (ev_name fe lv rfl) (ev_idx_str (ev_name fe lv rfl) (ev_name fe lv rfl) (seq_at hju (.inl rfl)) fu (by omega) (by omega))) (cost_cv G (hb.stays lv) lv.big hcdig hudig).cv rfl)) (.int _)) ?_
    refine sx_cons (sx_assign fe (.inl rfl) (fun h lv => ev_idx_list (ev_name fe lv rfl) (ev_name fe lv rfl) (seq_at (by rw [List.length_map]; omega) (.inl rfl)) hrow (by omega) (by omega)) (.int _)) ?_
    refine sx_cons (sx_assign fe (.inl rfl) (fun h lv => ev_add (ev_min fe G (hb.stays lv) (ev_name fe lv rfl) (ev_name fe lv rfl)) (ev_globalD fe G (hb.stays lv) gm hm rfl)) (.int _)) ?_
    refine sx_cons (sx_assign fe (.inl rfl) (fun h lv => ev_min fe G (hb.stays lv) (ev_name fe lv rfl) (ev_name fe lv rfl)) (.int _)) ?_
    refine sx_cons (sx_setitem fe rfl (by decide) (fun h lv => ev_name fe lv rfl) (fun h lv => ev_name fe lv rfl) (.int _) (lows_map (fun _ => .int _) _) (by rw [List.length_map]; omega) (by rw [List.length_map]; omega)) ?_
    rw [← List.map_set]
    dsimp only
    generalize min (min sj.res (sj.row.getD j 0) + 2) (sj.dist + if c = u[j] then 0 else 2) = r
    refine sx_one (sx_if (b := decide (r < sj.mn)) (fun h lv => bv_cmp (ev_name fe lv rfl) (ev_name fe lv rfl) cmp_lt) (fun q => ?_) fun q => ?_)
    ·rw [if_pos (of_decide_eq_true q)]
     exact sx_one (sx_post (sx_assign fe (.inl rfl) (fun h lv => ev_name fe lv rfl) (.int _)) (sub_cons rfl (sub_cons rfl (sub_cons rfl (sub_cons rfl (sub_cons rfl (sub_cons rfl (sub_cons rfl (sub_cons rfl sub_nil)))))))) fun _ _ q _ => q)
    ·rw [if_neg (of_decide_eq_false q)]
     exact sx_post sx_nil (sub_cons rfl (sub_cons rfl (sub_cons rfl (sub_cons rfl (sub_cons rfl (sub_cons rfl (sub_cons rfl (sub_cons rfl sub_nil)))))))) fun _ _ q _ => q
end Klevcv
theorem lev_cv {w : World} {n : Nat} {h b : Heap} (G : Gr w b) (bs : b.StaysIn h) (hbig : Big h) {x y : List Nat} {m : Int} (hx : ∀ c ∈ x, Dig c) (hy : ∀ c ∈ y, Dig c) (hlen : x.length = y.length) (hL : x.length ≤ 8) : CVF w (n + 3) h (.ref 240) [.str (S x), .str (S y), .int m] (.int (lev x y m)) false :=
 by_eps (C := Klevcv.C0) _ Klevcv.main0 (w, n, h, b, x, m) G bs hbig y hx hy hlen hL
end Mine
-- MD20
namespace Mine
structure Eu where
 g : Nat
 l : Nat
 a : Nat
 m : Nat
 due : List (Nat × Nat)
noncomputable def euS (wide : Nat) (s : Eu) : Eu :=
 ⟨s.l, s.g % s.l, s.m, s.g / s.l * s.m + s.a, if 2 * (s.g % s.l) < wide then s.due ++ [(s.g / s.l * s.m + s.a, 4 * (s.g % s.l))] else s.due⟩
noncomputable def euN (ring wide : Nat) : Nat → Eu
 | 0 => ⟨ring, wide, 0, 1, []⟩
 | i + 1 => euS wide (euN ring wide i)
noncomputable def euK (ring wide : Nat) : Nat := (List.range 6).findIdx fun i => (euN ring wide i).l == 0
noncomputable def euDue (ring wide : Nat) : List (Nat × Nat) := (euN ring wide (euK ring wide)).due
noncomputable def euOk (r w : Nat) : Bool := !(decide (2 ≤ w) && decide (w < r)) || ((euN r w (euK r w)).l == 0 && (decide (euK r w ≤ 6)) && (List.range 6).all (fun i => (decide ((euN r w i).g < 100) && decide ((euN r w i).l < 100) && decide ((euN r w i).due.length < 100)) && (decide (euK r w ≤ i) || (euN r w i).l != 0)))
theorem eu_all : ((List.range 10).all fun r => (List.range 6).all fun w => euOk r w) = true := by decide +kernel
theorem eu_ok {r w : Nat} (hr : r < 10) (hw : w < 6) (h2 : 2 ≤ w) (hwr : w < r) : (euN r w (euK r w)).l = 0 ∧ euK r w ≤ 6 ∧ (∀ i < 6, ((euN r w i).g < 100 ∧ (euN r w i).l < 100) ∧ (euN r w i).due.length < 100) ∧ ∀ i < euK r w, (euN r w i).l ≠ 0 := by
 have h := eu_all
 rw [List.all_eq_true] at h
 have h := h r (List.mem_range.mpr hr)
 rw [List.all_eq_true] at h
 have h := h w (List.mem_range.mpr hw)
 unfold euOk at h
 simp only [h2, hwr, decide_true, Bool.and_self, Bool.not_true, Bool.false_or, Bool.and_eq_true, beq_iff_eq, decide_eq_true_eq, List.all_eq_true, List.mem_range, Bool.or_eq_true, bne_iff_ne] at h
 obtain ⟨⟨h1, h3⟩, h4⟩ := h
 refine ⟨h1, h3, fun i hi => (h4 i hi).1, fun i hi => ?_⟩
 rcases (h4 i (by omega)).2 with q | q
 ·omega
 ·exact q
noncomputable abbrev dueD (l : List (Nat × Nat)) : List D := l.map fun p => .tuple [.int (p.1 : Nat), .int (p.2 : Nat)]
theorem fdiv_nat (a b : Nat) : (a : Int).fdiv b = ((a / b : Nat) : Int) := by rw [Int.fdiv_eq_ediv_of_nonneg _ (by omega)]; simp
theorem fmod_nat (a b : Nat) : (a : Int).fmod b = ((a % b : Nat) : Int) := by rw [Int.fmod_eq_emod_of_nonneg _ (by omega)]; simp
theorem one_none {ds : List D} (h : ∀ d ∈ ds, ∀ l, d ≠ .list l) : ∀ (i j : Nat) l m, ds[i]? = some (.list l) → ds[j]? = some (.list m) → i = j := fun i j l m hi _ => absurd rfl (h _ (List.mem_of_getElem? hi) l)
set_option maxHeartbeats 8000000 in
theorem eu_cv {w : World} {n : Nat} {h b : Heap} (G : Gr w b) (bs : b.StaysIn h) (hbig : Big h) {r v : Nat} (hr : r < 10) (hv : v < 6) (hv2 : 2 ≤ v) (hvr : v < r) : CVF w (n + 2) h (.ref 247) [.int (r : Nat), .int (v : Nat)] (.list (dueD (euDue r v))) true := by
 have hh := Eq.refl (PySem.Challenge.rw_xl0021_01, hd.heap_1)
 revert hh
 k_fill
 intro _
 refine' cv_def (names := [Str.ofString "ring", Str.ofString "wide"]) G bs hbig ?k1 ?k2 ?k3 rfl ?k4 ?k5 ?k6 ?k7 ?k8 ?k9 ?k10 ?k11 ?k12
 case k1 => k_is
 case k2 => k_is
 case k3 =>
  intro s vs hl
  obtain ⟨a, b, rfl⟩ : ∃ a b, vs = [a, b] := by
   match vs, hl with | [a, b], _ => exact ⟨a, b, rfl⟩
  exact BindsTo.of_eq rfl
 case k4 => decide
 case k5 => decide
 case k6 => intro x hx; simp at hx; rcases hx with rfl | rfl <;> exact .inl (.int _)
 case k7 => exact one_none (by intro d hd l q; subst q; simp at hd)
 case k8 => decide
 case k10 => rfl
 case k11 => rfl
 case k12 => rfl
 case k9 =>
  intro h₀ F L' hb fe
  have z := sizeLine_eq
  obtain ⟨hz, hk6, hg, hlz⟩ := eu_ok hr hv hv2 hvr
  refine sx_cons (sx_assignF (l := []) fe (.inl rfl) (fun h lv => evf_list lv.big av_nil (by decide)) .nil) ?_
  refine sx_cons (sx_names (ps := [(Str.ofString "greater", ⟨184, 4, 184, 11⟩), (Str.ofString "lesser", ⟨184, 13, 184, 19⟩), (Str.ofString "ahead", ⟨184, 21, 184, 26⟩), (Str.ofString "number", ⟨184, 28, 184, 34⟩)]) fe (by intro q hq; simp at hq; rcases hq with rfl | rfl | rfl | rfl <;> exact .inl rfl)
   (fun h lv => ev_tuple lv.big (av_cons (ev_name fe lv rfl) (av_cons (ev_name fe lv rfl) (av_cons ev_int (av_cons ev_int av_nil)))) (by simp; omega)) (.cons (.int _) (.cons (.int _) (.cons (.int _) (.cons (.int _) .nil)))) rfl rfl rfl rfl) ?_
  refine sx_cons (sx_while (fun i => [("due", .list (dueD (euN r v i).due)), ("greater", .int (euN r v i).g), ("lesser", .int (euN r v i).l), ("ahead", .int (euN r v i).a), ("number", .int (euN r v i).m), ("wide", .int (v : Nat))]) (euK r v) (O' := ["due"])
   (sub_cons rfl (sub_cons rfl (sub_cons rfl (sub_cons rfl (sub_cons rfl (sub_cons rfl sub_nil)))))) (fun _ _ q _ => q) (fun i hi h lv => ?_) fun i hi => ?_) ?_
  ·refine bv_eq (bv_cmp (ev_name fe lv rfl) ev_int cmp_gt) ?_
   by_cases q : i < euK r v
   ·have := hlz i q
    simp [q]; omega
   ·have : i = euK r v := by omega
    subst this
    simp [hz]
  ·have hl := hlz i hi
   obtain ⟨⟨hgi, hli⟩, hdl⟩ := hg i (by omega)
   show SX XF w (n + 1) _ h₀ F _ _ _ (.next [("due", .list (dueD (euS v (euN r v i)).due)), ("greater", .int (euS v (euN r v i)).g), ("lesser", .int (euS v (euN r v i)).l), ("ahead", .int (euS v (euN r v i)).a), ("number", .int (euS v (euN r v i)).m), ("wide", .int (v : Nat))] ["due"])
   generalize euN r v i = s at *
   refine sx_cons (sx_two (e := .int ((s.g / s.l * s.m + s.a : Nat) : Int)) fe (.inl rfl) (.inl rfl) (fun h lv => ev_tuple lv.big (av_two (ev_name fe lv rfl) (ev_eq (ev_add (ev_mul (ev_floordiv (ev_name fe lv rfl) (ev_name fe lv rfl) (by omega) (PyProof.noPylong_small (by simp; omega))) (ev_name fe lv rfl) (mul_ok (.inr (by rw [fdiv_nat]; have := Nat.div_le_self s.g s.l; generalize s.g / s.l = q at *; omega)))) (ev_name fe lv rfl)) (by rw [fdiv_nat]; simp))) (by simp; omega)) (.int _) (.int _)) ?_
   refine sx_cons (sx_two (e := .int ((s.g % s.l : Nat) : Int)) fe (.inl rfl) (.inl rfl) (fun h lv => ev_tuple lv.big (av_two (ev_name fe lv rfl) (ev_eq (ev_mod (ev_name fe lv rfl) (ev_name fe lv rfl) (by omega)) (by rw [fmod_nat]))) (by simp; omega)) (.int _) (.int _)) ?_
   unfold euS
   dsimp only
   by_cases q : 2 * (s.g % s.l) < v
   ·rw [if_pos q]
    refine sx_one (sx_if_true (fun h lv => bv_eq (bv_cmp (ev_mul ev_int (ev_name fe lv rfl) (mul_ok (.inr (by decide)))) (ev_name fe lv rfl) cmp_lt) (by simp; omega)) ?_)
    refine sx_one (sx_post (sx_append fe rfl (by decide) (fun h lv => ev_tuple lv.big (av_two (ev_name fe lv rfl) (ev_mul ev_int (ev_name fe lv rfl) (mul_ok (.inr (by decide))))) (by simp; omega)) (.tuple (.cons (.int _) (.cons (.int _) .nil))) (lows_map (fun _ => .tuple (.cons (.int _) (.cons (.int _) .nil))) _) (by rw [List.length_map]; omega)) (sub_cons ?_ (sub_cons rfl (sub_cons rfl (sub_cons rfl (sub_cons rfl (sub_cons rfl sub_nil)))))) (fun _ _ q _ => q))
    rw [List.lookup_cons, beq_self_eq_true]
    simp [dueD]
   ·rw [if_neg q]
    refine sx_one (sx_if_false (fun h lv => bv_eq (bv_cmp (ev_mul ev_int (ev_name fe lv rfl) (mul_ok (.inr (by decide)))) (ev_name fe lv rfl) cmp_lt) (by simp; omega)) (sx_post sx_nil (sub_cons rfl (sub_cons rfl (sub_cons rfl (sub_cons rfl (sub_cons rfl (sub_cons rfl sub_nil)))))) (fun _ _ q _ => q)))
  ·exact sx_one (sx_return_own fe rfl (.head _))
end Mine
-- MF1
namespace Mine
noncomputable abbrev KK (w : World) : Frag := hd.heap_1 w.params
theorem accK {w : World} : findIn (hd.heap_1 w.params) (.ref 178) "__getattribute__" = some (some (.builtin "list.__getattribute__")) ∧ findIn (hd.heap_1 w.params) (.ref 178) "__getattr__" = some none
  ∧ findIn (hd.heap_1 w.params) (.ref 178) "append" = some (some (.builtin "list.append")) ∧ findIn (hd.heap_1 w.params) (.ref 178) "__getitem__" = some (some (.builtin "list.__getitem__")) ∧ findIn (hd.heap_1 w.params) (.ref 178) "__setitem__" = some (some (.builtin "list.__setitem__"))
  ∧ findIn (hd.heap_1 w.params) (.ref 178) "__iter__" = some (some (.builtin "list.__iter__")) ∧ findIn (hd.heap_1 w.params) (.ref 178) "__len__" = some (some (.ref 145)) ∧ findIn (hd.heap_1 w.params) (.ref 178) "__bool__" = some none ∧ findIn (hd.heap_1 w.params) (.ref 178) "__str__" = some (some (.ref 152))
  ∧ mroIn (hd.heap_1 w.params) 178 (.type "list") = some true := by
 have hh := Eq.refl (PySem.Challenge.rw_xl0021_01, hd.heap_1)
 revert hh
 k_fill
 intro _
 have e1 : findIn (hd.heap_1 w.params) (.ref 178) "__getattribute__" = some (some (.builtin "list.__getattribute__")) := by k_is
 have e2 : findIn (hd.heap_1 w.params) (.ref 178) "__getattr__" = some none := by k_is
 have e3 : findIn (hd.heap_1 w.params) (.ref 178) "append" = some (some (.builtin "list.append")) := by k_is
 have e4 : findIn (hd.heap_1 w.params) (.ref 178) "__getitem__" = some (some (.builtin "list.__getitem__")) := by k_is
 have e5 : findIn (hd.heap_1 w.params) (.ref 178) "__setitem__" = some (some (.builtin "list.__setitem__")) := by k_is
 have e6 : findIn (hd.heap_1 w.params) (.ref 178) "__iter__" = some (some (.builtin "list.__iter__")) := by k_is
 have e7 : findIn (hd.heap_1 w.params) (.ref 178) "__len__" = some (some (.ref 145)) := by k_is
 have e8 : findIn (hd.heap_1 w.params) (.ref 178) "__bool__" = some none := by k_is
 have e9 : findIn (hd.heap_1 w.params) (.ref 178) "__str__" = some (some (.ref 152)) := by k_is
 have e10 : mroIn (hd.heap_1 w.params) 178 (.type "list") = some true := by k_is
 exact ⟨e1, e2, e3, e4, e5, e6, e7, e8, e9, e10⟩
theorem accF {w : World} : (findIn (hd.heap_1 w.params) (.ref 178) "push" = some (some (.ref 122)) ∧ findIn (hd.heap_1 w.params) (.ref 178) "pop_from" = some (some (.ref 130)) ∧ findIn (hd.heap_1 w.params) (.ref 178) "pop" = some (some (.ref 138))
  ∧ findIn (hd.heap_1 w.params) (.ref 178) "reset" = some (some (.ref 160)) ∧ findIn (hd.heap_1 w.params) (.ref 178) "is_onlyws" = some (some (.ref 167)) ∧ findIn (hd.heap_1 w.params) (.ref 178) "part_count" = some (some (.ref 175)))
  ∧ (typeIn (hd.heap_1 w.params) (.ref 122) = some (.type "function") ∧ typeIn (hd.heap_1 w.params) (.ref 130) = some (.type "function") ∧ typeIn (hd.heap_1 w.params) (.ref 138) = some (.type "function") ∧ typeIn (hd.heap_1 w.params) (.ref 160) = some (.type "function") ∧ typeIn (hd.heap_1 w.params) (.ref 167) = some (.type "function") ∧ typeIn (hd.heap_1 w.params) (.ref 175) = some (.type "function")) := by
 have hh := Eq.refl (PySem.Challenge.rw_xl0021_01, hd.heap_1)
 revert hh
 k_fill
 intro _
 have e1 : findIn (hd.heap_1 w.params) (.ref 178) "push" = some (some (.ref 122)) := by k_is
 have e2 : findIn (hd.heap_1 w.params) (.ref 178) "pop_from" = some (some (.ref 130)) := by k_is
 have e3 : findIn (hd.heap_1 w.params) (.ref 178) "pop" = some (some (.ref 138)) := by k_is
 have e4 : findIn (hd.heap_1 w.params) (.ref 178) "reset" = some (some (.ref 160)) := by k_is
 have e5 : findIn (hd.heap_1 w.params) (.ref 178) "is_onlyws" = some (some (.ref 167)) := by k_is
 have e6 : findIn (hd.heap_1 w.params) (.ref 178) "part_count" = some (some (.ref 175)) := by k_is
 have f1 : typeIn (hd.heap_1 w.params) (.ref 122) = some (.type "function") := by k_is
 have f2 : typeIn (hd.heap_1 w.params) (.ref 130) = some (.type "function") := by k_is
 have f3 : typeIn (hd.heap_1 w.params) (.ref 138) = some (.type "function") := by k_is
 have f4 : typeIn (hd.heap_1 w.params) (.ref 160) = some (.type "function") := by k_is
 have f5 : typeIn (hd.heap_1 w.params) (.ref 167) = some (.type "function") := by k_is
 have f6 : typeIn (hd.heap_1 w.params) (.ref 175) = some (.type "function") := by k_is
 exact ⟨⟨e1, e2, e3, e4, e5, e6⟩, f1, f2, f3, f4, f5, f6⟩
noncomputable abbrev accO (ad : Addr) (its : Array Value) (n : Nat) : Obj := { cls := .ref 178, dict := some ad, data := .seq its n }
noncomputable abbrev adM (v : Value) : Str → Option Value := fun y => if y = "_initial_size" then some v else none
structure Acc (h : Heap) (ac ad : Addr) (its : Array Value) (sz : Int) : Prop where
 at_ : ∃ n, h.get? ac = some (accO ad its n)
 dc : ∃ o hs tk t n, h.get? ad = some o ∧ o.data = .dict #[⟨hs, .str "_initial_size" tk, .int sz t⟩] n
theorem Acc.ns {h : Heap} {ac ad : Addr} {its : Array Value} {sz : Int} (x : Acc h ac ad its sz) : ∃ t, h.Ns ad (adM (.int sz t)) := by
 obtain ⟨o, hs, tk, t, n, e, d⟩ := x.dc
 refine ⟨t, o, _, n, e, d, ?_, fun name => ?_⟩
 ·intro en hen
  have : en = ⟨hs, .str "_initial_size" tk, .int sz t⟩ := by simpa using hen
  exact ⟨_, tk, by rw [this]⟩
 ·unfold nsFind findBy adM
  rw [← Array.find?_toList]
  show (List.find? _ [_]).map _ = _
  rw [List.find?_cons]
  have q : (Value.str "_initial_size" tk).isStr name = decide (name = "_initial_size") := by
   show (("_initial_size" : Str) == name) = _
   by_cases q : name = "_initial_size"
   ·subst q; simp
   ·rw [decide_eq_false q]; exact beq_eq_false_iff_ne.mpr (Ne.symm q)
  simp only [q]
  by_cases q : name = "_initial_size"
  ·rw [if_pos q, decide_eq_true q]; rfl
  ·rw [if_neg q, decide_eq_false q]; rfl
section
variable {w : World} {A : Around} {E : Value → Shared → Prop} {s : Shared} {ac ad : Addr} {its : Array Value} {sz : Int} {n : Nat}
theorem acc_type {M : Model} {h : Heap} (X : Acc h ac ad its sz) : Looks M h (typeOf (.ref ac)) (.ref 178) := by
 obtain ⟨⟨n, e⟩, _⟩ := X
 exact (Looks.ld e).andThen .now
theorem canon_list_ga : (Manifest.canonical "list.__getattribute__" != "object.__getattribute__") = false := by decide +kernel
theorem acc_method {f : Value} {T : String} {name : Str} {pl : Sem Bool} {Q : Value × List Value → Shared → Prop} (K : (hd.heap_1 w.params).In s.heap) (X : Acc s.heap ac ad its sz) (hf : findIn (hd.heap_1 w.params) (.ref 178) name = some (some f))
  (ht : Looks (model PW w) s.heap (typeOf f) (.type T)) (hT : T = "function" ∨ T = "method_descriptor") (hn : name ≠ "_initial_size") (h : Q (f, [.ref ac]) s) : wpAny (model PW w) A (getMethod (.ref ac) name pl) Q E s := by
 obtain ⟨n, e⟩ := X.at_
 obtain ⟨t, ns⟩ := X.ns
 unfold getMethod specialOf
 refine wpAny_bind (wpAny_bind ((acc_type X).here ((looks_findIn K accK.1).here ?_)))
 dsimp only
 rw [canon_list_ga, if_neg (by decide)]
 refine wpAny_bind (wpAny_bind ((acc_type X).here ((looks_findIn K accK.2.1).here ?_)))
 refine wpAny_bind (wpAny_bind ((acc_type X).here ((looks_findIn K hf).here (wpAny_bind (ht.here ?_)))))
 rw [if_neg (by rcases hT with rfl | rfl <;> decide +kernel)]
 refine wpAny_bind (wpAny_loadPart e ?_)
 refine wpAny_bind (wpAny_nsGet ns ?_)
 rw [show adM (.int sz t) name = none from if_neg hn]
 exact wpAny_bind (wpAny_rule (wpAny_pure h))
theorem acc_isList {M : Model} {h : Heap} (K : (hd.heap_1 w.params).In h) (X : Acc h ac ad its sz) : Looks M h (isInstance (.ref ac) (.type "list")) true := (acc_type X).andThen (looks_mroIn K accK.2.2.2.2.2.2.2.2.2)
theorem check_method {M : Model} {i owner n : String} {self : Value} {rest : List Value} {kw : List (Str × Value)} {Q : Unit → Shared → Prop}
  (hk : builtinKind i = some .method ∨ builtinKind i = some .slot) (hs : splitId i = some (owner, n)) (hi : Looks M s.heap (isInstance self (.type owner)) true) (ha : argsOk i ⟨self :: rest, kw⟩) (q : Q () s) :
  wpAny M A (checkBuiltinCall i ⟨self :: rest, kw⟩) Q E s := by
 rcases hk with hk | hk
 ·simp only [checkBuiltinCall, hk, hs]
  refine wpAny_bind (hi.here ?_)
  simp only [Bool.not_true, Bool.false_eq_true, if_false]
  cases hsig : Manifest.signature? i with
  | none => exact wpAny_pure q
  | some sig =>
   simp only [argsOk, hsig] at ha
   have h2 : Bind.checkArgs i sig ⟨self :: rest, kw⟩ = pure () := ha
   show wpAny M A (Bind.checkArgs i sig ⟨self :: rest, kw⟩) Q E s
   rw [h2]; exact wpAny_pure q
 ·exact check_slot hk hs hi ha q
theorem acc_call {i nm : String} {B : Builtin} {rest : List Value} {Q : Value → Shared → Prop} (K : (hd.heap_1 w.params).In s.heap) (X : Acc s.heap ac ad its sz)
  (hk : builtinKind i = some .method ∨ builtinKind i = some .slot) (hs : splitId i = some ("list", nm)) (hp : plainId i = true) (hB : entryFor table i = some B) (ha : argsOk i ⟨.ref ac :: rest, []⟩)
  (hc : wpAny (model PW w) A.in1 (B ⟨.ref ac :: rest, []⟩) (fun fin s' => ∃ v, fin = .done (.ret v) ∧ Q v s') E s) : wpAny (model PW w) A (call (.builtin i) (.ref ac :: rest)) Q E s := by
 refine wpAny_call (codeAny_call_builtin hp hB (check_method hk hs (acc_isList K X) ha (wpAny_mono hc (fun fin s' h' => ?_) fun _ _ h' => h')))
 obtain ⟨v, rfl, hv⟩ := h'; exact hv
theorem acc_update {f : Array Value → Array Value} {Q : Unit → Shared → Prop} (X : Acc s.heap ac ad its sz) (hz0 : its.size ≤ sizeLine) (hz : (f its).size ≤ sizeLine)
  (h : ∀ h', Acc h' ac ad (f its) sz → Heap.SameBut ac s.heap h' → Q () { s with heap := h' }) : wpAny (model PW w) A (updateSeq ac f) Q E s := by
 obtain ⟨n, e⟩ := X.at_
 obtain ⟨o, hs, tk, t, k, e2, d⟩ := X.dc
 have hne : ad ≠ ac := fun q => by
  rw [q, e] at e2; cases e2; cases d
 obtain ⟨m, e'⟩ : ∃ m, (s.heap.update ac (Obj.mapSeq f)).get? ac = some (accO ad (f its) m) := ⟨_, Heap.get?_update_self _ e rfl⟩
 exact wpAny_updateSeq e rfl (h _ ⟨⟨m, e'⟩, o, hs, tk, t, k, (Heap.get?_update_other _ _ hne.symm).trans e2, d⟩ (Heap.SameBut.update ..)) hz0 (by omega)
theorem acc_append {x : Value} {Q : Value → Shared → Prop} (K : (hd.heap_1 w.params).In s.heap) (X : Acc s.heap ac ad its sz) (hz : its.size < 1000)
  (h : ∀ h', Acc h' ac ad (its.push x) sz → Heap.SameBut ac s.heap h' → Q .none { s with heap := h' }) : wpAny (model PW w) A (call (.builtin "list.append") [.ref ac, x]) Q E s := by
 refine acc_call (nm := "append") K X (.inl (by decide +kernel)) (by decide +kernel) PySem.F.slot_list_append.plain PySem.F.entry_list_append (PySem.F.args_list_append_2 _ _) ?_
 show wpAny _ _ (updateSeq ac (·.push x) >>= fun _ => ret .none) _ _ s
 exact wpAny_bind (acc_update X (by rw [sizeLine_eq]; omega) (by rw [Array.size_push, sizeLine_eq]; omega) fun h' X' sb => wpAny_pure ⟨.none, rfl, h h' X' sb⟩)
theorem lookIn_of_ns {h : Heap} {a : Addr} {m : Str → Option Value} (x : h.Ns a m) : ∃ o, h.get? a = some o ∧ ∀ name, lookIn name o = some (m name) := by
 obtain ⟨o, es, ep, e, d, sk, f⟩ := x
 refine ⟨o, e, fun name => ?_⟩
 unfold lookIn
 rw [d]
 dsimp only
 have hf := f name
 unfold nsFind findBy at hf
 rw [← Array.find?_toList] at hf
 cases he : es.toList.find? (fun x => x.key.isStr name) with
 | some en =>
  rw [he] at hf
  dsimp only
  rw [← hf]; rfl
 | none =>
  rw [he] at hf
  dsimp only
  have : es.toList.any (·.refKey) = false := by
   rw [List.any_eq_false]
   intro en hen
   obtain ⟨n, t, q⟩ := sk en (Array.mem_toList_iff.mp hen)
   unfold DictEntry.refKey
   rw [q]
   exact Bool.false_ne_true
  rw [this, if_neg (by decide), ← hf]; rfl
theorem acc_inst {h : Heap} (X : Acc h ac ad its sz) : ∃ ox od, InstAt h ac ox 178 (some od) ∧ ox.dict = some ad ∧ ∃ t, ∀ name, lookIn name od = some (adM (.int sz t) name) := by
 obtain ⟨n, e⟩ := X.at_
 obtain ⟨t, ns⟩ := X.ns
 obtain ⟨o, e2, l⟩ := lookIn_of_ns ns
 exact ⟨_, o, ⟨e, rfl, rfl, e2⟩, rfl, t, l⟩
theorem accD {w : World} : hasDictIn (hd.heap_1 w.params) 178 = true ∧ findIn (hd.heap_1 w.params) (.ref 178) "_initial_size" = some none ∧ findIn (hd.heap_1 w.params) (.ref 178) "__setattr__" = some (some (.builtin "object.__setattr__")) := by
 have hh := Eq.refl (PySem.Challenge.rw_xl0021_01, hd.heap_1)
 revert hh
 k_fill
 intro _
 have e1 : hasDictIn (hd.heap_1 w.params) 178 = true := by k_is
 have e2 : findIn (hd.heap_1 w.params) (.ref 178) "_initial_size" = some none := by k_is
 have e3 : findIn (hd.heap_1 w.params) (.ref 178) "__setattr__" = some (some (.builtin "object.__setattr__")) := by k_is
 exact ⟨e1, e2, e3⟩
theorem acc_get {expr : Bool} {Q : Value → Shared → Prop} (K : (hd.heap_1 w.params).In s.heap) (X : Acc s.heap ac ad its sz) (h : ∀ t tk, s.toks ≤ tk → Q (.int sz t) { s with toks := tk }) : wpAny (model PW w) A (getAttr (.ref ac) "_initial_size" expr) Q E s := by
 obtain ⟨ox, od, I, hd', t, hl⟩ := acc_inst X
 have hf := findObj_own (v := .int sz t) accD.1 (accD (w := w)).2.1 rfl (hl "_initial_size")
 refine wpAny_bind (wpAny_mkText (wpAny_holding (wpAny_bind ((acc_type X) _ _ _ _ (fun _ _ e => e) (wpAny_bind (looks_findIn K accK.1 _ _ _ _ (fun _ _ e => e) ?_))))))
 dsimp only
 rw [show (onTheHeap (Value.ref 178) && Value.builtin "list.__getattribute__" == Value.builtin "object.__getattribute__") = false from by rw [show (Value.builtin "list.__getattribute__" == Value.builtin "object.__getattribute__") = false from by decide +kernel, Bool.and_false], if_neg (by decide)]
 refine wpAny_bind ((looks_hook (mc := .ref 178) (r := none) K (by rw [show onTheHeap (Value.ref 178) = true from rfl, if_pos rfl]; exact accK.2.1)) _ _ _ _ (fun _ _ e => e) (wpAny_bind (wpAny_attempt (wpAny_holding ?_))))
 unfold callGetattribute
 rw [show (expr && onTheHeap (Value.builtin "list.__getattribute__")) = false from Bool.and_false _, if_neg (by decide)]
 unfold boundAndCalled
 rw [PySem.F.slot_list_getattribute.bind]
 refine wpAny_bind (wpAny_pure ?_)
 show wpAny _ _ (call (.builtin "list.__getattribute__") [.ref ac, .str "_initial_size" s.toks]) _ _ _
 refine acc_call (s := { s with toks := s.toks + 1 }) (nm := "__getattribute__") K X (.inr (by decide +kernel)) (by decide +kernel) PySem.F.slot_list_getattribute.plain PySem.am_entry_list_getattribute (PySem.F.args_list_getattribute_2 _ _) ?_
 refine wpAny_bind (wpAny_pure (wpAny_bind (wpAny_pure (wpAny_bind ((acc_type X) _ _ _ _ (fun _ _ e => e) (wpAny_bind ((looks_find K I hf) _ _ _ _ (fun _ _ e => e) ?_)))))))
 refine wpAny_pure ⟨_, rfl, ?_⟩
 show wpAny _ _ (handedOut _) _ _ _
 rw [handedOut_of rfl]
 exact wpAny_pure (h _ _ (Nat.le_succ _))
theorem refuse_list (self : Value) : refuseLoop self "__setattr__" [.ref 178, .type "list", .type "object"] = pure () := by rw [refuseLoop_ref]; kernel_rfl
theorem accC {w : World} : ∃ cd, clsIn (hd.heap_1 w.params) 178 = some cd ∧ cd.mro = [.ref 178, .type "list", .type "object"] ∧ cd.hasDict = true ∧ cd.qualname = "_Accumulator" := by
 have hh := Eq.refl (PySem.Challenge.rw_xl0021_01, hd.heap_1)
 revert hh
 k_fill
 intro _
 obtain ⟨o, e, d⟩ : ∃ o, (hd.heap_1 w.params).lookup 178 = some o ∧ ∃ cd, o.data = .cls cd ∧ cd.mro = [.ref 178, .type "list", .type "object"] ∧ cd.hasDict = true ∧ cd.qualname = "_Accumulator" := ⟨_, by k_is, _, rfl, rfl, rfl, rfl⟩
 obtain ⟨cd, d, m, z⟩ := d
 refine ⟨cd, ?_, m, z⟩
 unfold clsIn
 rw [e]
 obtain ⟨oc, od, oda, osl⟩ := o
 dsimp only at d
 subst d
 rfl
end
namespace Kaccset
noncomputable def Claim0 (w : World) (A : Around) (E : Value → Shared → Prop) (s : Shared) (ac : Addr) (ad : Addr) (its : Array Value) (sz : Int) (v : Int) (t : Tok) (Q : Unit → Shared → Prop) : Prop :=
 ∀ (K : (hd.heap_1 w.params).In s.heap) (X : Acc s.heap ac ad its sz) (h : ∀ h' tk, Acc h' ac ad its v → Heap.SameBut ad s.heap h' → Q () { s with heap := h', toks := tk }), wpAny (model PW w) A (setAttr (.ref ac) "_initial_size" (.int v t)) Q E s
noncomputable abbrev Ty0 := (World) × (Around) × (Value → Shared → Prop) × (Shared) × (Addr) × (Addr) × (Array Value) × (Int) × (Int) × (Tok) × (Unit → Shared → Prop)
noncomputable def C0 (p : Ty0) : Prop := Claim0 p.1 p.2.1 p.2.2.1 p.2.2.2.1 p.2.2.2.2.1 p.2.2.2.2.2.1 p.2.2.2.2.2.2.1 p.2.2.2.2.2.2.2.1 p.2.2.2.2.2.2.2.2.1 p.2.2.2.2.2.2.2.2.2.1 p.2.2.2.2.2.2.2.2.2.2
noncomputable def eps0 : Ty0 := @Classical.epsilon Ty0 ⟨(aWorld 1, ({} : Around), (fun _ _ => True), ({} : Shared), (default : Addr), (default : Addr), (default : Array Value), (default : Int), (default : Int), (default : Tok), (fun _ _ => True))⟩ (fun p => ¬ C0 p)
noncomputable def w := eps0.1
noncomputable def A := eps0.2.1
noncomputable def E := eps0.2.2.1
noncomputable def s := eps0.2.2.2.1
noncomputable def ac := eps0.2.2.2.2.1
noncomputable def ad := eps0.2.2.2.2.2.1
noncomputable def its := eps0.2.2.2.2.2.2.1
noncomputable def sz := eps0.2.2.2.2.2.2.2.1
noncomputable def v := eps0.2.2.2.2.2.2.2.2.1
noncomputable def t := eps0.2.2.2.2.2.2.2.2.2.1
noncomputable def Q := eps0.2.2.2.2.2.2.2.2.2.2
theorem main0 : Claim0 w A E s ac ad its sz v t Q := by
 intro K X h
 obtain ⟨ox, od, I, hd', t0, hl⟩ := acc_inst X
 refine set_plain K I accD.2.2 ?_
 have SF := PySem.F.store_object
 obtain ⟨cd, hc, hm, hdd, _⟩ := accC (w := w)
 have K' : (hd.heap_1 w.params).In ({ s with toks := s.toks + 1 } : Shared).heap := K
 have sub : Looks (model PW w) s.heap (isInstance (.ref ac) (.type "object")) true := I.type.andThen (looks_mroIn K (by unfold mroIn; rw [hc, Option.bind_some, hm]; rfl))
 refine codeAny_call_builtin SF.slot.plain SF.entry (@check_slot (model PW w) _ _ { s with toks := s.toks + 1 } "object.__setattr__" "object" "__setattr__" (.ref ac) [.str _ _, .int v t] [] _ SF.kind SF.split sub (SF.args (.ref ac) (.str _ _) _) ?_)
 have hmro : Looks (model PW w) s.heap (mroOf (.ref 178)) cd.mro := (looks_clsIn K hc).andThen .now
 rw [osa_eq, refuse_eq]
 refine wpAny_bind (wpAny_bind (I.type _ _ _ _ (fun _ _ e => e) (wpAny_bind (hmro _ _ _ _ (fun _ _ e => e) ?_))))
 rw [hm, refuse_list]
 refine wpAny_pure (wpAny_bind (I.type _ _ _ _ (fun _ _ e => e) (wpAny_bind ((looks_findIn K accD.2.1) _ _ _ _ (fun _ _ e => e) (wpAny_bind (wpAny_pure ?_))))))
 obtain ⟨n, e⟩ := X.at_
 obtain ⟨o, hs, tk, t1, k, e2, d⟩ := X.dc
 obtain ⟨oc, odi, oda, osl⟩ := o
 dsimp only at d
 subst d
 have hne : ad ≠ ac := fun q => by
  rw [q, e] at e2; cases e2
 refine wpAny_bind (wpAny_pure (wpAny_bind (wpAny_bind (wpAny_loadPart e (wpAny_bind ((looks_clsIn K hc) _ _ _ _ (fun _ _ e => e) ?_))))))
 rw [hdd]
 refine wpAny_pure (a := some ad) (wpAny_bind (wpAny_pure (wpAny_bind ?_)))
 unfold nsSet
 refine wpAny_bind (wpAny_bind (wpAny_askSetting (wpAny_pure (wpAny_bind (wpAny_mkText (wpAny_bind (wpAny_loadPart e2 ?_)))))))
 dsimp only
 have c : aRefKeyMayBeTheName (Str.ofString "_initial_size") #[⟨hs, .str "_initial_size" tk, .int sz t1⟩] = false := by rfl
 rw [c, if_neg (by decide)]
 have e3 : ∃ m, (s.heap.update ad (Obj.putName (Str.ofString "_initial_size") (PyData.keyHash w.params "_initial_size") (.str "_initial_size" (s.toks + 1)) (.int v t))).get? ad = some ⟨oc, odi, .dict #[⟨hs, .str "_initial_size" tk, .int v t⟩] m, osl⟩ :=
  ⟨_, Heap.get?_update_self _ e2 rfl⟩
 obtain ⟨m, e3⟩ := e3
 refine wpAny_updatePart e2 ?_
 refine wpAny_bind (wpAny_lookBehind e3 (pastItsLine_dict (by rw [sizeLine_eq]; exact Nat.le_of_ble_eq_true rfl)) ?_)
 exact wpAny_pure (h _ _ ⟨⟨n, (Heap.get?_update_other _ _ hne).trans e⟩, _, hs, tk, t, m, e3, rfl⟩ (Heap.SameBut.update ..))
end Kaccset
section
variable {w : World} {A : Around} {E : Value → Shared → Prop} {s : Shared} {ac ad : Addr} {its : Array Value} {sz : Int} {n : Nat}
theorem acc_set {v : Int} {t : Tok} {Q : Unit → Shared → Prop} (K : (hd.heap_1 w.params).In s.heap) (X : Acc s.heap ac ad its sz)
  (h : ∀ h' tk, Acc h' ac ad its v → Heap.SameBut ad s.heap h' → Q () { s with heap := h', toks := tk }) : wpAny (model PW w) A (setAttr (.ref ac) "_initial_size" (.int v t)) Q E s :=
 by_eps (C := Kaccset.C0) _ Kaccset.main0 (w, A, E, s, ac, ad, its, sz, v, t, Q) K X h
end
end Mine
-- MF2
namespace Mine
theorem accQ {w : World} : noSeq (hd.heap_1 w.params) 178 = true := by
 have hh := Eq.refl (PySem.Challenge.rw_xl0021_01, hd.heap_1)
 revert hh
 k_fill
 intro _
 have e : noSeq (hd.heap_1 w.params) 178 = true := by k_is
 exact e
section
variable {w : World} {A : Around} {E : Value → Shared → Prop} {s : Shared} {ac ad : Addr} {its : Array Value} {sz : Int} {n : Nat}
theorem acc_special {T : String} {name : Str} {id : String} {args : List Value} {Q : Option Value → Shared → Prop} (K : (hd.heap_1 w.params).In s.heap) (X : Acc s.heap ac ad its sz) (hf : findIn (hd.heap_1 w.params) (.ref 178) name = some (some (.builtin id)))
  (hS : Slot T name id) (h : wpAny (model PW w) A (call (.builtin id) (.ref ac :: args)) (fun v s' => Q (some v) s') E s) : wpAny (model PW w) A (callSpecial? (.ref ac) name args) Q E s := by
 unfold callSpecial? specialOf
 refine wpAny_bind (wpAny_bind ((acc_type X).here ((looks_findIn K hf).here (wpAny_holding ?_))))
 rw [hS.bind]
 exact wpAny_bind (wpAny_pure (wpAny_bind (wpAny_mono h (fun v s' z => wpAny_pure z) fun _ _ z => z)))
theorem acc_getItem {i : Value} {Q : Value → Shared → Prop} (K : (hd.heap_1 w.params).In s.heap) (X : Acc s.heap ac ad its sz) (h : wpAny (model PW w) A (call (.builtin "list.__getitem__") [.ref ac, i]) Q E s) : wpAny (model PW w) A (getItem (.ref ac) i) Q E s := by
 unfold getItem sequenceKey
 refine wpAny_holding (wpAny_bind (wpAny_bind ((acc_type X).here ?_)))
 refine wpAny_bind ((anyM_none K accQ).here ?_)
 rw [if_pos (show (!false) = true from rfl)]
 exact wpAny_pure (wpAny_bind (acc_special K X accK.2.2.2.1 slot_list_getitem (wpAny_mono h (fun _ _ z => wpAny_pure z) fun _ _ z => z)))
theorem acc_tail {value slice : Expr} {i : Value} {ops : List Value} {Q : Value → Shared → Prop} (K : (hd.heap_1 w.params).In s.heap) (X : Acc s.heap ac ad its sz) (hg : wpAny (model PW w) A (getItem (.ref ac) i) Q E s)
  (hs : subscripted slice false (.ref ac) i = operate ops (getItem (.ref ac) i)) : wpAny (model PW w) A (subscriptTail value slice (.ref ac) i) Q E s := by
 have fin : wpAny (model PW w) A (subscripted slice false (.ref ac) i) (fun r s₃ => wpAny (model PW w) A (letTemporaryGo value (.ref ac) r >>= fun _ => pure r) Q E s₃) E s := by
  rw [hs]
  exact wpAny_operating (wpAny_mono hg (fun r s₃ h₃ => wpAny_bind (wpAny_letTemporaryGo (wpAny_pure h₃))) fun _ _ x => x)
 unfold subscriptTail getitemInPython
 refine wpAny_bind (wpAny_bind (wpAny_bind ((acc_type X).here ((looks_findIn K accK.2.2.2.1).here ?_))))
 exact wpAny_pure (wpAny_bind fin)
theorem acc_item {k : Int} {t : Tok} {x : Value} {Q : Value → Shared → Prop} (K : (hd.heap_1 w.params).In s.heap) (X : Acc s.heap ac ad its sz) (h0 : 0 ≤ k) (hk : k < 1000) (hx : its[k.toNat]? = some x) (h : Q x s) : wpAny (model PW w) A (getItem (.ref ac) (.int k t)) Q E s := by
 obtain ⟨n, e⟩ := X.at_
 refine acc_getItem K X (acc_call (nm := "__getitem__") K X (.inl (by decide +kernel)) (by decide +kernel) slot_list_getitem.plain entry_list_getitem (args_list_getitem _ _) ?_)
 show wpAny _ _ (Builtin.List.listSubscript? (.int k t) >>= _) _ _ s
 refine wpAny_bind (wpAny_listSubscript_int (fitsIndex_of h0 (by omega)) ?_)
 clear hk
 obtain ⟨j, rfl⟩ := Int.eq_ofNat_of_zero_le h0
 have hx' : its[j]? = some x := hx
 show wpAny _ _ ((seqItemAt ac j >>= fun r => pure (r.map (j, ·))) >>= _) _ _ s
 refine wpAny_bind (wpAny_bind (wpAny_seqItemAt e rfl (wpAny_pure ?_)))
 rw [hx']
 first
  | exact wpAny_bind (wpAny_pure (wpAny_pure ⟨x, rfl, h⟩))
  | exact wpAny_pure ⟨x, rfl, h⟩
theorem acc_slice {sl : Addr} {vl vu vs : Value} {lo hi st : Option Int} {Q : Value → Shared → Prop} (K : (hd.heap_1 w.params).In s.heap) (X : Acc s.heap ac ad its sz) (hz : its.size ≤ sizeLine)
  (hs : s.heap.IsSliceOf sl vl vu vs) (pl : IsPart vl lo) (pu : IsPart vu hi) (ps : IsPart vs st) (h0 : st ≠ some 0)
  (h : Q (.ref s.heap.objs.size) { s with heap := s.heap.push { cls := .type "list", data := .seq (slicePick its lo hi st) } }) : wpAny (model PW w) A (getItem (.ref ac) (.ref sl)) Q E s := by
 obtain ⟨n, e⟩ := X.at_
 obtain ⟨os, hos, hcs, hds⟩ := id hs
 have hTs : s.TypeIs (.ref sl) "slice" := ⟨os, hos, hcs⟩
 refine acc_getItem K X (acc_call (nm := "__getitem__") K X (.inl (by decide +kernel)) (by decide +kernel) slot_list_getitem.plain entry_list_getitem (args_list_getitem _ _) ?_)
 show wpAny _ _ (Builtin.List.listSubscript? (.ref sl) >>= _) _ _ s
 refine wpAny_bind ?_
 unfold Builtin.List.listSubscript?
 refine wpAny_bind (wpAny_specialOf hTs slice_no_index ?_)
 simp only [Option.isNone_none, if_true]
 refine wpAny_pure ?_
 show wpAny _ _ (typeOf (.ref sl) >>= _) _ _ s
 refine wpAny_bind (wpAny_typeOf hTs ?_)
 rw [if_neg (by decide)]
 rw [listSliceParts_eq]
 have hstep : ¬ ((rawPart st == rawInt 0) = true) := by
  cases st with
  | none => exact Bool.false_ne_true
  | some c =>
   intro hh
   have : c = 0 := by simpa [rawPart, rawInt] using hh
   exact h0 (by rw [this])
 refine wpAny_bind (wpAny_bind (wpAny_field hos hds (x := vs) rfl (wpAny_bind (wpAny_listPart ps ?_))))
 rw [if_neg hstep]
 refine wpAny_bind (wpAny_field hos hds (x := vl) rfl (wpAny_bind (wpAny_listPart pl ?_)))
 refine wpAny_bind (wpAny_field hos hds (x := vu) rfl (wpAny_bind (wpAny_listPart pu (wpAny_pure ?_))))
 refine wpAny_bind (m := Builtin.List.listItems (.ref ac)) ?_
 unfold Builtin.List.listItems
 refine wpAny_bind (wpAny_seqItems e rfl (wpAny_pure ?_))
 refine wpAny_bind (wpAny_of_eq (sliceIndices_raw lo hi st its.size h0) ?_)
 refine wpAny_bind (wpAny_newObj_type (wpAny_pure ⟨_, rfl, h⟩) (Nat.le_trans (slicePick_size_le its lo hi st) hz))
end
namespace Kaccsetslice
noncomputable def Claim0 (w : World) (A : Around) (E : Value → Shared → Prop) (s : Shared) (ac : Addr) (ad : Addr) (its : Array Value) (sz : Int) (sl : Addr) (b : Addr) (vl : Value) (vu : Value) (vs : Value) (lo : Option Int) (hi : Option Int) (new : Array Value) (m : Nat) (Q : Unit → Shared → Prop) : Prop :=
 ∀ (K : (hd.heap_1 w.params).In s.heap) (X : Acc s.heap ac ad its sz) (hz : its.size < 1000) (hz2 : new.size < 1000) (hs : s.heap.IsSliceOf sl vl vu vs) (pl : IsPart vl lo) (pu : IsPart vu hi) (ps : IsPart vs none) (hb : s.heap.get? b = some ⟨.type "list", none, .seq new m, #[]⟩) (hne : ac ≠ b) (h : ∀ h', Acc h' ac ad (its.extract 0 (sliceBounds lo hi none its.size).1.toNat ++ new ++ its.extract (max (sliceBounds lo hi none its.size).1 (sliceBounds lo hi none its.size).2.1).toNat its.size) sz → Heap.SameBut ac s.heap h' → Q () { s with heap := h' }), wpAny (model PW w) A (setItem (.ref ac) (.ref sl) (.ref b)) Q E s
noncomputable abbrev Ty0 := (World) × (Around) × (Value → Shared → Prop) × (Shared) × (Addr) × (Addr) × (Array Value) × (Int) × (Addr) × (Addr) × (Value) × (Value) × (Value) × (Option Int) × (Option Int) × (Array Value) × (Nat) × (Unit → Shared → Prop)
noncomputable def C0 (p : Ty0) : Prop := Claim0 p.1 p.2.1 p.2.2.1 p.2.2.2.1 p.2.2.2.2.1 p.2.2.2.2.2.1 p.2.2.2.2.2.2.1 p.2.2.2.2.2.2.2.1 p.2.2.2.2.2.2.2.2.1 p.2.2.2.2.2.2.2.2.2.1 p.2.2.2.2.2.2.2.2.2.2.1 p.2.2.2.2.2.2.2.2.2.2.2.1 p.2.2.2.2.2.2.2.2.2.2.2.2.1 p.2.2.2.2.2.2.2.2.2.2.2.2.2.1 p.2.2.2.2.2.2.2.2.2.2.2.2.2.2.1 p.2.2.2.2.2.2.2.2.2.2.2.2.2.2.2.1 p.2.2.2.2.2.2.2.2.2.2.2.2.2.2.2.2.1 p.2.2.2.2.2.2.2.2.2.2.2.2.2.2.2.2.2
noncomputable def eps0 : Ty0 := @Classical.epsilon Ty0 ⟨(aWorld 1, ({} : Around), (fun _ _ => True), ({} : Shared), (default : Addr), (default : Addr), (default : Array Value), (default : Int), (default : Addr), (default : Addr), (default : Value), (default : Value), (default : Value), (default : Option Int), (default : Option Int), (default : Array Value), (default : Nat), (fun _ _ => True))⟩ (fun p => ¬ C0 p)
noncomputable def w := eps0.1
noncomputable def A := eps0.2.1
noncomputable def E := eps0.2.2.1
noncomputable def s := eps0.2.2.2.1
noncomputable def ac := eps0.2.2.2.2.1
noncomputable def ad := eps0.2.2.2.2.2.1
noncomputable def its := eps0.2.2.2.2.2.2.1
noncomputable def sz := eps0.2.2.2.2.2.2.2.1
noncomputable def sl := eps0.2.2.2.2.2.2.2.2.1
noncomputable def b := eps0.2.2.2.2.2.2.2.2.2.1
noncomputable def vl := eps0.2.2.2.2.2.2.2.2.2.2.1
noncomputable def vu := eps0.2.2.2.2.2.2.2.2.2.2.2.1
noncomputable def vs := eps0.2.2.2.2.2.2.2.2.2.2.2.2.1
noncomputable def lo := eps0.2.2.2.2.2.2.2.2.2.2.2.2.2.1
noncomputable def hi := eps0.2.2.2.2.2.2.2.2.2.2.2.2.2.2.1
noncomputable def new := eps0.2.2.2.2.2.2.2.2.2.2.2.2.2.2.2.1
noncomputable def m := eps0.2.2.2.2.2.2.2.2.2.2.2.2.2.2.2.2.1
noncomputable def Q := eps0.2.2.2.2.2.2.2.2.2.2.2.2.2.2.2.2.2
theorem main0 : Claim0 w A E s ac ad its sz sl b vl vu vs lo hi new m Q := by
 intro K X hz hz2 hs pl pu ps hb hne h
 obtain ⟨n, e⟩ := X.at_
 obtain ⟨os, hos, hcs, hds⟩ := id hs
 have hTs : s.TypeIs (.ref sl) "slice" := ⟨os, hos, hcs⟩
 have hTb : s.TypeIs (.ref b) "list" := ⟨_, hb, rfl⟩
 have z := sizeLine_eq
 unfold setItem sequenceKey
 refine wpAny_holding (wpAny_bind (wpAny_bind ((acc_type X).here ?_)))
 refine wpAny_bind ((anyM_none K accQ).here ?_)
 rw [if_pos (show (!false) = true from rfl)]
 refine wpAny_pure (wpAny_bind (acc_special K X accK.2.2.2.2.1 slot_list_setitem (acc_call (nm := "__setitem__") K X (.inr (by decide +kernel)) (by decide +kernel) slot_list_setitem.plain entry_list_setitem (args_list_setitem _ _ _) ?_)))
 show wpAny _ _ (Builtin.List.listSubscript? (.ref sl) >>= _) _ _ s
 refine wpAny_bind ?_
 unfold Builtin.List.listSubscript?
 refine wpAny_bind (wpAny_specialOf hTs slice_no_index ?_)
 simp only [Option.isNone_none, if_true]
 refine wpAny_pure ?_
 show wpAny _ _ (typeOf (.ref sl) >>= _) _ _ s
 refine wpAny_bind (wpAny_typeOf hTs ?_)
 rw [if_neg (by decide)]
 rw [listSliceParts_eq]
 refine wpAny_bind (wpAny_bind (wpAny_field hos hds (x := vs) rfl (wpAny_bind (wpAny_listPart ps ?_))))
 rw [if_neg (show ¬ ((rawPart none == rawInt 0) = true) from Bool.false_ne_true)]
 refine wpAny_bind (wpAny_field hos hds (x := vl) rfl (wpAny_bind (wpAny_listPart pl ?_)))
 refine wpAny_bind (wpAny_field hos hds (x := vu) rfl (wpAny_bind (wpAny_listPart pu (wpAny_pure ?_))))
 rw [if_neg (show ¬ (Builtin.List.listSameRef (.ref ac) (.ref b) = true) from by
  show ¬ ((ac == b) = true)
  simpa using hne)]
 unfold Builtin.List.listAllItems
 refine wpAny_bind (wpAny_bind (wpAny_typeOf hTb ?_))
 rw [if_pos (by decide)]
 unfold Builtin.List.listItems
 refine wpAny_bind (wpAny_seqItems hb rfl (wpAny_pure ?_))
 refine wpAny_bind (wpAny_bind (wpAny_seqItems e rfl (wpAny_pure ?_)))
 refine wpAny_bind (wpAny_of_eq (sliceIndices_raw lo hi none its.size (by simp)) ?_)
 have e1 : ((sliceBounds lo hi none its.size).2.2 == 1) = true := rfl
 rw [if_pos e1]
 refine wpAny_bind (wpAny_rule ?_)
 have e2 : Builtin.List.listTooLong (its.size + new.size) = false := by
  unfold Builtin.List.listTooLong
  simp; omega
 rw [e2, if_neg Bool.false_ne_true]
 refine wpAny_bind (acc_update X (by omega) ?_ fun h' X' sb => ?_)
 ·simp only [Array.size_append, Array.size_extract]
  omega
 ·refine wpAny_bind (wpAny_letGo ?_)
  exact wpAny_pure ⟨_, rfl, wpAny_pure (h h' X' sb)⟩
end Kaccsetslice
section
variable {w : World} {A : Around} {E : Value → Shared → Prop} {s : Shared} {ac ad : Addr} {its : Array Value} {sz : Int} {n : Nat}
theorem acc_setslice {sl b : Addr} {vl vu vs : Value} {lo hi : Option Int} {new : Array Value} {m : Nat} {Q : Unit → Shared → Prop} (K : (hd.heap_1 w.params).In s.heap) (X : Acc s.heap ac ad its sz) (hz : its.size < 1000) (hz2 : new.size < 1000)
  (hs : s.heap.IsSliceOf sl vl vu vs) (pl : IsPart vl lo) (pu : IsPart vu hi) (ps : IsPart vs none) (hb : s.heap.get? b = some ⟨.type "list", none, .seq new m, #[]⟩) (hne : ac ≠ b)
  (h : ∀ h', Acc h' ac ad (its.extract 0 (sliceBounds lo hi none its.size).1.toNat ++ new ++ its.extract (max (sliceBounds lo hi none its.size).1 (sliceBounds lo hi none its.size).2.1).toNat its.size) sz → Heap.SameBut ac s.heap h' → Q () { s with heap := h' }) :
  wpAny (model PW w) A (setItem (.ref ac) (.ref sl) (.ref b)) Q E s :=
 by_eps (C := Kaccsetslice.C0) _ Kaccsetslice.main0 (w, A, E, s, ac, ad, its, sz, sl, b, vl, vu, vs, lo, hi, new, m, Q) K X hz hz2 hs pl pu ps hb hne h
end
end Mine
-- MF3
namespace Mine
theorem look_md : typeLookup (.type "method_descriptor") "__get__" = pure (some (.builtin "method_descriptor.__get__")) := by rw [typeLookup_type, builtinLookup_eq_fast]; kernel_rfl
theorem slot_md : Slot "method_descriptor" "__get__" "method_descriptor.__get__" := .of (owner := "method_descriptor") (n := "__get__") (by rw [typeLookup_type, builtinLookup_eq_fast]; kernel_rfl) (by decide +kernel) (by decide +kernel) (by decide +kernel)
  (by first | exact .inl (by decide +kernel) | exact .inr (by decide +kernel)) (by rw [isSubtype_type]; kernel_rfl)
theorem entry_md : entryFor table "method_descriptor.__get__" = some Builtin.«method_descriptor.__get__» := entryFor_of_tree (by kernel_rfl)
theorem args_md (a b c : Value) : argsOk "method_descriptor.__get__" ⟨[a, b, c], []⟩ := by unfold argsOk; kernel_rfl
theorem slot_wd : Slot "wrapper_descriptor" "__get__" "wrapper_descriptor.__get__" := .of (owner := "wrapper_descriptor") (n := "__get__") (by rw [typeLookup_type, builtinLookup_eq_fast]; kernel_rfl) (by decide +kernel) (by decide +kernel) (by decide +kernel)
  (by first | exact .inl (by decide +kernel) | exact .inr (by decide +kernel)) (by rw [isSubtype_type]; kernel_rfl)
theorem entry_wd : entryFor table "wrapper_descriptor.__get__" = some Builtin.«wrapper_descriptor.__get__» := entryFor_of_tree (by kernel_rfl)
theorem args_wd (a b c : Value) : argsOk "wrapper_descriptor.__get__" ⟨[a, b, c], []⟩ := by unfold argsOk; kernel_rfl
theorem type_pop : typeOf (.builtin "list.pop") = pure (.type "method_descriptor") := by show builtinType _ = _; rw [builtinType_eq_fast]; kernel_rfl
theorem type_len : typeOf (.builtin "list.__len__") = pure (.type "wrapper_descriptor") := by show builtinType _ = _; rw [builtinType_eq_fast]; kernel_rfl
theorem type_init : typeOf (.builtin "list.__init__") = pure (.type "wrapper_descriptor") := by show builtinType _ = _; rw [builtinType_eq_fast]; kernel_rfl
theorem along_pop (K : Frag) : alongIn K "pop" [.type "list", .type "object"] = some (some (.builtin "list.pop")) := by kernel_rfl
theorem along_len (K : Frag) : alongIn K "__len__" [.type "list", .type "object"] = some (some (.builtin "list.__len__")) := by kernel_rfl
theorem along_init (K : Frag) : alongIn K "__init__" [.type "list", .type "object"] = some (some (.builtin "list.__init__")) := by kernel_rfl
theorem accS {w : World} : nsIn (hd.heap_1 w.params) cStatics "thirdparty.any" = some none := by
 have hh := Eq.refl (PySem.Challenge.rw_xl0021_01, hd.heap_1)
 revert hh
 k_fill
 intro _
 have e : nsIn (hd.heap_1 w.params) cStatics "thirdparty.any" = some none := by k_is
 exact e
noncomputable abbrev bndO (T id : String) (ac : Addr) : Obj := { cls := .type T, data := .fields #[.builtin id, .ref ac] }
section
variable {w : World} {A : Around} {E : Value → Shared → Prop} {s : Shared} {ac ad : Addr} {its : Array Value} {sz : Int} {n : Nat}
theorem md_get {Q : Value → Shared → Prop} (K : (hd.heap_1 w.params).In s.heap) (X : Acc s.heap ac ad its sz) (h : Q (.ref s.heap.objs.size) { s with heap := s.heap.push (bndO "builtin_function_or_method" "list.pop" ac) }) :
  wpAny (model PW w) A (call (.builtin "method_descriptor.__get__") [.builtin "list.pop", .ref ac, .ref 178]) Q E s := by
 refine wpAny_call_entry slot_md type_pop entry_md ?_ (args_md _ _ _)
 unfold Builtin.«method_descriptor.__get__»
 refine wpAny_bind (wpAny_of_eq (a := (.builtin "list.pop", some (.ref ac), some (.ref 178))) rfl ?_)
 dsimp only
 rw [if_neg (by decide +kernel)]
 refine wpAny_bind ?_
 refine wpAny_bind (wpAny_of_eq (a := ((Str.ofString "pop", .type "list") : Str × Value)) (by kernel_rfl) ?_)
 refine wpAny_bind ((acc_isList K X).here ?_)
 rw [if_neg (by decide)]
 refine wpAny_pure ?_
 exact wpAny_bind (wpAny_newObj_type (wpAny_pure ⟨_, rfl, h⟩) (by show (2 : Nat) ≤ _; rw [sizeLine_eq]; exact Nat.le_of_ble_eq_true rfl))
theorem wd_get {id : String} {nm : Str} {Q : Value → Shared → Prop} (K : (hd.heap_1 w.params).In s.heap) (X : Acc s.heap ac ad its sz) (ht : typeOf (.builtin id) = pure (.type "wrapper_descriptor"))
  (hn : ∀ (k : Str × Value → Sem Unit), ((fun (d : Value) => (match d with
   | .builtin id => let (owner, name) := ((".".intercalate (id.cutAt '.').dropLast, (id.cutAt '.').getLastD "") : String × String); pure ((Str.ofString name, Value.type owner) : Str × Value)
   | _ => pure (nm, .none) : Sem (Str × Value))) (.builtin id)) = pure (nm, .type "list"))
  (h : Q (.ref s.heap.objs.size) { s with heap := s.heap.push (bndO "method-wrapper" id ac) }) :
  wpAny (model PW w) A (call (.builtin "wrapper_descriptor.__get__") [.builtin id, .ref ac, .ref 178]) Q E s := by
 refine wpAny_call_entry slot_wd ht entry_wd ?_ (args_wd _ _ _)
 unfold Builtin.«wrapper_descriptor.__get__»
 refine wpAny_bind (wpAny_of_eq (a := (.builtin id, some (.ref ac), some (.ref 178))) rfl ?_)
 refine wpAny_bind ?_
 refine wpAny_bind (wpAny_of_eq (a := ((nm, .type "list") : Str × Value)) (hn (fun _ => pure ())) ?_)
 refine wpAny_bind ((acc_isList K X).here ?_)
 rw [if_neg (by decide)]
 refine wpAny_pure ?_
 exact wpAny_bind (wpAny_newObj_type (wpAny_pure ⟨_, rfl, h⟩) (by show (2 : Nat) ≤ _; rw [sizeLine_eq]; exact Nat.le_of_ble_eq_true rfl))
noncomputable abbrev supO (ac : Addr) : Obj := { cls := .type "super", dict := none, data := .fields #[.ref 178, .ref ac, .ref 178], slots := #[] }
theorem acc_mro {M : Model} {h : Heap} (K : (hd.heap_1 w.params).In h) : Looks M h (mroOf (.ref 178)) [.ref 178, .type "list", .type "object"] := by
 obtain ⟨cd, hc, hm, _⟩ := accC (w := w)
 rw [← hm]
 exact (looks_clsIn K hc).andThen .now
end
namespace Ksuperga
noncomputable def Claim0 (w : World) (A : Around) (E : Value → Shared → Prop) (ac : Addr) (so : Addr) (f : Value) (tf : String) (gg : String) (name : Str) (tk : Tok) (Q : PySem.Fin → Shared → Prop) : Prop :=
 ∀ (s : Shared) (K : (hd.heap_1 w.params).In s.heap) (hso : s.heap.get? so = some (supO ac)) (hac : ac ≠ 178) (hf : alongIn (hd.heap_1 w.params) name [.type "list", .type "object"] = some (some f)) (htf : typeOf f = pure (.type tf)) (hlk : typeLookup (.type tf) "__get__" = pure (some (.builtin gg))) (hn : (name == ("__class__" : Str)) = false) (hq : wpAny (model PW w) A (call (.builtin gg) [f, .ref ac, .ref 178]) (fun v s' => Q (.done (.ret v)) s') E s), wpAny (model PW w) A (Builtin.«super.__getattribute__» ⟨[.ref so, .str name tk], []⟩) Q E s
noncomputable abbrev Ty0 := (World) × (Around) × (Value → Shared → Prop) × (Addr) × (Addr) × (Value) × (String) × (String) × (Str) × (Tok) × (PySem.Fin → Shared → Prop)
noncomputable def C0 (p : Ty0) : Prop := Claim0 p.1 p.2.1 p.2.2.1 p.2.2.2.1 p.2.2.2.2.1 p.2.2.2.2.2.1 p.2.2.2.2.2.2.1 p.2.2.2.2.2.2.2.1 p.2.2.2.2.2.2.2.2.1 p.2.2.2.2.2.2.2.2.2.1 p.2.2.2.2.2.2.2.2.2.2
noncomputable def eps0 : Ty0 := @Classical.epsilon Ty0 ⟨(aWorld 1, ({} : Around), (fun _ _ => True), (default : Addr), (default : Addr), (default : Value), (default : String), (default : String), (default : Str), (default : Tok), (fun _ _ => True))⟩ (fun p => ¬ C0 p)
noncomputable def w := eps0.1
noncomputable def A := eps0.2.1
noncomputable def E := eps0.2.2.1
noncomputable def ac := eps0.2.2.2.1
noncomputable def so := eps0.2.2.2.2.1
noncomputable def f := eps0.2.2.2.2.2.1
noncomputable def tf := eps0.2.2.2.2.2.2.1
noncomputable def gg := eps0.2.2.2.2.2.2.2.1
noncomputable def name := eps0.2.2.2.2.2.2.2.2.1
noncomputable def tk := eps0.2.2.2.2.2.2.2.2.2.1
noncomputable def Q := eps0.2.2.2.2.2.2.2.2.2.2
theorem main0 : Claim0 w A E ac so f tf gg name tk Q := by
 intro s K hso hac hf htf hlk hn hq
 obtain ⟨h, g, d, t, os⟩ := s
 have hno := looks_opaque (M := model PW w) (C := 178) K accS
 have hC := acc_mro (w := w) (M := model PW w) K
 have hne : (Value.ref ac == Value.ref 178) = false := by simp [hac]
 have hdt : (supO ac).data = .fields #[.ref 178, .ref ac, .ref 178] := rfl
 have f0 : (#[.ref 178, .ref ac, .ref 178] : Array Value)[0]? = some (.ref 178) := rfl
 have f1 : (#[.ref 178, .ref ac, .ref 178] : Array Value)[1]? = some (.ref ac) := rfl
 have f2 : (#[.ref 178, .ref ac, .ref 178] : Array Value)[2]? = some (.ref 178) := rfl
 have hl : (([.ref 178, .type "list", .type "object"] : List Value).dropWhile (· != .ref 178)).drop 1 = [.type "list", .type "object"] := by decide +kernel
 unfold Builtin.«super.__getattribute__»
 repeat (first
  | (with_reducible refine wpAny_field hso hdt f0 ?_) | (with_reducible refine wpAny_field hso hdt f1 ?_) | (with_reducible refine wpAny_field hso hdt f2 ?_)
  | (with_reducible refine ks_wpAny_notOpaque hno ?_)
  | (with_reducible refine Looks.at hC ?_; rw [hl])
  | (refine ks_forIn_along K (fun _ _ => rfl) rfl ?_ hf)
  | (with_reducible refine wpAny_of_eq htf ?_)
  | (with_reducible refine wpAny_mono hq (fun v s' z => ?_) fun _ _ z => z)
  | (with_reducible refine wpAny_of_eq hlk ?_)
  | (simp only [hn, hne, Bool.or_false, Bool.false_eq_true, if_false])
  | wp_step
  | dsimp only)
 exact z
end Ksuperga
section
variable {w : World} {A : Around} {E : Value → Shared → Prop} {s : Shared} {ac ad : Addr} {its : Array Value} {sz : Int} {n : Nat}
theorem super_ga {so : Addr} {f : Value} {tf gg : String} {name : Str} {tk : Tok} {Q : PySem.Fin → Shared → Prop} (K : (hd.heap_1 w.params).In s.heap) (hso : s.heap.get? so = some (supO ac)) (hac : ac ≠ 178)
  (hf : alongIn (hd.heap_1 w.params) name [.type "list", .type "object"] = some (some f)) (htf : typeOf f = pure (.type tf)) (hlk : typeLookup (.type tf) "__get__" = pure (some (.builtin gg))) (hn : (name == ("__class__" : Str)) = false)
  (hq : wpAny (model PW w) A (call (.builtin gg) [f, .ref ac, .ref 178]) (fun v s' => Q (.done (.ret v)) s') E s) :
  wpAny (model PW w) A (Builtin.«super.__getattribute__» ⟨[.ref so, .str name tk], []⟩) Q E s :=
 by_eps (C := Ksuperga.C0) _ Ksuperga.main0 (w, A, E, ac, so, f, tf, gg, name, tk, Q) s K hso hac hf htf hlk hn hq
theorem super_method {so : Addr} {f : Value} {tf gg : String} {name : Str} {pl : Sem Bool} {Q : Value × List Value → Shared → Prop} (K : (hd.heap_1 w.params).In s.heap) (hso : s.heap.get? so = some (supO ac)) (hac : ac ≠ 178)
  (hf : alongIn (hd.heap_1 w.params) name [.type "list", .type "object"] = some (some f)) (htf : typeOf f = pure (.type tf)) (hlk : typeLookup (.type tf) "__get__" = pure (some (.builtin gg))) (hn : (name == ("__class__" : Str)) = false)
  {o : Obj} (hq : ∀ (A' : Around) (Q' : Value → Shared → Prop) (E' : Value → Shared → Prop) (s' : Shared), s'.heap = s.heap → Q' (.ref s'.heap.objs.size) { s' with heap := s'.heap.push o } → wpAny (model PW w) A' (call (.builtin gg) [f, .ref ac, .ref 178]) Q' E' s')
  (h : Q (.ref s.heap.objs.size, []) { s with heap := s.heap.push o, toks := s.toks + 1 }) :
  wpAny (model PW w) A (getMethod (.ref so) name pl) Q E s := by
 obtain ⟨hp, g, d, t, os⟩ := s
 have hlk' := PySem.F.ks_slot_super_ga.lookup
 have hcan := PySem.F.ks_canon_super_ga
 have hT : ∀ t', (⟨hp, g, d, t', os⟩ : Shared).TypeIs (.ref so) "super" := fun _ => ⟨_, hso, rfl⟩
 unfold getMethod
 refine wpAny_bind (wpAny_specialOf (hT _) hlk' ?_)
 show wpAny _ _ (if (Manifest.canonical "super.__getattribute__" != "object.__getattribute__") = true then _ else _) _ _ _
 rw [if_pos hcan]
 unfold getAttr getAttrBy
 refine wpAny_bind (wpAny_bind (wpAny_mkText (wpAny_holding (wpAny_bind (wpAny_typeOf (hT _) (wpAny_bind (wpAny_of_eq hlk' ?_)))))))
 show wpAny _ _ (getAttrByItsOwn (.ref so) (.str name t) (.type "super") (.builtin "super.__getattribute__") true false) _ _ _
 unfold getAttrByItsOwn hookBefore callGetattribute boundAndCalled
 refine wpAny_bind (wpAny_of_eq (show (if onTheHeap (.type "super") then typeLookup (.type "super") "__getattr__" else pure none) = pure none from rfl) ?_)
 refine wpAny_bind (wpAny_attempt (wpAny_holding ?_))
 show wpAny _ _ (bindSpecial (.builtin "super.__getattribute__") (.ref so) >>= _) _ _ _
 refine wpAny_bind (wpAny_of_eq (PySem.F.ks_slot_super_ga.bind _) ?_)
 refine wpAny_mono (Q := fun v s' => v = .ref hp.objs.size ∧ s' = ⟨hp.push o, g, d, t + 1, os⟩) (E := fun _ _ => False)
  (wpAny_call_entry PySem.F.ks_slot_super_ga (hT _) PySem.F.ks_entry_super_ga (super_ga (s := ⟨hp, g, d, t + 1, os⟩) K hso hac hf htf hlk hn (hq _ _ _ ⟨hp, g, d, t + 1, os⟩ rfl ⟨_, rfl, rfl, rfl⟩)) (PySem.F.ks_gaArgs_super _ _)) (fun v s' hv => ?_) fun _ _ z => z.elim
 obtain ⟨rfl, rfl⟩ := hv
 exact wpAny_pure (wpAny_pure h)
theorem bnd_with {u : Addr} {T id : String} {env : Env} {pos : Pos} {Q : Value → Shared → Prop} (hu : s.heap.get? u = some (bndO T id ac)) (hT : T = "builtin_function_or_method" ∨ T = "method-wrapper")
  (h : wpAny (model PW w) A (call (.ref u) []) Q E s) : wpAny (model PW w) A (callWith pos (.ref u) [] (backTo pos (starEach [] env)) []) Q E s := by
 unfold callWith
 refine wpAny_bind (wpAny_holding (PySem.evalArgs_none (wpAny_bind (wpAny_standAt ?_))))
 refine wpAny_bind (m := keeperOf (.ref u)) ?_
 unfold keeperOf
 refine wpAny_bind (wpAny_load hu ?_)
 rcases hT with rfl | rfl
 ·exact wpAny_pure (wpAny_bind (wpAny_mono h (fun r s₂ hr => wpAny_bind (wpAny_holding (wpAny_point (wpAny_pure hr)))) fun _ _ x => x))
 ·exact wpAny_pure (wpAny_bind (wpAny_mono h (fun r s₂ hr => wpAny_bind (wpAny_holding (wpAny_point (wpAny_pure hr)))) fun _ _ x => x))
theorem bnd_call {u : Addr} {T id : String} {B : Builtin} {Q : Value → Shared → Prop} (hu : s.heap.get? u = some (bndO T id ac)) (hT : T = "builtin_function_or_method" ∨ T = "method-wrapper") (hp : plainId id = true) (hB : entryFor table id = some B)
  (hck : ∀ (A' : Around) (Q' : Unit → Shared → Prop) (E' : Value → Shared → Prop), Q' () s → wpAny (model PW w) A' (checkBoundCall id ⟨[.ref ac], []⟩) Q' E' s)
  (hc : wpAny (model PW w) A.in1 (B ⟨[.ref ac], []⟩) (fun fin s' => ∃ v, fin = .done (.ret v) ∧ Q v s') E s) : wpAny (model PW w) A (call (.ref u) []) Q E s := by
 refine wpAny_call (codeAny_of_tree ?_)
 show wpAny _ A.in1 (callAny (.ref u) ⟨[], []⟩) _ _ _
 unfold callAny
 refine wpAny_bind (wpAny_load hu ?_)
 have key : wpAny (model PW w) A.in1 (checkBoundCall id ⟨[.ref ac], []⟩ >>= fun _ => again (.builtin id ⟨[.ref ac], []⟩)) (fun fin s' => match fin with | .done f => (match Except.ok f with | .ok (.ret v) => Q v s' | .ok _ => False | .error e => E e s') | .again c' => c'.quiet = true ∧ codeAny (model PW w) A c' (fun r s' => match r with | .ok (.ret v) => Q v s' | .ok _ => False | .error e => E e s') s') E s := by
  refine wpAny_bind (hck _ _ _ ?_)
  refine wpAny_pure ⟨plainId_quiet hp _, codeAny_builtin hB ?_⟩
  rw [Around.under_plainId hp _]
  refine wpAny_mono hc (fun fin s' z => ?_) fun _ _ z => z
  obtain ⟨v, rfl, z⟩ := z
  exact z
 rcases hT with rfl | rfl
 ·exact key
 ·exact key
theorem pop_args (a : Value) : (match Manifest.signature? "list.pop" with | some sig => Bind.checkArgs "list.pop" { sig with full := s!"{(Str.ofString "_Accumulator").toString}.{Bind.lastOf "list.pop"}" } ⟨[a], []⟩ | none => pure ()) = (pure () : Sem Unit) := by kernel_rfl
theorem accT {w : World} : typeIn (hd.heap_1 w.params) (.ref 178) = some (.type "type") ∧ mroIn (hd.heap_1 w.params) 178 (.type "module") = some false := by
 have hh := Eq.refl (PySem.Challenge.rw_xl0021_01, hd.heap_1)
 revert hh
 k_fill
 intro _
 have e1 : typeIn (hd.heap_1 w.params) (.ref 178) = some (.type "type") := by k_is
 have e2 : mroIn (hd.heap_1 w.params) 178 (.type "module") = some false := by k_is
 exact ⟨e1, e2⟩
theorem check_pop (K : (hd.heap_1 w.params).In s.heap) (X : Acc s.heap ac ad its sz) {Q : Unit → Shared → Prop} (h : Q () s) : wpAny (model PW w) A (checkBoundCall "list.pop" ⟨[.ref ac], []⟩) Q E s := by
 have hk : builtinKind "list.pop" = some .method := by decide +kernel
 have hv : Manifest.varargsMethods.contains "list.pop" = false := by decide +kernel
 obtain ⟨cd, hc, hm, _, hqn⟩ := accC (w := w)
 obtain ⟨n, e⟩ := X.at_
 have hi : Looks (model PW w) s.heap (isInstance (.ref ac) (.type "module")) false := (acc_type X).andThen (looks_mroIn K accT.2)
 unfold checkBoundCall
 cases hs : Manifest.signature? "list.pop" with
 | none => exact wpAny_pure h
 | some sig =>
  have pa := pop_args
  simp only [hs] at pa
  dsimp only
  rw [hk]
  dsimp only
  rw [if_neg (by decide)]
  refine wpAny_bind (hi.here ?_)
  rw [hv, if_neg (by decide)]
  refine wpAny_bind ?_
  obtain ⟨hp, g, d, t, os⟩ := s
  refine ks_wpAny_isType_inst e (fun c q => nomatch q) ?_
  rw [if_neg (by decide)]
  refine wpAny_bind ((acc_type X).here ?_)
  dsimp only
  refine wpAny_bind ((looks_clsIn K hc).here ?_)
  refine wpAny_bind ((looks_typeIn K accT.1).here ?_)
  rw [if_pos (by decide), hqn, pa]
  exact wpAny_pure h
end
end Mine
-- MF4
namespace Mine
section
variable {w : World} {A : Around} {E : Value → Shared → Prop} {s : Shared} {ac ad : Addr} {its : Array Value} {sz : Int} {n : Nat}
theorem body_pop {y : Value} {Q : Value → Shared → Prop} (X : Acc s.heap ac ad its sz) (hz : its.size < 1000) (hy : its[its.size - 1]? = some y)
  (h : ∀ h', Acc h' ac ad (its.eraseIdxIfInBounds (its.size - 1)) sz → Heap.SameBut ac s.heap h' → Q y { s with heap := h' }) :
  wpAny (model PW w) A (Builtin.«list.pop» ⟨[.ref ac], []⟩) (fun fin s' => ∃ v, fin = .done (.ret v) ∧ Q v s') E s := by
 obtain ⟨n, e⟩ := X.at_
 have hpos : 0 < its.size := by
  rcases Nat.eq_zero_or_pos its.size with h0 | h0
  ·simp [h0] at hy
  ·exact h0
 have hne : ¬ its.isEmpty = true := by
  intro he; have : its.size = 0 := by simpa using he
  omega
 have hk : seqIndex? (-1) its.size = some (its.size - 1) := seq_at (by omega) (.inr (by omega))
 unfold Builtin.«list.pop»
 refine wpAny_bind (wpAny_of_eq (a := ((.ref ac, []) : Value × List Value)) rfl ?_)
 dsimp only
 refine wpAny_bind (wpAny_pure ?_)
 rw [if_neg (by decide)]
 unfold Builtin.List.listItems
 refine wpAny_bind (wpAny_bind (wpAny_seqItems e rfl (wpAny_pure ?_)))
 rw [if_neg hne, hk, Option.bind_some, hy]
 exact wpAny_bind (acc_update X (by rw [sizeLine_eq]; omega) (by rw [sizeLine_eq]; unfold Array.eraseIdxIfInBounds; split <;> (try simp) <;> omega) fun h' X' sb => wpAny_pure ⟨_, rfl, h h' X' sb⟩)
theorem body_len {Q : Value → Shared → Prop} (X : Acc s.heap ac ad its sz) (h : ∀ t tk, Q (.int its.size t) { s with toks := tk }) :
  wpAny (model PW w) A (Builtin.«list.__len__» ⟨[.ref ac], []⟩) (fun fin s' => ∃ v, fin = .done (.ret v) ∧ Q v s') E s := by
 obtain ⟨n, e⟩ := X.at_
 unfold Builtin.«list.__len__»
 refine wpAny_bind (wpAny_of_eq (a := ((.ref ac, []) : Value × List Value)) rfl ?_)
 dsimp only
 refine wpAny_bind ?_
 unfold seqSize
 refine wpAny_bind (wpAny_loadPart e ?_)
 exact wpAny_pure (wpAny_bind (wpAny_mkInt (wpAny_pure ⟨_, rfl, h _ _⟩)))
theorem body_init {Q : Value → Shared → Prop} (X : Acc s.heap ac ad its sz) (hz : its.size < 1000) (h : ∀ h', Acc h' ac ad #[] sz → Heap.SameBut ac s.heap h' → Q .none { s with heap := h' }) :
  wpAny (model PW w) A (Builtin.«list.__init__» ⟨[.ref ac], []⟩) (fun fin s' => ∃ v, fin = .done (.ret v) ∧ Q v s') E s := by
 obtain ⟨n, e⟩ := X.at_
 show wpAny _ _ (do let old ← Builtin.List.listItems (.ref ac); Builtin.List.listUpdate (.ref ac) (fun _ => #[]); letGo old.toList.reverse; ret .none) _ _ s
 unfold Builtin.List.listItems
 refine wpAny_bind (wpAny_bind (wpAny_seqItems e rfl (wpAny_pure ?_)))
 refine wpAny_bind (acc_update X (by rw [sizeLine_eq]; omega) (by rw [sizeLine_eq]; exact Nat.le_of_ble_eq_true rfl) fun h' X' sb => ?_)
 exact wpAny_bind (wpAny_letGo (wpAny_pure ⟨_, rfl, h h' X' sb⟩))
theorem body_iter {Q : Value → Shared → Prop} (X : Acc s.heap ac ad its sz) (h : Q (.ref s.heap.objs.size) { s with heap := s.heap.push { cls := .type "list_iterator", data := .fields #[.ref ac, rawInt 0] } }) :
  wpAny (model PW w) A (Builtin.«list.__iter__» ⟨[.ref ac], []⟩) (fun fin s' => ∃ v, fin = .done (.ret v) ∧ Q v s') E s := by
 unfold Builtin.«list.__iter__»
 refine wpAny_bind (wpAny_of_eq (a := ((.ref ac, []) : Value × List Value)) rfl ?_)
 exact wpAny_bind (wpAny_newObj_type (wpAny_pure ⟨_, rfl, h⟩) (by show (2 : Nat) ≤ _; rw [sizeLine_eq]; exact Nat.le_of_ble_eq_true rfl))
theorem acc_unless {T : String} {name : Str} {id : String} {refuse : Sem Value} {Q : Option Value → Shared → Prop} (K : (hd.heap_1 w.params).In s.heap) (X : Acc s.heap ac ad its sz) (hf : findIn (hd.heap_1 w.params) (.ref 178) name = some (some (.builtin id))) (h : Slot T name id)
  (hc : wpAny (model PW w) A (call (.builtin id) [.ref ac]) (fun v => Q (some v)) E s) : wpAny (model PW w) A (callSpecialIfBoundUnlessNone? (.ref ac) name refuse) Q E s := by
 simp only [callSpecialIfBoundUnlessNone?, bindSpecialIfBound?, specialOf]
 refine wpAny_holding (wpAny_bind (wpAny_bind (wpAny_bind ((acc_type X).here ((looks_findIn K hf).here ?_)))))
 simp only [h.bind]
 refine wpAny_bind (wpAny_askSetting (wpAny_ite ?_))
 have fin : wpAny (model PW w) A (if (Value.builtin id == Value.none) = true then (refuse >>= fun v => pure (some v)) else (call (.builtin id) [.ref ac] >>= fun v => pure (some v))) Q E s := by
  simp only [builtin_beq_none, Bool.false_eq_true, if_false]
  exact wpAny_bind (wpAny_mono hc (fun v s' h' => wpAny_pure h') fun _ _ h' => h')
 split
 ·exact wpAny_bind (wpAny_pure (wpAny_pure fin))
 ·exact wpAny_tryCatch (wpAny_bind (wpAny_pure (wpAny_pure fin)))
theorem acc_pyIter {Q : Value → Shared → Prop} (K : (hd.heap_1 w.params).In s.heap) (X : Acc s.heap ac ad its sz)
  (h : Q (.ref s.heap.objs.size) { s with heap := s.heap.push { cls := .type "list_iterator", data := .fields #[.ref ac, rawInt 0] } }) : wpAny (model PW w) A (pyIter (.ref ac)) Q E s := by
 unfold pyIter specialOf
 refine wpAny_bind (wpAny_bind ((acc_type X).here ((looks_findIn K accK.2.2.2.2.2.1).here ?_)))
 show wpAny _ _ (callSpecialIfBoundUnlessNone? (.ref ac) "__iter__" _ >>= _) _ _ _
 refine wpAny_bind (acc_unless K X accK.2.2.2.2.2.1 slot_list_iter ?_)
 refine acc_call (nm := "__iter__") K X (by first | exact .inl (by decide +kernel) | exact .inr (by decide +kernel)) (by decide +kernel) slot_list_iter.plain entry_list_iter (args_list_iter _) (body_iter X ?_)
 have ht : ({ s with heap := s.heap.push { cls := .type "list_iterator", data := .fields #[.ref ac, rawInt 0] } } : Shared).TypeIs (.ref s.heap.objs.size) "list_iterator" := ⟨_, get_push _ _, rfl⟩
 exact wpAny_bind (wpAny_bind (wpAny_typeOf ht (wpAny_of_eq slot_listiter_next.lookup (wpAny_pure h))))
noncomputable def AccWalk (ac : Addr) (its : Array Value) (h : Heap) : Prop := ∃ o n, h.get? ac = some o ∧ o.data = .seq its n
theorem acc_next {it : Addr} {i : Nat} {x : Value} {Q : Option Value → Shared → Prop} (hit : s.heap.IsListIter it ac i) (hl : AccWalk ac its s.heap) (hx : its[i]? = some x)
  (hQ : ∀ h', h'.IsListIter it ac (i + 1) → Heap.SameBut it s.heap h' → Q (some x) { s with heap := h' }) : wpAny (model PW w) A (pyNext (.ref it)) Q E s := by
 obtain ⟨o, ho, hc, hd⟩ := id hit
 obtain ⟨ol, nl, hol, hdl⟩ := hl
 unfold pyNext
 refine wpAny_bind (wpAny_attempt (wpAny_callSpecial?_slot (name := Str.ofString "__next__") hit.typeIs slot_listiter_next
  (wpAny_call_entry slot_listiter_next hit.typeIs entry_listiter_next ?_ (args_listiter_next _))))
 show wpAny _ _ (field (.ref it) 0 >>= _) _ _ s
 refine wpAny_bind (wpAny_field ho hd (x := .ref ac) rfl ?_)
 show wpAny _ _ (if (Value.ref ac == Value.none) = true then _ else _) _ _ s
 rw [if_neg (show ¬ ((Value.ref ac == Value.none) = true) from Bool.false_ne_true)]
 show wpAny _ _ (field (.ref it) 1 >>= _) _ _ s
 refine wpAny_bind (wpAny_field ho hd (x := .int i 0) rfl ?_)
 show wpAny _ _ (seqItems? (.ref ac) >>= _) _ _ s
 refine wpAny_bind (wpAny_seqItems hol hdl ?_)
 simp only [Int.toNat_natCast, hx]
 refine wpAny_bind (wpAny_setField ho hd (by simp) (wpAny_pure ⟨x, rfl, wpAny_pure (hQ _ ?_ (Heap.SameBut.update ..))⟩))
 exact ⟨_, Heap.get?_update_self _ ho (Obj.isFreed_of_fields (Obj.data_mapFields hd _)), (Obj.cls_mapFields ..).trans hc, by
  rw [Obj.data_mapFields hd]; simp [rawInt]⟩
theorem acc_end {it : Addr} {i : Nat} {Q : Option Value → Shared → Prop} (hh : A.handled = none) (hit : s.heap.IsListIter it ac i) (hl : AccWalk ac its s.heap) (hx : its[i]? = none)
  (hQ : ∀ h', Heap.ExtBut it s.heap h' → Q none { s with heap := h' }) : wpAny (model PW w) A (pyNext (.ref it)) Q E s := by
 obtain ⟨o, ho, hc, hd⟩ := id hit
 obtain ⟨ol, nl, hol, hdl⟩ := hl
 unfold pyNext
 refine wpAny_bind (wpAny_attempt (wpAny_callSpecial?_slot (name := Str.ofString "__next__") hit.typeIs slot_listiter_next
  (wpAny_call_entry slot_listiter_next hit.typeIs entry_listiter_next ?_ (args_listiter_next _))))
 show wpAny _ _ (field (.ref it) 0 >>= _) _ _ s
 refine wpAny_bind (wpAny_field ho hd (x := .ref ac) rfl ?_)
 show wpAny _ _ (if (Value.ref ac == Value.none) = true then _ else _) _ _ s
 rw [if_neg (show ¬ ((Value.ref ac == Value.none) = true) from Bool.false_ne_true)]
 show wpAny _ _ (field (.ref it) 1 >>= _) _ _ s
 refine wpAny_bind (wpAny_field ho hd (x := .int i 0) rfl ?_)
 show wpAny _ _ (seqItems? (.ref ac) >>= _) _ _ s
 refine wpAny_bind (wpAny_seqItems hol hdl ?_)
 simp only [Int.toNat_natCast, hx]
 refine wpAny_bind (wpAny_rule (wpAny_bind (wpAny_setField ho hd (by simp) ?_)))
 show wpAny _ _ (newExc (.type "StopIteration") [] >>= _) _ _ _
 refine wpAny_bind ?_
 simp only [newExc, newTuple]
 refine wpAny_bind (wpAny_newObj_type ?_ (by size_fits))
 refine wpAny_bind (m := firstArgMember _ _) (wpAny_of_eq (a := Value.none) (by first | rfl | (simp only [firstArgMember]; rfl)) ?_)
 refine wpAny_newObj_type ?_ (by size_fits)
 simp only [raiseNew]
 refine wpAny_bind (wpAny_handled ?_)
 rw [show A.in1.handled = none from hh]
 refine wpAny_bind (wpAny_pure (wpAny_throw ?_))
 refine wpAny_bind (wpAny_isInstance (T := "StopIteration") (b := true) ⟨_, Heap.get?_push_size _ rfl, rfl⟩ isSubtype_stop ?_)
 exact wpAny_pure (hQ _ (((Heap.SameBut.update ..).extBut.push _).push _))
theorem walk_acc (hh : A.handled = none) (I ac : Addr) (hne : ac ≠ I) (its : Array Value) :
  Walks PW w A I [I, ac] [I] its.size (fun i v => its[i]? = some v) (fun i h => h.IsListIter I ac i ∧ AccWalk ac its h) where
 sub := fun b hb => by simp at hb; simp [hb]
 frame := fun _ _ _ st hk => ⟨st.1.at fun o e => hk I (by simp) o e, let ⟨o, n, e, d⟩ := st.2; ⟨o, n, hk ac (by simp) o e, d⟩⟩
 item := fun i s Q E hi st hQ => by
  refine acc_next st.1 st.2 (x := its[i]) (by simp [hi]) fun h' hit' hs' => ?_
  obtain ⟨o, n, e, d⟩ := st.2
  exact hQ _ h' s.toks (by simp [hi]) ⟨hit', o, n, hs'.extBut _ _ hne e, d⟩ fun b o hb e => hs'.extBut b o (fun h => hb (by simp [h])) e
 done := fun s Q E st hQ => acc_end hh st.1 st.2 (by simp) fun h' he' => hQ h' s.toks fun b o hb e => he' b o (fun h => hb (by simp [h])) e
 self := fun _ _ _ _ st hQ => wpAny_pyIter_listiter st.1 hQ
end
end Mine
-- MF5
namespace Mine
noncomputable abbrev Piece := List Nat × List Nat
noncomputable abbrev PD (p : Piece) : D := .tuple [.str (S p.1), .str (S p.2)]
noncomputable def refsOf : List Value → List Addr
 | [] => []
 | .ref a :: r => a :: refsOf r
 | _ :: r => refsOf r
theorem mem_refs {l : List Value} {a : Addr} (h : .ref a ∈ l) : a ∈ refsOf l := by
 induction l with
 | nil => cases h
 | cons v r ih =>
  rcases List.mem_cons.mp h with rfl | h2
  ·exact .head _
  ·cases v <;> first | exact .tail _ (ih h2) | exact ih h2
theorem refs_mem {l : List Value} {a : Addr} (h : a ∈ refsOf l) : .ref a ∈ l := by
 induction l with
 | nil => cases h
 | cons v r ih =>
  cases v with
  | ref b =>
   rcases List.mem_cons.mp h with rfl | h
   ·exact .head _
   ·exact .tail _ (ih h)
  | _ => exact .tail _ (ih h)
noncomputable def PV2 (h : Heap) (vs : List Value) (ps : List Piece) : Prop := VDs h vs (ps.map PD)
theorem PV2.frame {h h' : Heap} : ∀ {vs : List Value} {ps : List Piece}, PV2 h vs ps → (∀ b ∈ refsOf vs, ∀ o, h.get? b = some o → h'.get? b = some o) → PV2 h' vs ps
 | [], [], _, _ => .nil
 | [], _ :: _, x, _ => nomatch x
 | _ :: _, [], x, _ => nomatch x
 | v :: vs, p :: ps, .cons a r, k => by
  obtain ⟨_, _, _, rfl, l, e, hs⟩ := VD.tupleE a
  refine .cons (.tuple l (k _ (.head _) _ e) ?_) (PV2.frame r fun b hb => k b (.tail _ hb))
  obtain ⟨_, _, rfl, a1, hs⟩ := VDs.consE hs
  obtain ⟨_, _, rfl, a2, hs⟩ := VDs.consE hs
  obtain rfl := VDs.nilE hs; obtain ⟨_, rfl⟩ := VD.strE a1; obtain ⟨_, rfl⟩ := VD.strE a2
  exact .cons (.str _ _) (.cons (.str _ _) .nil)
namespace KPV2at
noncomputable def Claim0 (h : Heap) (vs : List Value) (ps : List Piece) (i : Nat) : Prop :=
 ∀ (x : PV2 h vs ps) (v : Value) (e : vs[i]? = some v), ∃ T n t u p, v = .ref T ∧ ps[i]? = some p ∧ h.get? T = some ⟨.type "tuple", none, .seq #[.str (S p.1) t, .str (S p.2) u] n, #[]⟩
noncomputable abbrev Ty0 := (Heap) × (List Value) × (List Piece) × (Nat)
noncomputable def C0 (p : Ty0) : Prop := Claim0 p.1 p.2.1 p.2.2.1 p.2.2.2
noncomputable def eps0 : Ty0 := @Classical.epsilon Ty0 ⟨((default : Heap), (default : List Value), (default : List Piece), (default : Nat))⟩ (fun p => ¬ C0 p)
noncomputable def h := eps0.1
noncomputable def vs := eps0.2.1
noncomputable def ps := eps0.2.2.1
noncomputable def i := eps0.2.2.2
theorem main0 : Claim0 h vs ps i := by
 intro x v e
 obtain ⟨d, e1, e2⟩ := VDs.at x e
 rw [List.getElem?_map] at e1
 obtain ⟨p, e3, rfl⟩ := Option.map_eq_some_iff.mp e1
 obtain ⟨T, n, ws, rfl, l, g, hs⟩ := VD.tupleE e2
 obtain ⟨_, _, rfl, a1, hs⟩ := VDs.consE hs
 obtain ⟨_, _, rfl, a2, hs⟩ := VDs.consE hs
 obtain rfl := VDs.nilE hs; obtain ⟨_, rfl⟩ := VD.strE a1; obtain ⟨_, rfl⟩ := VD.strE a2
 exact ⟨T, n, _, _, p, rfl, e3, g⟩
end KPV2at
theorem PV2.at {h : Heap} {vs : List Value} {ps : List Piece} (x : PV2 h vs ps) {i : Nat} {v : Value} (e : vs[i]? = some v) : ∃ T n t u p, v = .ref T ∧ ps[i]? = some p ∧ h.get? T = some ⟨.type "tuple", none, .seq #[.str (S p.1) t, .str (S p.2) u] n, #[]⟩ :=
 by_eps (C := KPV2at.C0) _ KPV2at.main0 (h, vs, ps, i) x v e
section
variable {w : World} {A : Around} {E : Value → Shared → Prop} {s : Shared} {ac ad : Addr} {sz : Int} {n : Nat}
theorem walkU_acc {A : Around} (hh : A.handled = none) (I ac : Addr) (its : Array Value) (ps : List Piece) (hne : ac ≠ I) (hI : I ∉ refsOf its.toList) :
  WalksU PW w A I (I :: ac :: refsOf its.toList) [I] its.size (fun i vals => ∃ p t u, ps[i]? = some p ∧ vals = #[.str (S p.1) t, .str (S p.2) u])
   (fun i h => h.IsListIter I ac i ∧ AccWalk ac its h ∧ PV2 h its.toList ps) (fun i T h => (h.IsListIter I ac (i + 1) ∧ AccWalk ac its h ∧ PV2 h its.toList ps) ∧ T ≠ I) where
 sub := fun b hb => by simp at hb; simp [hb]
 frame := fun _ h h' st hk => ⟨st.1.at fun o e => hk I (by simp) o e, (let ⟨o, n, e, d⟩ := st.2.1; ⟨o, n, hk ac (by simp) o e, d⟩), st.2.2.frame fun b hb o e => hk b (by simp [hb]) o e⟩
 item := fun i s Q E hi st hQ => by
  obtain ⟨st1, st2, st3⟩ := st
  refine acc_next st1 st2 (x := its[i]) (by simp [hi]) fun h' hit' hs' => ?_
  obtain ⟨o, n, e, d⟩ := st2
  have hat : its.toList[i]? = some its[i] := by simp [hi]
  have st3' : PV2 h' its.toList ps := st3.frame fun b hb o e => hs'.extBut _ _ (fun q => hI (q ▸ hb)) e
  obtain ⟨T, k, t, u, p, e1, e2, e3⟩ := st3'.at hat
  rw [e1]
  exact hQ T #[.str (S p.1) t, .str (S p.2) u] h' s.toks ⟨p, t, u, e2, rfl⟩ ⟨_, e3, rfl, _, rfl⟩ ⟨⟨hit', ⟨o, n, hs'.extBut _ _ hne e, d⟩, st3'⟩, fun q => hI (by
   rw [← q]
   exact mem_refs (e1 ▸ List.mem_of_getElem? hat))⟩ fun b o hb e => hs'.extBut b o (fun h => hb (by simp [h])) e
 go := fun elts k pos i T s Q E hm hQ => wpAny_letOwnedTupleGo_listiter hm.1.1 (hQ _ hm.1 fun b o _ e => e)
 apart := fun i T h hm => by simpa using hm.2
 done := fun s Q E st hQ => acc_end hh st.1 st.2.1 (by simp) fun h' he' => hQ h' s.toks fun b o hb e => he' b o (fun h => hb (by simp [h])) e
 self := fun _ _ _ _ st hQ => wpAny_pyIter_listiter st.1 hQ
theorem shiftS {prog : Program} {I : Addr} {fp wr : List Addr} {G : Array GenState → Array GenState → Prop} {n : Nat} {P : Nat → Value → Prop} {St : Nat → Shared → Prop} (W : WalksS prog w A I fp wr G n P St) :
  WalksS prog w A I fp wr G (n + 1) (fun i v => match i with | 0 => False | i + 1 => P i v) (fun i s => match i with | 0 => False | i + 1 => St i s) where
 sub := W.sub
 grefl := W.grefl
 gtrans := W.gtrans
 frame := fun i s h' tk st ht hk => match i, st with | i + 1, st => W.frame i s h' tk st ht hk
 item := fun i s Q E hi st hQ => match i, st with | i + 1, st => W.item i s Q E (by omega) st hQ
 done := W.done
 self := fun i s Q E st hQ => match i, st with | i + 1, st => W.self i s Q E st hQ
theorem args_sum2 (a b : Value) : argsOk "sum" ⟨[a, b], []⟩ := by unfold argsOk; kernel_rfl
noncomputable def valS (st : Int) (val : Nat → Int) : Nat → Int
 | 0 => st
 | i + 1 => val i
theorem preSum_valS (st : Int) (val : Nat → Int) : ∀ n, preSum (valS st val) (n + 1) = st + preSum val n
 | 0 => by show (0 : Int) + st = st + 0; omega
 | n + 1 => by
  have := preSum_valS st val n
  show preSum (valS st val) (n + 1) + val n = st + (preSum val n + val n)
  omega
end
namespace Kcallsum2
noncomputable def Claim0 (w : World) (A : Around) (E : Value → Shared → Prop) (s : Shared) (x : Value) (st : Int) (t : Tok) (Q : Value → Shared → Prop) : Prop :=
 ∀ (hst0 : InLong st) (h : wpAny (model PW w) A.in1 (pyIter x) (fun it s₂ => ∃ I fp wr G n P St val, it = .ref I ∧ WalksS PW w A.in1 I fp wr G n P St ∧ St 0 s₂ ∧ (∀ b ∈ fp, b < s₂.heap.objs.size) ∧
   (∀ i v, P i v → ∃ t, v = .int (val i) t) ∧ (∀ j, j < n → InLong (val j) ∧ InLong (st + preSum val (j + 1))) ∧
   ∀ s' t', Moved wr G s₂ s' → Q (.int (st + preSum val n) t') s') E s), wpAny (model PW w) A (call (.builtin "sum") [x, .int st t]) Q E s
noncomputable abbrev Ty0 := (World) × (Around) × (Value → Shared → Prop) × (Shared) × (Value) × (Int) × (Tok) × (Value → Shared → Prop)
noncomputable def C0 (p : Ty0) : Prop := Claim0 p.1 p.2.1 p.2.2.1 p.2.2.2.1 p.2.2.2.2.1 p.2.2.2.2.2.1 p.2.2.2.2.2.2.1 p.2.2.2.2.2.2.2
noncomputable def eps0 : Ty0 := @Classical.epsilon Ty0 ⟨(aWorld 1, ({} : Around), (fun _ _ => True), ({} : Shared), (default : Value), (default : Int), (default : Tok), (fun _ _ => True))⟩ (fun p => ¬ C0 p)
noncomputable def w := eps0.1
noncomputable def A := eps0.2.1
noncomputable def E := eps0.2.2.1
noncomputable def s := eps0.2.2.2.1
noncomputable def x := eps0.2.2.2.2.1
noncomputable def st := eps0.2.2.2.2.2.1
noncomputable def t := eps0.2.2.2.2.2.2.1
noncomputable def Q := eps0.2.2.2.2.2.2.2
theorem main0 : Claim0 w A E s x st t Q := by
 intro hst0 h
 refine call_function_tree PySem.F.kind_sum PySem.F.plain_sum PySem.F.entry_sum (args_sum2 _ _) ?_
 unfold Builtin.«sum»
 simp only [List.length_cons, List.length_nil]
 rw [if_neg (by decide)]
 refine wpAny_bind (wpAny_of_eq (show Builtin.Builtins.bindParams "sum" ["start"] 0 ⟨[.int st t], []⟩ = pure [some (.int st t)] from rfl) ?_)
 refine wpAny_bind (wpAny_mono h (fun it s₂ h₂ => ?_) fun _ _ e => e)
 obtain ⟨I, fp, wr, G, n, P, St, val, rfl, W, hst, hfp, hval, hfit, hQ⟩ := h₂
 dsimp only
 split
 ·refine wpAny_bind (wpAny_rule (wpAny_bind (wpAny_mkInt ?_)))
  refine wpAny_bind (wpAny_pure ?_)
  simp only [List.forIn_cons, List.forIn_nil]
  refine wpAny_bind (wpAny_bind (wpAny_bind (wpAny_isInstance (T := "int") (b := false) (typeIs_int _ _ _) PySem.sub_int_str ?_)))
  simp only [Bool.false_eq_true, if_false]
  refine wpAny_pure (wpAny_bind (wpAny_bind (wpAny_isInstance (T := "int") (b := false) (typeIs_int _ _ _) PySem.sub_int_bytes ?_)))
  simp only [Bool.false_eq_true, if_false]
  refine wpAny_pure (wpAny_bind (wpAny_bind (wpAny_isInstance (T := "int") (b := false) (typeIs_int _ _ _) PySem.sub_int_bytearray ?_)))
  simp only [Bool.false_eq_true, if_false]
  refine wpAny_pure (wpAny_pure ?_)
  refine wpAny_bind (wpAny_newObj_type ?_)
  have hSf : s₂.heap.objs.size ∉ fp := fun hm => Nat.lt_irrefl _ (hfp _ hm)
  have e0 : preSum (valS st val) 1 = st := by show (0 : Int) + st = st; omega
  refine wpAny_pure ⟨plainId_quiet PySem.F.plain_sum_loop _, codeAny_sum_loopS (shiftS W) (valS st val) (fun i v hP => match i, hP with | i + 1, hP => hval i v hP) (fun j hj => ?_) s₂.heap.objs.size hSf n 1 _ s₂.toks 0 (by omega) (by omega)
   (W.frame 0 s₂ _ _ hst (Nat.le_succ _) fun b _ o e => Heap.get?_push_of_some _ e) (by rw [e0]; exact Heap.get?_push_size _ rfl) fun s' t' hm => ?_⟩
  ·cases j with
   | zero => rw [e0]; exact ⟨hst0, hst0⟩
   | succ j => rw [preSum_valS]; exact hfit j (by omega)
  ·rw [preSum_valS]
   exact hQ s' t' (hm.drop_new (Nat.le_succ _))
 ·rename_i hn
  refine (hn ?_).elim
  show (decide (-(2 ^ 63) ≤ st) && decide (st < 2 ^ 63)) = true
  obtain ⟨a, b⟩ := hst0
  rw [decide_eq_true a, decide_eq_true b]; rfl
end Kcallsum2
section
variable {w : World} {A : Around} {E : Value → Shared → Prop} {s : Shared} {ac ad : Addr} {sz : Int} {n : Nat}
theorem call_sum2 {x : Value} {st : Int} {t : Tok} {Q : Value → Shared → Prop} (hst0 : InLong st)
  (h : wpAny (model PW w) A.in1 (pyIter x) (fun it s₂ => ∃ I fp wr G n P St val, it = .ref I ∧ WalksS PW w A.in1 I fp wr G n P St ∧ St 0 s₂ ∧ (∀ b ∈ fp, b < s₂.heap.objs.size) ∧
   (∀ i v, P i v → ∃ t, v = .int (val i) t) ∧ (∀ j, j < n → InLong (val j) ∧ InLong (st + preSum val (j + 1))) ∧
   ∀ s' t', Moved wr G s₂ s' → Q (.int (st + preSum val n) t') s') E s) :
  wpAny (model PW w) A (call (.builtin "sum") [x, .int st t]) Q E s :=
 by_eps (C := Kcallsum2.C0) _ Kcallsum2.main0 (w, A, E, s, x, st, t, Q) hst0 h
end
end Mine
-- MF6
namespace Mine
theorem enter {w : World} {A : Around} {s : Shared} {b : Heap} {R : Result → Shared → Prop}
  {name qual : Str} {params : Arguments} {body : List Stmt} {scope : Scope} {cl : List (Str × Addr)} {dV kV doc pm cdv ct oc : Value} {an od : Option Addr} {osl : Array (Option Value)} {f : Addr} {names : List Str} {vs : List Value} {ds : List D} {n : Nat}
  (args : List Value) (G : Gr w b) (bs : b.StaysIn s.heap) (hbig : Big s.heap) (ok : Ok (n + 1) A)
  (ho : (hd.heap_1 w.params).lookup f = some ⟨oc, od, .func (fnX name qual params body scope cl dV kV doc pm an cdv ct), osl⟩)
  (hcd : codeIn (hd.heap_1 w.params) cdv qual = true)
  (hbind : BindsTo s (fnX name qual params body scope cl dV kV doc pm an cdv ct) ⟨args, []⟩ (names.zip vs))
  (hvl : vs.length = names.length) (hv : VDs s.heap vs ds) (hnd : names.Nodup) (hloc : ∀ y ∈ names, scope.names.lookup y = some .local)
  (hfl : ∀ d ∈ ds, OkD d) (hone : ∀ (i j : Nat) l m, ds[i]? = some (.list l) → ds[j]? = some (.list m) → i = j)
  (hcell : ∀ x ∈ scope.names, x.2 ≠ .cell)
  (hbody : ∀ h₁ tk, Fe (envX qual scope s.heap.objs.size f cdv cl) → s.heap.StaysIn h₁ → LV s.heap (fun c => ∃ o, s.heap.get? c = some o) (envX qual scope s.heap.objs.size f cdv cl) (names.zip ds) [] h₁ →
   PySem.wpAt (model PW w) (A.deeper (envX qual scope s.heap.objs.size f cdv cl)) (.func body (envX qual scope s.heap.objs.size f cdv cl)) (execs body (envX qual scope s.heap.objs.size f cdv cl)) (fun f s' => R (.ok (.ret (match f with | .ret v => v | _ => .none))) s')
    (fun e s' => wpAny (model PW w) (A.deeper (envX qual scope s.heap.objs.size f cdv cl)) (leaving (envX qual scope s.heap.objs.size f cdv cl) e) (fun _ s'' => R (.error e) s'') (fun e' s'' => R (.error e') s'') s')
    { s with heap := h₁, toks := tk })
  (hco : scope.isCoroutine = false := by rfl) (hgen : scope.isGenerator = false := by rfl) (hk : scope.kind = .function := by rfl) : codeAny (model PW w) A (.call (.ref f) ⟨args, []⟩) R s := by
 obtain ⟨mean, mg, mb, T⟩ := G.t
 have hlen : names.length = ds.length := by rw [← hvl, hv.length]
 refine ks_codeAny_call_defAt (fd := fnX name qual params body scope cl dV kV doc pm an cdv ct) (body := body) (binds := names.zip vs) ?_ (bs _ _ (G.k _ _ ho)) rfl (T.nolimit.keeps bs) (codeRec_of (fun a o e => bs a o (G.k a o e)) hcd) rfl hbind hcell ?_ (fun h₁ hns hk₁ => ?_) hco hgen hk
 ·have := ok.dp
  show A.depth < 1000
  omega
 ·intro y hy
  exact hloc y.1 (List.of_mem_zip (a := y.1) (b := y.2) hy).1
 ·have nocell : ∀ x, scope.names.lookup x ≠ some .cell := fun x q => by
   obtain ⟨l1, l2, e, _⟩ := List.lookup_eq_some_iff.mp q
   exact hcell (x, .cell) (by rw [e]; simp) rfl
  refine hbody h₁ _ ⟨hk, rfl, rfl⟩ hk₁ ⟨fun c o _ e => hk₁ c o e, fun c f => f, hbig.up hk₁, ⟨_, hns⟩, fun ⟨o, e⟩ => absurd (Heap.lt_size e) (Nat.lt_irrefl _), (fun x c q _ => absurd q (nocell x)), (fun x y c q _ _ _ => absurd q (nocell x)), ?_, ?_, ?_, (fun x a l q => nomatch q)⟩
  ·intro x d e
   obtain ⟨i, e1, e2⟩ := lookup_zip_of e
   obtain ⟨v, e3, e4⟩ := hv.get e2
   exact ⟨v, .inl ⟨hloc x (List.mem_of_getElem? e1), _, hns, lookup_rev hnd hvl.symm e1 e3⟩, e4.keep hk₁⟩
  ·intro x d e
   obtain ⟨i, e1, e2⟩ := lookup_zip_of e
   exact hfl d (List.mem_of_getElem? e2)
  ·intro x y a l m ne hx hy ax ay
   obtain ⟨i, e1, e2⟩ := lookup_zip_of hx
   obtain ⟨j, f1, f2⟩ := lookup_zip_of hy
   have := hone i j l m e2 f2
   subst this
   rw [e1] at f1
   cases f1
   exact ne rfl
noncomputable def XL (P : Around → Prop) : XRel where
 r := fun s s' => ∃ gs, s' = { s with heap := s'.heap, toks := s'.toks, gens := gs } ∧ (AllBare s.gens → AllBare gs)
 st := fun s h tk => ⟨s.gens, rfl, fun x => x⟩
 tr := fun {a b c} x y => by
  obtain ⟨g1, e1, k1⟩ := x
  obtain ⟨g2, e2, k2⟩ := y
  refine ⟨g2, ?_, fun z => k2 ?_⟩
  ·rw [e2, e1]
  ·rw [e1]; exact k1 z
 a := P
noncomputable def KeepT (h h' : Heap) : Prop := ∀ a o, NT a → h.get? a = some o → h'.get? a = some o
section
variable {w : World} {A : Around} {E : Value → Shared → Prop} {s : Shared} {ac ad : Addr} {its : Array Value} {sz : Int} {n : Nat} {b : Heap}
end
end Mine
-- MF7
namespace Mine
theorem passing_all (n : Nat) : passing (fun _ => true) n 0 = List.range n := by
 unfold passing
 rw [List.drop_zero]
 exact List.filter_eq_self.mpr fun _ _ => rfl
theorem walksS_mono {prog : Program} {w : World} {A : Around} {I : Addr} {fp wr : List Addr} {G : Array GenState → Array GenState → Prop} {n : Nat} {P P' : Nat → Value → Prop} {St : Nat → Shared → Prop} (W : WalksS prog w A I fp wr G n P St) (h : ∀ j v, P j v → P' j v) : WalksS prog w A I fp wr G n P' St where
 sub := W.sub
 grefl := W.grefl
 gtrans := W.gtrans
 frame := W.frame
 item := fun i s Q E hi st hQ => W.item i s Q E hi st fun v s' p => hQ v s' (h i v p)
 done := W.done
 self := W.self
theorem bare_of {g : Nat} {x y : Array GenState} (h : GenOnlyQ g x y) (hx : AllBare x) : AllBare y := by
 exact hx.moved h
section
variable {w : World} {A : Around} {E : Value → Shared → Prop} {s : Shared} {ac ad : Addr} {its : Array Value} {sz : Int} {b : Heap}
end
namespace Kaccgen
noncomputable def Claim0 (w : World) (A : Around) (E : Value → Shared → Prop) (s : Shared) (ac : Addr) (ad : Addr) (its : Array Value) (sz : Int) (b : Heap) (env : Env) (elt : Expr) (pa : Pos) (pb : Pos) (pt : Pos) (pi : Pos) (pos : Pos) (kt : Nat) (scope : Scope) (c : Addr) (P : Addr) (cs : Array Value) (ps : List Piece) (Fv : Piece → Value → Prop) (σ : List (Str × D)) (O : List Str) (h₀ : Heap) (F : Addr → Prop) (Q : Value → Shared → Prop) : Prop :=
 ∀ (G : Gr w b) (bs : b.StaysIn s.heap) (hP : b.get? P = none) (fe : Fe env) (lv : LV h₀ F env σ O s.heap) (hself : σ.lookup (Str.ofString "self") = some (.con (.ref ac))) (hh : A.handled = none) (hdp : A.depth < 1000) (X : Acc s.heap ac ad its sz) (hp : PV2 s.heap its.toList ps) (hc : env.code = .ref c) (hcode : IsCodeM s.heap c P cs) (hPo : ∃ o vs, s.heap.get? P = some o ∧ o.data = .fields vs) (helt : ∀ (A' : Around) (E' : Value → Shared → Prop) (i : Nat) (p : Piece) (t u : Tok) (C : Addr) (code : Value) (bi : Addr) (s₂ : Shared) (m₂ : Str → Option Value), A'.handled = none → ps[i]? = some p → bi = builtinsNs → s₂.heap.Ns C m₂ → m₂ "fws" = some (.str (S p.1) t) → m₂ "part" = some (.str (S p.2) u) → b.StaysIn s₂.heap →
   wpAny (model PW w) A' (eval elt (genEnv scope [] C code bi env)) (fun y s₃ => Fv p y ∧ Keeps s₂ s₃) E' s₂) (hclos : closureFor scope env = pure []) (hcell : ∀ y ∈ scope.names, y.2 ≠ .cell) (h0 : scope.names.lookup (".0" : Str) = some NameKind.local) (hxa : scope.names.lookup (Str.ofString "fws") = some .local) (hxb : scope.names.lookup (Str.ofString "part") = some .local) (hkind : scope.kind = .function) (hco : scope.isCoroutine = false) (hfold : ∀ x, genFold (.Name "self" pi) env x = pure x) (hQ : ∀ (a : Addr) (s₅ : Shared) (cs' : Array Value) (fp wr : List Addr) (Gn : Array GenState → Array GenState → Prop) (St : Nat → Shared → Prop), (∃ gs, s₅ = { s with heap := s₅.heap, toks := s₅.toks, gens := s.gens.push gs } ∧ gs.bare = true) →
   (∀ x o, x ≠ P → s.heap.get? x = some o → s₅.heap.get? x = some o) → IsCodeM s₅.heap c P cs' → (∀ gs gs' , Gn gs gs' → AllBare gs → AllBare gs') →
   WalksS PW w A.in4 a fp wr Gn ps.length (fun j y => ∃ p, ps[j]? = some p ∧ Fv p y) St → St 0 s₅ → (∀ x ∈ fp, x < s₅.heap.objs.size) → (∀ x ∈ wr, s.heap.get? x = none) → (∀ i s', St i s' → s'.TypeIs (.ref a) "generator") → a ∈ fp → Q (.ref a) s₅), wpAny (model PW w) A (eval (.GeneratorExp elt [⟨.Tuple [.Name "fws" pa, .Name "part" pb] kt pt, .Name "self" pi, [], 0⟩] scope pos) env) Q E s
noncomputable abbrev Ty0 := (World) × (Around) × (Value → Shared → Prop) × (Shared) × (Addr) × (Addr) × (Array Value) × (Int) × (Heap) × (Env) × (Expr) × (Pos) × (Pos) × (Pos) × (Pos) × (Pos) × (Nat) × (Scope) × (Addr) × (Addr) × (Array Value) × (List Piece) × (Piece → Value → Prop) × (List (Str × D)) × (List Str) × (Heap) × (Addr → Prop) × (Value → Shared → Prop)
noncomputable def C0 (p : Ty0) : Prop := Claim0 p.1 p.2.1 p.2.2.1 p.2.2.2.1 p.2.2.2.2.1 p.2.2.2.2.2.1 p.2.2.2.2.2.2.1 p.2.2.2.2.2.2.2.1 p.2.2.2.2.2.2.2.2.1 p.2.2.2.2.2.2.2.2.2.1 p.2.2.2.2.2.2.2.2.2.2.1 p.2.2.2.2.2.2.2.2.2.2.2.1 p.2.2.2.2.2.2.2.2.2.2.2.2.1 p.2.2.2.2.2.2.2.2.2.2.2.2.2.1 p.2.2.2.2.2.2.2.2.2.2.2.2.2.2.1 p.2.2.2.2.2.2.2.2.2.2.2.2.2.2.2.1 p.2.2.2.2.2.2.2.2.2.2.2.2.2.2.2.2.1 p.2.2.2.2.2.2.2.2.2.2.2.2.2.2.2.2.2.1 p.2.2.2.2.2.2.2.2.2.2.2.2.2.2.2.2.2.2.1 p.2.2.2.2.2.2.2.2.2.2.2.2.2.2.2.2.2.2.2.1 p.2.2.2.2.2.2.2.2.2.2.2.2.2.2.2.2.2.2.2.2.1 p.2.2.2.2.2.2.2.2.2.2.2.2.2.2.2.2.2.2.2.2.2.1 p.2.2.2.2.2.2.2.2.2.2.2.2.2.2.2.2.2.2.2.2.2.2.1 p.2.2.2.2.2.2.2.2.2.2.2.2.2.2.2.2.2.2.2.2.2.2.2.1 p.2.2.2.2.2.2.2.2.2.2.2.2.2.2.2.2.2.2.2.2.2.2.2.2.1 p.2.2.2.2.2.2.2.2.2.2.2.2.2.2.2.2.2.2.2.2.2.2.2.2.2.1 p.2.2.2.2.2.2.2.2.2.2.2.2.2.2.2.2.2.2.2.2.2.2.2.2.2.2.1 p.2.2.2.2.2.2.2.2.2.2.2.2.2.2.2.2.2.2.2.2.2.2.2.2.2.2.2
noncomputable def eps0 : Ty0 := @Classical.epsilon Ty0 ⟨(aWorld 1, ({} : Around), (fun _ _ => True), ({} : Shared), (default : Addr), (default : Addr), (default : Array Value), (default : Int), (default : Heap), (default : Env), (default : Expr), (default : Pos), (default : Pos), (default : Pos), (default : Pos), (default : Pos), (default : Nat), (default : Scope), (default : Addr), (default : Addr), (default : Array Value), (default : List Piece), (fun _ _ => True), (default : List (Str × D)), (default : List Str), (default : Heap), (fun _ => True), (fun _ _ => True))⟩ (fun p => ¬ C0 p)
noncomputable def w := eps0.1
noncomputable def A := eps0.2.1
noncomputable def E := eps0.2.2.1
noncomputable def s := eps0.2.2.2.1
noncomputable def ac := eps0.2.2.2.2.1
noncomputable def ad := eps0.2.2.2.2.2.1
noncomputable def its := eps0.2.2.2.2.2.2.1
noncomputable def sz := eps0.2.2.2.2.2.2.2.1
noncomputable def b := eps0.2.2.2.2.2.2.2.2.1
noncomputable def env := eps0.2.2.2.2.2.2.2.2.2.1
noncomputable def elt := eps0.2.2.2.2.2.2.2.2.2.2.1
noncomputable def pa := eps0.2.2.2.2.2.2.2.2.2.2.2.1
noncomputable def pb := eps0.2.2.2.2.2.2.2.2.2.2.2.2.1
noncomputable def pt := eps0.2.2.2.2.2.2.2.2.2.2.2.2.2.1
noncomputable def pi := eps0.2.2.2.2.2.2.2.2.2.2.2.2.2.2.1
noncomputable def pos := eps0.2.2.2.2.2.2.2.2.2.2.2.2.2.2.2.1
noncomputable def kt := eps0.2.2.2.2.2.2.2.2.2.2.2.2.2.2.2.2.1
noncomputable def scope := eps0.2.2.2.2.2.2.2.2.2.2.2.2.2.2.2.2.2.1
noncomputable def c := eps0.2.2.2.2.2.2.2.2.2.2.2.2.2.2.2.2.2.2.1
noncomputable def P := eps0.2.2.2.2.2.2.2.2.2.2.2.2.2.2.2.2.2.2.2.1
noncomputable def cs := eps0.2.2.2.2.2.2.2.2.2.2.2.2.2.2.2.2.2.2.2.2.1
noncomputable def ps := eps0.2.2.2.2.2.2.2.2.2.2.2.2.2.2.2.2.2.2.2.2.2.1
noncomputable def Fv := eps0.2.2.2.2.2.2.2.2.2.2.2.2.2.2.2.2.2.2.2.2.2.2.1
noncomputable def σ := eps0.2.2.2.2.2.2.2.2.2.2.2.2.2.2.2.2.2.2.2.2.2.2.2.1
noncomputable def O := eps0.2.2.2.2.2.2.2.2.2.2.2.2.2.2.2.2.2.2.2.2.2.2.2.2.1
noncomputable def h₀ := eps0.2.2.2.2.2.2.2.2.2.2.2.2.2.2.2.2.2.2.2.2.2.2.2.2.2.1
noncomputable def F := eps0.2.2.2.2.2.2.2.2.2.2.2.2.2.2.2.2.2.2.2.2.2.2.2.2.2.2.1
noncomputable def Q := eps0.2.2.2.2.2.2.2.2.2.2.2.2.2.2.2.2.2.2.2.2.2.2.2.2.2.2.2
theorem main0 : Claim0 w A E s ac ad its sz b env elt pa pb pt pi pos kt scope c P cs ps Fv σ O h₀ F Q := by
 intro G bs hP fe lv hself hh hdp X hp hc hcode hPo helt hclos hcell h0 hxa hxb hkind hco hfold hQ
 obtain ⟨mean, mg, mb, T⟩ := G.t
 obtain ⟨bm, ob, hbm, hne, hob, hobc, hobd, hobdt⟩ := T.bmain
 have K : (hd.heap_1 w.params).In s.heap := fun a o e => bs a o (G.k a o e)
 obtain ⟨nacc, eacc⟩ := X.at_
 have hnl : its.size = ps.length := by
  have := hp.length
  simpa using this
 refine wpAny_GeneratorExp_walksQT hh hco hclos hcell h0 hxa hxb (by decide) hkind hdp ?_ hfold
 refine name_at fe lv hself (fun v av vd => ?_)
 obtain rfl := VD.conE vd
 refine acc_pyIter K X ?_
 refine ⟨T.nolimit.keeps (stays_trans bs (stays_push _ _)), ?_⟩
 have hcode' := hcode.push { cls := .type "list_iterator", data := .fields #[.ref ac, rawInt 0] }
 refine genexprCodeM (s := { s with heap := s.heap.push { cls := .type "list_iterator", data := .fields #[.ref ac, rawInt 0] } }) hc hcode' fun code h₃ tk₃ cs₃ x₃ hcode₃ => ?_
 have up₃ : ∀ x o, x ≠ P → s.heap.get? x = some o → h₃.get? x = some o := fun x o ne e => x₃ x o ne (stays_push _ _ _ _ e)
 have bs₃ : b.StaysIn h₃ := fun x o e => up₃ x o (fun q => by rw [q, hP] at e; cases e) (bs x o e)
 refine wpAny_builtinsFor (fe.gl ▸ T.g.keeps bs₃) hbm hne (bs₃ _ _ hob) hobc hobd hobdt ?_
 have hIP : s.heap.objs.size ≠ P := fun q => by
  obtain ⟨o, vs, e, _⟩ := hPo
  rw [← q, fresh_size] at e; cases e
 have hIac : ac ≠ s.heap.objs.size := Nat.ne_of_lt (Heap.lt_size eacc)
 have hacP : ac ≠ P := fun q => by
  obtain ⟨o, vs, e, d⟩ := hPo
  rw [← q, eacc] at e; cases e; cases d
 have hrefs : ∀ x ∈ refsOf its.toList, ∃ o its k, s.heap.get? x = some o ∧ o.data = .seq its k := fun x hx => by
  obtain ⟨i, hi⟩ := List.getElem?_of_mem (refs_mem hx)
  obtain ⟨T', n', t', u', p', e1, e2, e3⟩ := hp.at hi
  cases e1
  exact ⟨_, _, _, e3, rfl⟩
 have hrefP : ∀ x ∈ refsOf its.toList, x ≠ P := fun x hx q => by
  obtain ⟨o, vs, e, d⟩ := hPo
  obtain ⟨o', _, _, e', d'⟩ := hrefs x hx
  rw [q, e] at e'; cases e'; rw [d] at d'; cases d'
 have hIr : s.heap.objs.size ∉ refsOf its.toList := fun hx => by
  obtain ⟨o', _, _, e', d'⟩ := hrefs _ hx
  rw [fresh_size] at e'; cases e'
 have hit₃ : h₃.get? s.heap.objs.size = some { cls := .type "list_iterator", data := .fields #[.ref ac, rawInt 0] } := x₃ _ _ hIP (get_push _ _)
 have hp₃ : PV2 h₃ its.toList ps := hp.frame fun x hx o e => up₃ x o (hrefP x hx) e
 refine ⟨s.heap.objs.size, s.heap.objs.size :: ac :: refsOf its.toList, [s.heap.objs.size], its.size, _, _, _, fun _ => true, fun i y => ∃ p, ps[i]? = some p ∧ Fv p y, rfl, fun A' hA' => walkU_acc hA' _ ac its ps hIac hIr, ?_, ?_, ?_, ?_, ?_, ?_, ?_⟩
 ·rintro i vals ⟨p, t, u, _, rfl⟩
  exact ⟨_, _, rfl⟩
 ·exact ⟨⟨_, hit₃, rfl, rfl⟩, ⟨_, _, up₃ _ _ hacP eacc, rfl⟩, hp₃⟩
 ·intro x hx
  rcases List.mem_cons.mp hx with rfl | hx
  ·exact Heap.lt_size hit₃
  ·rcases List.mem_cons.mp hx with rfl | hx
   ·exact Heap.lt_size (up₃ _ _ hacP eacc)
   ·obtain ⟨o', _, _, e', _⟩ := hrefs x hx
    exact Heap.lt_size (up₃ _ _ (hrefP x hx) e')
 ·exact T.nolimit.keeps bs₃
 ·intro hm
  have hm := List.mem_singleton.mp hm
  obtain ⟨_, hns, _⟩ := T.nolimit
  obtain ⟨o, es, ep, ho, _⟩ := hns
  have := bs _ _ ho
  rw [hm, fresh_size] at this; cases this
 ·intro href hhref
  have bsr : ∀ s₂ : Shared, (∀ x ∈ List.range h₃.objs.size, x ∉ [s.heap.objs.size] → ∀ o, href.get? x = some o → s₂.heap.get? x = some o) → b.StaysIn s₂.heap := fun s₂ k x o e => by
   refine k x (List.mem_range.mpr (Heap.lt_size (bs₃ x o e))) (fun q => ?_) o (hhref x o (bs₃ x o e))
   rw [List.mem_singleton.mp q] at e
   have := bs _ _ e
   rw [fresh_size] at this; cases this
  refine ⟨fun A' E' i va vb s₂ m₂ _ _ _ _ _ _ => wpAny_pure ⟨rfl, _, _, rfl, fun _ _ e => e⟩, fun A' E' i va vb s₂ m₂ hA' hPt _ hn ha hb' hk => ?_⟩
  obtain ⟨p, t, u, e1, e2⟩ := hPt
  obtain ⟨rfl, rfl⟩ : va = .str (S p.1) t ∧ vb = .str (S p.2) u := by
   have := congrArg Array.toList e2
   simpa using this
  exact wpAny_mono (helt A' E' i p t u _ code builtinsNs s₂ m₂ hA' e1 rfl hn ha hb' (bsr s₂ hk)) (fun y s₃ z => ⟨⟨p, e1, z.1⟩, z.2⟩) fun _ _ z => z
 ·intro a h₅ tk gs hgb hag hsz₅ hk₅ W hat
  rw [passing_all, List.length_range] at W
  rw [hnl] at W hat
  have W' := walksS_mono W (P' := fun j y => ∃ p, ps[j]? = some p ∧ Fv p y) (by
   rintro j y ⟨i, e1, e2⟩
   rw [List.getElem?_eq_some_iff] at e1
   obtain ⟨h1, h2⟩ := e1
   simp at h1 h2
   subst h2
   exact e2)
  have fin := hQ a { s with heap := h₅, toks := tk, gens := s.gens.push gs } cs₃ _ _ _ _ ⟨gs, rfl, hgb⟩ (fun x o ne e => hk₅ x o (up₃ x o ne e)) (hcode₃.keeps hk₅) (fun x y => bare_of) W' hat
  refine fin ?_ ?_ (fun i s' st => st.1.typeIs) (.head _)
  ·intro x hx
   show x < h₅.objs.size
   rw [hsz₅]
   rcases List.mem_cons.mp hx with rfl | hx
   ·exact Nat.lt_succ_self _
   ·rcases List.mem_cons.mp hx with rfl | hx
    ·exact Nat.lt_succ_of_lt hag
    ·exact Nat.lt_succ_of_lt (Nat.lt_trans (List.mem_range.mp hx) hag)
  ·intro x hx
   have fr : ∀ y, s.heap.objs.size ≤ y → s.heap.get? y = none := fun y hy => by
    cases q : s.heap.get? y with
    | none => rfl
    | some o => exact absurd (Heap.lt_size q) (Nat.not_lt.mpr hy)
   rcases List.mem_cons.mp hx with rfl | hx
   ·exact fr h₃.objs.size (Nat.le_of_lt (Heap.lt_size hit₃))
   ·rw [List.mem_singleton.mp hx]; exact fresh_size _
end Kaccgen
section
variable {w : World} {A : Around} {E : Value → Shared → Prop} {s : Shared} {ac ad : Addr} {its : Array Value} {sz : Int} {b : Heap}
theorem acc_gen {env : Env} {elt : Expr} {pa pb pt pi pos : Pos} {kt : Nat} {scope : Scope} {c P : Addr} {cs : Array Value} {ps : List Piece} {Fv : Piece → Value → Prop} {σ : List (Str × D)} {O : List Str} {h₀ : Heap} {F : Addr → Prop} {Q : Value → Shared → Prop}
  (G : Gr w b) (bs : b.StaysIn s.heap) (hP : b.get? P = none) (fe : Fe env) (lv : LV h₀ F env σ O s.heap) (hself : σ.lookup (Str.ofString "self") = some (.con (.ref ac))) (hh : A.handled = none) (hdp : A.depth < 1000) (X : Acc s.heap ac ad its sz) (hp : PV2 s.heap its.toList ps)
  (hc : env.code = .ref c) (hcode : IsCodeM s.heap c P cs) (hPo : ∃ o vs, s.heap.get? P = some o ∧ o.data = .fields vs)
  (helt : ∀ (A' : Around) (E' : Value → Shared → Prop) (i : Nat) (p : Piece) (t u : Tok) (C : Addr) (code : Value) (bi : Addr) (s₂ : Shared) (m₂ : Str → Option Value), A'.handled = none → ps[i]? = some p → bi = builtinsNs → s₂.heap.Ns C m₂ → m₂ "fws" = some (.str (S p.1) t) → m₂ "part" = some (.str (S p.2) u) → b.StaysIn s₂.heap →
   wpAny (model PW w) A' (eval elt (genEnv scope [] C code bi env)) (fun y s₃ => Fv p y ∧ Keeps s₂ s₃) E' s₂)
  (hclos : closureFor scope env = pure []) (hcell : ∀ y ∈ scope.names, y.2 ≠ .cell) (h0 : scope.names.lookup (".0" : Str) = some NameKind.local)
  (hxa : scope.names.lookup (Str.ofString "fws") = some .local) (hxb : scope.names.lookup (Str.ofString "part") = some .local) (hkind : scope.kind = .function) (hco : scope.isCoroutine = false)
  (hfold : ∀ x, genFold (.Name "self" pi) env x = pure x)
  (hQ : ∀ (a : Addr) (s₅ : Shared) (cs' : Array Value) (fp wr : List Addr) (Gn : Array GenState → Array GenState → Prop) (St : Nat → Shared → Prop), (∃ gs, s₅ = { s with heap := s₅.heap, toks := s₅.toks, gens := s.gens.push gs } ∧ gs.bare = true) →
   (∀ x o, x ≠ P → s.heap.get? x = some o → s₅.heap.get? x = some o) → IsCodeM s₅.heap c P cs' → (∀ gs gs' , Gn gs gs' → AllBare gs → AllBare gs') →
   WalksS PW w A.in4 a fp wr Gn ps.length (fun j y => ∃ p, ps[j]? = some p ∧ Fv p y) St → St 0 s₅ → (∀ x ∈ fp, x < s₅.heap.objs.size) → (∀ x ∈ wr, s.heap.get? x = none) → (∀ i s', St i s' → s'.TypeIs (.ref a) "generator") → a ∈ fp → Q (.ref a) s₅) :
  wpAny (model PW w) A (eval (.GeneratorExp elt [⟨.Tuple [.Name "fws" pa, .Name "part" pb] kt pt, .Name "self" pi, [], 0⟩] scope pos) env) Q E s :=
 by_eps (C := Kaccgen.C0) _ Kaccgen.main0 (w, A, E, s, ac, ad, its, sz, b, env, elt, pa, pb, pt, pi, pos, kt, scope, c, P, cs, ps, Fv, σ, O, h₀, F, Q) G bs hP fe lv hself hh hdp X hp hc hcode hPo helt hclos hcell h0 hxa hxb hkind hco hfold hQ
end
end Mine
-- MF8
namespace Mine
section
variable {w : World} {A : Around} {E : Value → Shared → Prop} {s : Shared} {ac ad : Addr} {its : Array Value} {sz : Int} {n : Nat} {b : Heap}
theorem len_raw {w : World} {A' : Around} {E' : Value → Shared → Prop} {s₂ : Shared} {b : Heap} {cenv : Env} {x : Str} {p q pos : Pos} {m : Str → Option Value} {l : List Nat} {t : Tok} {Q : Value → Shared → Prop} (G : Gr w b) (bs : b.StaysIn s₂.heap) (fe : Fe cenv) (hk : cenv.kindOf (Str.ofString "len") = some .globalImplicit) (hx : cenv.kindOf x = some .local)
  (hn : s₂.heap.Ns cenv.locals m) (hm : m x = some (.str (S l) t)) (hl : l.length < 1000000) (hd : (x == ("__debug__" : Str)) = false)
  (hs : ((backTo pos (starEach [.Name x q] cenv)).any fun x => x.1) = false := by rfl) (hns : starEach [.Name x q] cenv = (false, eval (.Name x q) cenv) :: starEach [] cenv := by rfl)
  (h : ∀ u tk, Q (.int l.length u) { s₂ with toks := tk }) : wpAny (model PW w) A' (eval (.Call (.Name (Str.ofString "len") p) [.Name x q] [] pos) cenv) Q E' s₂ := by
 obtain ⟨mean, mg, mb, T⟩ := G.t
 refine wpAny_Call_Name_kw (Name_function_global fe.kind hk (loadGlobal_builtin (fe.gl ▸ T.g.keeps bs) (mg_none_of G.k T.g g_len) (fe.bi ▸ T.b.keeps bs) ((T.builtins _ (by decide)).trans b_len) ?_) (by decide))
 refine callWith_builtin hs ?_
 rw [hns] at hs ⊢
 refine evalArgs_plain (spliced_cons (wpAny_Name (wpAny_loadName_local fe.kind hx hn hm ?_) hd))
 refine spliced_nil ?_
 refine P.len_str (by rw [S_len]; omega) ?_
 rw [S_len]
 exact h _ _
theorem sum_bound : ∀ l : List Int, (∀ x ∈ l, 0 ≤ x ∧ x < 1000) → 0 ≤ l.sum ∧ l.sum ≤ 1000 * l.length
 | [], _ => by simp
 | x :: l, h => by
  have := sum_bound l fun y hy => h y (.tail _ hy)
  have := h x (.head _)
  rw [List.sum_cons, List.length_cons]
  omega
theorem cast_sum : ∀ l : List Nat, ((l.sum : Nat) : Int) = (l.map fun n : Nat => (n : Int)).sum
 | [] => rfl
 | n :: l => by rw [List.sum_cons, List.map_cons, List.sum_cons, Int.natCast_add, cast_sum l]
theorem Acc.keep {h h' : Heap} (X : Acc h ac ad its sz) (k : h.StaysIn h') : Acc h' ac ad its sz :=
 let ⟨⟨n, e⟩, ⟨o, hs, tk, t, m, e2, d⟩⟩ := X; ⟨⟨n, k _ _ e⟩, o, hs, tk, t, m, k _ _ e2, d⟩
end
namespace Kacclen
noncomputable def Claim0 (w : World) (A : Around) (E : Value → Shared → Prop) (s : Shared) (ac : Addr) (ad : Addr) (its : Array Value) (sz : Int) (b : Heap) (ps : List Piece) (Q : Value → Shared → Prop) : Prop :=
 ∀ (G : Gr w b) (bs : b.StaysIn s.heap) (hb0 : b.get? 140 = none) (hbig : Big s.heap) (ok : Ok 4 A) (X : Acc s.heap ac ad its sz) (hp : PV2 s.heap its.toList ps) (hsz : 0 ≤ sz) (hsz' : sz < 100000) (hpl : ps.length < 1000) (hpb : ∀ p ∈ ps, p.1.length + p.2.length < 1000) (hQ : ∀ t s', (XL fun _ => True).r s s' → KeepT s.heap s'.heap → Big s'.heap → Q (.int (sz + ((ps.map fun p => p.1.length + p.2.length).sum : Nat)) t) s'), wpAny (model PW w) A (call (.ref 145) [.ref ac]) Q E s
noncomputable abbrev Ty0 := (World) × (Around) × (Value → Shared → Prop) × (Shared) × (Addr) × (Addr) × (Array Value) × (Int) × (Heap) × (List Piece) × (Value → Shared → Prop)
noncomputable def C0 (p : Ty0) : Prop := Claim0 p.1 p.2.1 p.2.2.1 p.2.2.2.1 p.2.2.2.2.1 p.2.2.2.2.2.1 p.2.2.2.2.2.2.1 p.2.2.2.2.2.2.2.1 p.2.2.2.2.2.2.2.2.1 p.2.2.2.2.2.2.2.2.2.1 p.2.2.2.2.2.2.2.2.2.2
noncomputable def eps0 : Ty0 := @Classical.epsilon Ty0 ⟨(aWorld 1, ({} : Around), (fun _ _ => True), ({} : Shared), (default : Addr), (default : Addr), (default : Array Value), (default : Int), (default : Heap), (default : List Piece), (fun _ _ => True))⟩ (fun p => ¬ C0 p)
noncomputable def w := eps0.1
noncomputable def A := eps0.2.1
noncomputable def E := eps0.2.2.1
noncomputable def s := eps0.2.2.2.1
noncomputable def ac := eps0.2.2.2.2.1
noncomputable def ad := eps0.2.2.2.2.2.1
noncomputable def its := eps0.2.2.2.2.2.2.1
noncomputable def sz := eps0.2.2.2.2.2.2.2.1
noncomputable def b := eps0.2.2.2.2.2.2.2.2.1
noncomputable def ps := eps0.2.2.2.2.2.2.2.2.2.1
noncomputable def Q := eps0.2.2.2.2.2.2.2.2.2.2
set_option maxHeartbeats 8000000 in
theorem main0 : Claim0 w A E s ac ad its sz b ps Q := by
 intro G bs hb0 hbig ok X hp hsz hsz' hpl hpb hQ
 have hh := Eq.refl (PySem.Challenge.rw_xl0021_01, hd.heap_1)
 revert hh
 k_fill
 intro _
 refine' wpAny_call (enter (n := 3) (names := [Str.ofString "self"]) (vs := [.ref ac]) (ds := [.con (.ref ac)]) [.ref ac] G bs hbig ok ?k1 ?k2 ?k3 rfl (.cons (.con _) .nil) (by decide) ?k4 ?k5 ?k6 ?k7 ?k8 ?k9 ?k10 ?k11)
 case k1 => k_is
 case k2 => k_is
 case k3 => exact BindsTo.of_eq rfl
 case k4 => decide
 case k5 => intro d hd; simp at hd; subst hd; exact .inr ⟨_, rfl⟩
 case k6 => exact one_none (by intro d hd l q; subst q; simp at hd)
 case k7 => decide
 case k9 => rfl
 case k10 => rfl
 case k11 => rfl
 case k8 =>
  intro h₁ tk fe kp lv
  refine PySem.wpAt_of_wpAny ?_
  obtain ⟨⟨ps0, hc0⟩, hbig2⟩ := lv.big
  have bs1 := stays_trans bs kp
  have X1 : Acc h₁ ac ad its sz := X.keep kp
  refine wpAny_execs_cons (wpAny_Return_some (wpAny_Call_Name_kw ?_))
  refine ev_builtin fe G bs1 g_sum b_sum (by decide) rfl (by decide) _ _ { s with heap := h₁, toks := tk } _ ok.deeper (stays_refl _) fun v h2 t2 k2 v2 => ?_
  obtain rfl := VD.conE v2
  refine callWith_builtin rfl (evalArgs_plain (spliced_cons ?_))
  have lv2 := lv.keep k2
  have X2 := X1.keep k2
  have hp2 : PV2 h2 its.toList ps := VDs.keep hp (stays_trans kp k2)
  have hc2 := hc0.keeps k2
  have bs2 := stays_trans bs1 k2
  refine acc_gen (s := { s with heap := h2, toks := t2 }) (Fv := fun p v => ∃ t, v = .int ((p.1.length + p.2.length : Nat) : Int) t) G bs2 hb0 fe lv2 rfl ok.deeper.hd (Nat.lt_trans (Nat.lt_of_le_of_lt (Nat.le_add_right _ _) ok.deeper.dp) (by decide)) X2 hp2 rfl hc2 (IsCode_at hc2).2 ?elt rfl (by decide) rfl rfl rfl rfl rfl (fun _ => rfl) ?fin
  case elt =>
   intro A' E' i p t u C code bi s₂ m₂ hA' hpi hbi hn ha hb' bs'
   subst hbi
   have hpm := hpb p (List.mem_of_getElem? hpi)
   refine wpAny_BinOp (len_raw G bs' ⟨rfl, rfl, rfl⟩ rfl rfl hn ha (by omega) rfl (h := fun u1 k1 => ?_))
   refine len_raw (s₂ := { s₂ with toks := k1 }) G bs' ⟨rfl, rfl, rfl⟩ rfl rfl hn hb' (by omega) rfl (h := fun u2 k2 => ?_)
   exact add_int ⟨⟨_, congrArg (fun z => Value.int z _) (Int.natCast_add _ _).symm⟩, _, _, rfl, fun _ _ e => e⟩
  case fin =>
   intro a s₅ cs' fp wr Gn St hx₅ k₅ hc₅ hbare W hst hfp hwr _ _
   obtain ⟨gs, e5, hgs⟩ := hx₅
   obtain ⟨o140, v140, e140, d140⟩ := (IsCode_at hc2).2
   obtain ⟨nac, eac⟩ := X2.at_
   obtain ⟨oad, hs, tk0, t0, m0, ead, dad⟩ := X2.dc
   have X5 : Acc s₅.heap ac ad its sz := ⟨⟨nac, k₅ _ _ (fun q => by rw [q, e140] at eac; cases eac; cases d140) eac⟩, oad, hs, tk0, t0, m0, k₅ _ _ (fun q => by rw [q, e140] at ead; cases ead; rw [d140] at dad; cases dad) ead, dad⟩
   have bs5 : b.StaysIn s₅.heap := fun x o e => k₅ x o (fun q => by rw [q, hb0] at e; cases e) (bs2 x o e)
   have K5 : (hd.heap_1 w.params).In s₅.heap := fun a o e => bs5 a o (G.k a o e)
   refine spliced_cons (Attribute_name ?_)
   obtain ⟨v, av, vd⟩ := lv2.rd "self" _ rfl
   obtain rfl := VD.conE vd
   rcases av with ⟨kk, m, nn, em⟩ | ⟨kk, _⟩
   ·obtain ⟨oL, es, ep, eL, dL, r⟩ := nn
    have nn5 : s₅.heap.Ns s.heap.objs.size m := ⟨oL, es, ep, k₅ _ _ (fun q => by rw [q, e140] at eL; cases eL; rw [d140] at dL; cases dL) eL, dL, r⟩
    refine wpAny_Name (wpAny_loadName_local fe.kind kk nn5 em ?_) (by decide)
    refine acc_get K5 X5 fun t6 tk6 htk => spliced_nil ?_
    have W1 := W.in4_1
    have hst6 := W1.frame 0 s₅ s₅.heap tk6 hst htk fun _ _ _ e => e
    refine call_sum2 (s := { s₅ with toks := tk6 }) ⟨by omega, by omega⟩ (W1.self 0 _ _ _ hst6 ⟨a, fp, wr, Gn, ps.length, _, St, fun i => (ps.map fun p => ((p.1.length + p.2.length : Nat) : Int)).getD i 0, rfl, W1, hst6, hfp, ?_, ?_, ?_⟩)
    ·rintro i v ⟨p, ep', t, rfl⟩
     refine ⟨t, ?_⟩
     dsimp only
     rw [List.getD_eq_getElem?_getD, List.getElem?_map, ep']; rfl
    ·intro j hj
     have hl : (ps.map fun p => ((p.1.length + p.2.length : Nat) : Int)).length = ps.length := by simp
     have hb : ∀ x ∈ (ps.map fun p => ((p.1.length + p.2.length : Nat) : Int)), 0 ≤ x ∧ x < 1000 := fun x hx => by
      obtain ⟨p, hp, rfl⟩ := List.mem_map.mp hx
      have := hpb p hp
      omega
     rw [preSum_eq _ _ (by omega)]
     have h1 := sum_bound ((ps.map fun p => ((p.1.length + p.2.length : Nat) : Int)).take (j + 1)) fun x hx => hb x (List.mem_of_mem_take hx)
     rw [List.length_take] at h1
     have h2 := hb _ (List.getElem_mem (show j < _ from by rw [hl]; exact hj))
     dsimp only
     rw [List.getD_eq_getElem?_getD, List.getElem?_eq_getElem (by rw [hl]; exact hj)]
     refine ⟨⟨?_, ?_⟩, ?_, ?_⟩
     ·show _ ≤ _; simp only [Option.getD_some]; omega
     ·show _ < _; simp only [Option.getD_some]; omega
     ·omega
     ·omega
    ·intro s' t' hm
     have hl : (ps.map fun p => ((p.1.length + p.2.length : Nat) : Int)).length = ps.length := by simp
     rw [preSum_eq _ _ (by omega), List.take_of_length_le (by omega)]
     have es : (ps.map fun p => ((p.1.length + p.2.length : Nat) : Int)).sum = ((ps.map fun p => p.1.length + p.2.length).sum : Nat) := by rw [cast_sum, List.map_map]; rfl
     rw [es]
     have up : ∀ x o, x ≠ 140 → h2.get? x = some o → s'.heap.get? x = some o := fun x o ne e => hm.heap x o (fun q => by rw [hwr x q] at e; cases e) (k₅ x o ne e)
     have c140 : (140 : Addr) ∉ wr := fun q => by
      have := hwr _ q
      rw [e140] at this; cases this
     refine hQ t' s' ⟨s'.gens, ?_, fun hg => hbare _ _ hm.gens ?_⟩ (fun x o nt e => up x o nt.1 (k2 _ _ (kp _ _ e))) ⟨⟨cs', ?_⟩, ?_⟩
     ·have a1 := hm.drawn
      have a2 := hm.os
      rw [e5] at a1 a2
      obtain ⟨x1, x2, x3, x4, x5⟩ := s'
      dsimp only at a1 a2
      subst a1 a2
      rfl
     ·rw [e5]; exact AllBare.push hg hgs
     ·have c144 : (144 : Addr) ∉ wr := fun q => by
       have := hwr _ q
       obtain ⟨⟨o, vs, e, _⟩, _⟩ := IsCode_at hc2
       rw [e] at this; cases this
      exact hc₅.mv (fun o _ a _ => hm.heap _ o c144 a) (fun o _ a _ => hm.heap _ o c140 a)
     ·obtain ⟨qs, q⟩ := hbig2
      exact ⟨qs, q.mv (fun o _ a _ => up _ o (by decide) (k2 _ _ a)) (fun o _ a _ => up _ o (by decide) (k2 _ _ a))⟩
   ·cases kk
end Kacclen
section
variable {w : World} {A : Around} {E : Value → Shared → Prop} {s : Shared} {ac ad : Addr} {its : Array Value} {sz : Int} {n : Nat} {b : Heap}
theorem acc_len {ps : List Piece} {Q : Value → Shared → Prop} (G : Gr w b) (bs : b.StaysIn s.heap) (hb0 : b.get? 140 = none) (hbig : Big s.heap) (ok : Ok 4 A) (X : Acc s.heap ac ad its sz) (hp : PV2 s.heap its.toList ps) (hsz : 0 ≤ sz) (hsz' : sz < 100000) (hpl : ps.length < 1000) (hpb : ∀ p ∈ ps, p.1.length + p.2.length < 1000)
  (hQ : ∀ t s', (XL fun _ => True).r s s' → KeepT s.heap s'.heap → Big s'.heap → Q (.int (sz + ((ps.map fun p => p.1.length + p.2.length).sum : Nat)) t) s') :
  wpAny (model PW w) A (call (.ref 145) [.ref ac]) Q E s :=
 by_eps (C := Kacclen.C0) _ Kacclen.main0 (w, A, E, s, ac, ad, its, sz, b, ps, Q) G bs hb0 hbig ok X hp hsz hsz' hpl hpb hQ
end
end Mine
-- MF9
namespace Mine
theorem joinL_nil : ∀ l : List (List Nat), joinL [] l = l.flatten
 | [] => rfl
 | [x] => by simp [joinL]
 | x :: y :: r => by
  show x ++ [] ++ joinL [] (y :: r) = _
  rw [joinL_nil (y :: r)]; simp
theorem strsAre_of : ∀ {vs : List Value} {l : List (List Nat)} {h : Heap}, VDs h vs (TL l) → StrsAre vs (l.map S)
 | [], [], _, _ => .nil
 | [], _ :: _, _, x => nomatch x
 | _ :: _, [], _, x => nomatch x
 | _ :: _, _ :: _, _, .cons a r => by obtain ⟨_, rfl⟩ := VD.strE a; exact .cons _ _ (strsAre_of r)
theorem join_raw {w : World} {A' : Around} {E' : Value → Shared → Prop} {s₂ : Shared} {b : Heap} {cenv : Env} {x y : Str} {p q1 q2 apos pos : Pos} {k : Nat} {tp : Pos} {m : Str → Option Value} {l1 l2 : List Nat} {t u : Tok} {Q : Value → Shared → Prop} {ve : Value}
  (G : Gr w b) (bs : b.StaysIn s₂.heap) (fe : Fe cenv) (ge : nsIn (hd.heap_1 w.params) mainGlobals "EMPTYSTRING" = some (some ve)) (hve : ∃ t, ve = .str (S []) t) (hk : cenv.kindOf (Str.ofString "EMPTYSTRING") = some .globalImplicit) (hx : cenv.kindOf x = some .local) (hy : cenv.kindOf y = some .local)
  (hn : s₂.heap.Ns cenv.locals m) (hm : m x = some (.str (S l1) t)) (hm2 : m y = some (.str (S l2) u)) (hl : l1.length + l2.length < 1000000) (hd : (x == ("__debug__" : Str)) = false) (hd2 : (y == ("__debug__" : Str)) = false)
  (ha : attributeBase (.Name (Str.ofString "EMPTYSTRING") p) (Str.ofString "join") cenv (eval (.Name (Str.ofString "EMPTYSTRING") p) cenv) = eval (.Name (Str.ofString "EMPTYSTRING") p) cenv)
  (he : (apos.endLine == pos.line) = true)
  (hns : starEach [.Tuple [.Name x q1, .Name y q2] k tp] cenv = (false, eval (.Tuple [.Name x q1, .Name y q2] k tp) cenv) :: starEach [] cenv) (hnt : starEach [.Name x q1, .Name y q2] cenv = [(false, eval (.Name x q1) cenv), (false, eval (.Name y q2) cenv)])
  (h : ∀ u h' tk, s₂.heap.StaysIn h' → Q (.str (S (l1 ++ l2)) u) { s₂ with heap := h', toks := tk }) :
  wpAny (model PW w) A' (eval (.Call (.Attribute (.Name (Str.ofString "EMPTYSTRING") p) (Str.ofString "join") apos) [.Tuple [.Name x q1, .Name y q2] k tp] [] pos) cenv) Q E' s₂ := by
 obtain ⟨mean, mg, mb, T⟩ := G.t
 obtain ⟨te, rfl⟩ := hve
 refine wpAny_Call_method ha (by rw [hns]; rfl) he PySem.F.plainAttrs_str PySem.F.slot_str_join PySem.F.type_str_join (Name_function_global fe.kind hk (loadGlobal_global (fe.gl ▸ T.g.keeps bs) (mg_of G.k T.g ge) ?_) (by decide))
 refine ⟨rfl, fun a e => (nomatch e), ?_⟩
 rw [hns]
 refine callWith_builtin rfl (evalArgs_plain (spliced_cons (Tuple_ (k := k) ?_)))
 rw [hnt]
 refine spliced_cons (wpAny_Name (wpAny_loadName_local fe.kind hx hn hm ?_) hd)
 refine spliced_cons (wpAny_Name (wpAny_loadName_local fe.kind hy hn hm2 ?_) hd2)
 refine spliced_nil (wpAny_newTuple ?_ (by rw [sizeLine_eq]; exact Nat.le_of_ble_eq_true rfl))
 refine spliced_nil ?_
 refine join_tuple (ys := [S l1, S l2]) ⟨_, get_push _ _, rfl, _, rfl⟩ (.cons _ _ (.cons _ _ .nil)) (by simp [S_len]; omega) fun t' k' => ?_
 have e : Txt.join (S []) [S l1, S l2] = S (l1 ++ l2) := by
  rw [show [S l1, S l2] = [l1, l2].map S from rfl, join_S, joinL_nil]; simp
 rw [e]
 exact h _ _ _ (stays_push _ _)
end Mine
-- MF10
namespace Mine
theorem nsum_bound : ∀ l : List Nat, (∀ x ∈ l, x < 1000) → l.sum ≤ 1000 * l.length
 | [], _ => by simp
 | x :: l, h => by
  have := nsum_bound l fun y hy => h y (.tail _ hy)
  have := h x (.head _)
  rw [List.sum_cons, List.length_cons]
  omega
section
variable {w : World} {A : Around} {E : Value → Shared → Prop} {s : Shared} {ac ad : Addr} {its : Array Value} {sz : Int} {n : Nat} {b : Heap}
end
namespace Kaccstr
noncomputable def Claim0 (w : World) (A : Around) (E : Value → Shared → Prop) (s : Shared) (ac : Addr) (ad : Addr) (its : Array Value) (sz : Int) (b : Heap) (ps : List Piece) (Q : Value → Shared → Prop) : Prop :=
 ∀ (G : Gr w b) (bs : b.StaysIn s.heap) (hb0 : b.get? 147 = none) (hbig : Big s.heap) (ok : Ok 4 A) (X : Acc s.heap ac ad its sz) (hp : PV2 s.heap its.toList ps) (hpl : ps.length < 1000) (hpb : ∀ p ∈ ps, p.1.length + p.2.length < 1000) (hQ : ∀ t s', (XL fun _ => True).r s s' → KeepT s.heap s'.heap → Big s'.heap → Q (.str (S (ps.map fun p => p.1 ++ p.2).flatten) t) s'), wpAny (model PW w) A (call (.ref 152) [.ref ac]) Q E s
noncomputable abbrev Ty0 := (World) × (Around) × (Value → Shared → Prop) × (Shared) × (Addr) × (Addr) × (Array Value) × (Int) × (Heap) × (List Piece) × (Value → Shared → Prop)
noncomputable def C0 (p : Ty0) : Prop := Claim0 p.1 p.2.1 p.2.2.1 p.2.2.2.1 p.2.2.2.2.1 p.2.2.2.2.2.1 p.2.2.2.2.2.2.1 p.2.2.2.2.2.2.2.1 p.2.2.2.2.2.2.2.2.1 p.2.2.2.2.2.2.2.2.2.1 p.2.2.2.2.2.2.2.2.2.2
noncomputable def eps0 : Ty0 := @Classical.epsilon Ty0 ⟨(aWorld 1, ({} : Around), (fun _ _ => True), ({} : Shared), (default : Addr), (default : Addr), (default : Array Value), (default : Int), (default : Heap), (default : List Piece), (fun _ _ => True))⟩ (fun p => ¬ C0 p)
noncomputable def w := eps0.1
noncomputable def A := eps0.2.1
noncomputable def E := eps0.2.2.1
noncomputable def s := eps0.2.2.2.1
noncomputable def ac := eps0.2.2.2.2.1
noncomputable def ad := eps0.2.2.2.2.2.1
noncomputable def its := eps0.2.2.2.2.2.2.1
noncomputable def sz := eps0.2.2.2.2.2.2.2.1
noncomputable def b := eps0.2.2.2.2.2.2.2.2.1
noncomputable def ps := eps0.2.2.2.2.2.2.2.2.2.1
noncomputable def Q := eps0.2.2.2.2.2.2.2.2.2.2
set_option maxHeartbeats 8000000 in
theorem main0 : Claim0 w A E s ac ad its sz b ps Q := by
 intro G bs hb0 hbig ok X hp hpl hpb hQ
 have hh := Eq.refl (PySem.Challenge.rw_xl0021_01, hd.heap_1)
 revert hh
 k_fill
 intro _
 obtain ⟨ve, ge, hve⟩ : ∃ v, nsIn (hd.heap_1 w.params) mainGlobals "EMPTYSTRING" = some (some v) ∧ ∃ t, v = .str (S []) t := ⟨_, by k_is, _, rfl⟩
 refine' wpAny_call (enter (n := 3) (names := [Str.ofString "self"]) (vs := [.ref ac]) (ds := [.con (.ref ac)]) [.ref ac] G bs hbig ok ?k1 ?k2 ?k3 rfl (.cons (.con _) .nil) (by decide) ?k4 ?k5 ?k6 ?k7 ?k8 ?k9 ?k10 ?k11)
 case k1 => k_is
 case k2 => k_is
 case k3 => exact BindsTo.of_eq rfl
 case k4 => decide
 case k5 => intro d hd; simp at hd; subst hd; exact .inr ⟨_, rfl⟩
 case k6 => exact one_none (by intro d hd l q; subst q; simp at hd)
 case k7 => decide
 case k9 => rfl
 case k10 => rfl
 case k11 => rfl
 case k8 =>
  intro h₁ tk fe kp lv
  refine PySem.wpAt_of_wpAny ?_
  obtain ⟨hbig1, ⟨ps0, hc0⟩⟩ := lv.big
  have bs1 := stays_trans bs kp
  have X1 : Acc h₁ ac ad its sz := X.keep kp
  refine wpAny_execs_cons (wpAny_Return_some (wpAny_Call_method rfl rfl rfl PySem.F.plainAttrs_str PySem.F.slot_str_join PySem.F.type_str_join ?_))
  refine ev_globalD (d := .con ve) fe G bs1 ge (fun _ => .con _) rfl (by decide) _ _ { s with heap := h₁, toks := tk } _ ok.deeper (stays_refl _) fun v h2 t2 k2 v2 => ?_
  obtain rfl := VD.conE v2
  obtain ⟨te, rfl⟩ := hve
  refine ⟨rfl, fun a e => (nomatch e), ?_⟩
  refine callWith_builtin rfl (evalArgs_plain (spliced_cons ?_))
  have lv2 := lv.keep k2
  have X2 := X1.keep k2
  have hp2 : PV2 h2 its.toList ps := VDs.keep hp (stays_trans kp k2)
  have hc2 := hc0.keeps k2
  have bs2 := stays_trans bs1 k2
  refine acc_gen (s := { s with heap := h2, toks := t2 }) (Fv := fun p v => ∃ t, v = .str (S (p.1 ++ p.2)) t) G bs2 hb0 fe lv2 rfl ok.deeper.hd (Nat.lt_trans (Nat.lt_of_le_of_lt (Nat.le_add_right _ _) ok.deeper.dp) (by decide)) X2 hp2 rfl hc2 (IsCode_at hc2).2 ?elt rfl (by decide) rfl rfl rfl rfl rfl (fun _ => rfl) ?fin
  case elt =>
   intro A' E' i p t u C code bi s₂ m₂ hA' hpi hbi hn ha hb' bs'
   subst hbi
   have hpm := hpb p (List.mem_of_getElem? hpi)
   exact join_raw G bs' ⟨rfl, rfl, rfl⟩ ge ⟨_, rfl⟩ rfl rfl rfl hn ha hb' (by omega) rfl rfl rfl rfl rfl rfl (fun u' h' tk' k' => ⟨⟨_, rfl⟩, _, _, rfl, k'⟩)
  case fin =>
   intro a s₅ cs' fp wr Gn St hx₅ k₅ hc₅ hbare W hst hfp hwr hT hI
   obtain ⟨gs, e5, hgs⟩ := hx₅
   obtain ⟨o140, v140, e140, d140⟩ := (IsCode_at hc2).2
   refine spliced_nil ?_
   refine SC.joinGen W.in4_2 hT hst hfp hI (fun i v hP => by obtain ⟨p, _, t, e⟩ := hP; exact ⟨_, t, e⟩) (fun s' l hm hacc => ?_) (by rw [sizeLine_eq]; omega)
   have hl : l.map (·.1) = (ps.map fun p => p.1 ++ p.2).map S := by
    have hz : l.length = ps.length := by simpa [strValues] using hacc.1
    apply List.ext_getElem?
    intro j
    by_cases hj : j < ps.length
    ·have hj' : j < l.length := by omega
     obtain ⟨p, e1, t, e2⟩ := hacc.2 j (.str l[j].1 l[j].2) (by simp [strValues, List.getElem?_eq_getElem hj'])
     injection e2 with e3 _
     rw [List.getElem?_map, List.getElem?_eq_getElem hj', List.getElem?_map, List.getElem?_map, e1]
     simp [e3]
    ·rw [List.getElem?_eq_none (by simp; omega), List.getElem?_eq_none (by simp; omega)]
   rw [hl, join_S, joinL_nil]
   refine ⟨?_, fun t' k' => ?_⟩
   ·refine joinOk_of ?_
    have hb := nsum_bound (((ps.map fun p => p.1 ++ p.2).map S).map (·.length)) (fun x hx => by
     obtain ⟨y, hy, rfl⟩ := List.mem_map.mp hx
     obtain ⟨z, hz, rfl⟩ := List.mem_map.mp hy
     obtain ⟨p, hp, rfl⟩ := List.mem_map.mp hz
     rw [S_len, List.length_append]
     exact hpb p hp)
    simp only [List.length_map] at hb ⊢
    have e0 : (S []).length = 0 := rfl
    rw [e0]
    omega
   ·have up : ∀ x o, x ≠ 147 → h2.get? x = some o → s'.heap.get? x = some o := fun x o ne e => hm.heap x o (fun q => by rw [hwr x q] at e; cases e) (k₅ x o ne e)
    have c140 : (147 : Addr) ∉ wr := fun q => by
     have := hwr _ q
     rw [e140] at this; cases this
    refine hQ t' _ ⟨s'.gens, ?_, fun hg => hbare _ _ hm.gens ?_⟩ (fun x o nt e => up x o nt.2 (k2 _ _ (kp _ _ e))) ⟨?_, ⟨cs', ?_⟩⟩
    ·have a1 := hm.drawn
     have a2 := hm.os
     rw [e5] at a1 a2
     obtain ⟨x1, x2, x3, x4, x5⟩ := s'
     dsimp only at a1 a2
     subst a1 a2
     rfl
    ·rw [e5]; exact AllBare.push hg hgs
    ·obtain ⟨qs, q⟩ := hbig1
     exact ⟨qs, q.mv (fun o _ a _ => up _ o (by decide) (k2 _ _ a)) (fun o _ a _ => up _ o (by decide) (k2 _ _ a))⟩
    ·have c144 : (151 : Addr) ∉ wr := fun q => by
      have := hwr _ q
      obtain ⟨⟨o, vs, e, _⟩, _⟩ := IsCode_at hc2
      rw [e] at this; cases this
     exact hc₅.mv (fun o _ a _ => hm.heap _ o c144 a) (fun o _ a _ => hm.heap _ o c140 a)
end Kaccstr
section
variable {w : World} {A : Around} {E : Value → Shared → Prop} {s : Shared} {ac ad : Addr} {its : Array Value} {sz : Int} {n : Nat} {b : Heap}
theorem acc_str {ps : List Piece} {Q : Value → Shared → Prop} (G : Gr w b) (bs : b.StaysIn s.heap) (hb0 : b.get? 147 = none) (hbig : Big s.heap) (ok : Ok 4 A) (X : Acc s.heap ac ad its sz) (hp : PV2 s.heap its.toList ps) (hpl : ps.length < 1000) (hpb : ∀ p ∈ ps, p.1.length + p.2.length < 1000)
  (hQ : ∀ t s', (XL fun _ => True).r s s' → KeepT s.heap s'.heap → Big s'.heap → Q (.str (S (ps.map fun p => p.1 ++ p.2).flatten) t) s') :
  wpAny (model PW w) A (call (.ref 152) [.ref ac]) Q E s :=
 by_eps (C := Kaccstr.C0) _ Kaccstr.main0 (w, A, E, s, ac, ad, its, sz, b, ps, Q) G bs hb0 hbig ok X hp hpl hpb hQ
end
end Mine
-- MF11
namespace Mine
noncomputable def FA (h : Heap) (ac ad : Addr) (ps : List Piece) (sz : Int) : Prop := ∃ its, Acc h ac ad its sz ∧ PV2 h its.toList ps
noncomputable def KeepX (T : List Addr) (h h' : Heap) : Prop := ∀ c o, c ∉ T → h.get? c = some o → h'.get? c = some o
theorem PV2.size {h : Heap} {its : Array Value} {ps : List Piece} (x : PV2 h its.toList ps) : its.size = ps.length := by
 have := VDs.length x
 simpa using this
theorem PV2.butA {h h' : Heap} {ac ad : Addr} {its js : Array Value} {sz : Int} {ps : List Piece} {vs : List Value} (X : Acc h ac ad its sz) (sb : Heap.SameBut ac h h') (x : PV2 h vs ps) : PV2 h' vs ps := by
 refine x.frame fun c hc o e => (sb.2 c fun q => ?_).trans e
 subst q
 obtain ⟨i, hi⟩ := List.getElem?_of_mem (refs_mem hc)
 obtain ⟨T', n', t', u', p', e1, e2, e3⟩ := PV2.at x hi
 cases e1
 obtain ⟨n, e4⟩ := X.at_
 rw [e3] at e4; cases e4
theorem Big.sb {h h' : Heap} {ac ad : Addr} {its : Array Value} {sz : Int} (X : Acc h ac ad its sz) (hb : Big h) (sb : Heap.SameBut ac h h') : Big h' :=
 hb.but (c := ac) (fun a o ne e => (sb.2 a ne).trans e) fun o vs e d => by
  obtain ⟨n, e4⟩ := X.at_
  rw [e] at e4; cases e4; cases d
section
variable {w : World} {A : Around} {E : Value → Shared → Prop} {s : Shared} {ac ad : Addr} {sz : Int} {n : Nat} {b : Heap}
end
namespace KaccpushC
noncomputable def Claim0 (w : World) (A : Around) (E : Value → Shared → Prop) (s : Shared) (ac : Addr) (ad : Addr) (sz : Int) (b : Heap) (ps : List Piece) (x : List Nat) (y : List Nat) (t1 : Tok) (t2 : Tok) (Q : Value → Shared → Prop) : Prop :=
 ∀ (G : Gr w b) (bs : b.StaysIn s.heap) (hbig : Big s.heap) (ok : Ok 4 A) (X : FA s.heap ac ad ps sz) (hpl : ps.length < 900) (hQ : ∀ h' tk, KeepX [ac] s.heap h' → Big h' → FA h' ac ad (ps ++ [(x, y)]) sz → Q .none { s with heap := h', toks := tk }), codeAny (model PW w) A (.call (.ref 122) ⟨[.ref ac, .str (S x) t1, .str (S y) t2], []⟩) (fun r s' => match r with | .ok (.ret v) => Q v s' | .ok _ => False | .error e => E e s') s
noncomputable abbrev Ty0 := (World) × (Around) × (Value → Shared → Prop) × (Shared) × (Addr) × (Addr) × (Int) × (Heap) × (List Piece) × (List Nat) × (List Nat) × (Tok) × (Tok) × (Value → Shared → Prop)
noncomputable def C0 (p : Ty0) : Prop := Claim0 p.1 p.2.1 p.2.2.1 p.2.2.2.1 p.2.2.2.2.1 p.2.2.2.2.2.1 p.2.2.2.2.2.2.1 p.2.2.2.2.2.2.2.1 p.2.2.2.2.2.2.2.2.1 p.2.2.2.2.2.2.2.2.2.1 p.2.2.2.2.2.2.2.2.2.2.1 p.2.2.2.2.2.2.2.2.2.2.2.1 p.2.2.2.2.2.2.2.2.2.2.2.2.1 p.2.2.2.2.2.2.2.2.2.2.2.2.2
noncomputable def eps0 : Ty0 := @Classical.epsilon Ty0 ⟨(aWorld 1, ({} : Around), (fun _ _ => True), ({} : Shared), (default : Addr), (default : Addr), (default : Int), (default : Heap), (default : List Piece), (default : List Nat), (default : List Nat), (default : Tok), (default : Tok), (fun _ _ => True))⟩ (fun p => ¬ C0 p)
noncomputable def w := eps0.1
noncomputable def A := eps0.2.1
noncomputable def E := eps0.2.2.1
noncomputable def s := eps0.2.2.2.1
noncomputable def ac := eps0.2.2.2.2.1
noncomputable def ad := eps0.2.2.2.2.2.1
noncomputable def sz := eps0.2.2.2.2.2.2.1
noncomputable def b := eps0.2.2.2.2.2.2.2.1
noncomputable def ps := eps0.2.2.2.2.2.2.2.2.1
noncomputable def x := eps0.2.2.2.2.2.2.2.2.2.1
noncomputable def y := eps0.2.2.2.2.2.2.2.2.2.2.1
noncomputable def t1 := eps0.2.2.2.2.2.2.2.2.2.2.2.1
noncomputable def t2 := eps0.2.2.2.2.2.2.2.2.2.2.2.2.1
noncomputable def Q := eps0.2.2.2.2.2.2.2.2.2.2.2.2.2
set_option maxHeartbeats 8000000 in
theorem main0 : Claim0 w A E s ac ad sz b ps x y t1 t2 Q := by
 intro G bs hbig ok X hpl hQ
 have hh := Eq.refl (PySem.Challenge.rw_xl0021_01, hd.heap_1)
 revert hh
 k_fill
 intro _
 obtain ⟨its, X, hp⟩ := X
 refine' enter (n := 3) (names := [Str.ofString "self", Str.ofString "fws", Str.ofString "string"]) (vs := [.ref ac, .str (S x) t1, .str (S y) t2]) (ds := [.con (.ref ac), .str (S x), .str (S y)]) _ G bs hbig ok ?k1 ?k2 ?k3 rfl (.cons (.con _) (.cons (.str _ _) (.cons (.str _ _) .nil))) (by decide) ?k4 ?k5 ?k6 ?k7 ?k8 ?k9 ?k10 ?k11
 case k1 => k_is
 case k2 => k_is
 case k3 => exact BindsTo.of_eq rfl
 case k4 => decide
 case k5 => intro d hd; simp at hd; rcases hd with rfl | rfl | rfl; exact .inr ⟨_, rfl⟩; exact .inl (.inl (.str _)); exact .inl (.inl (.str _))
 case k6 => exact one_none (by intro d hd l q; subst q; simp at hd)
 case k7 => decide
 case k9 => rfl
 case k10 => rfl
 case k11 => rfl
 case k8 =>
  intro h₁ tk fe kp lv
  have bs1 := stays_trans bs kp
  have K1 : (hd.heap_1 w.params).In h₁ := fun a o e => bs1 a o (G.k a o e)
  have X1 : Acc h₁ ac ad its sz := X.keep kp
  refine ks_wpAt_execs_cons (ks_wpAt_Expr_any (ks_wpAt_MethodCall (pl := ?pl) (PySem.wpAt_of_wpAny ?ev) ?he))
  case he => rfl
  case ev =>
   show wpAny _ _ (eval (.Name (Str.ofString "self") _) _) _ _ _
   refine name_at (s := { s with heap := h₁, toks := tk }) fe lv rfl (fun v av vd => ?_)
   obtain rfl := VD.conE vd
   refine acc_method (s := { s with heap := h₁, toks := tk }) K1 X1 accK.2.2.1 (Looks.of_pure PySem.F.type_list_append) (.inr rfl) (by decide) ?_
   refine callWith_builtin rfl (evalArgs_plain (spliced_cons ?_))
   refine ev_tuple (k := 0) lv.big (av_two (ev_name fe lv rfl) (ev_name fe lv rfl)) (by rw [sizeLine_eq]; exact Nat.le_of_ble_eq_true rfl) _ _ { s with heap := h₁, toks := tk } _ ok.deeper (stays_refl _) fun v2 h2 t2 k2 hv2 => spliced_nil ?_
   have X2 := X1.keep k2
   have K2 : (hd.heap_1 w.params).In h2 := fun a o e => k2 _ _ (K1 a o e)
   have hp2 : PV2 h2 its.toList ps := VDs.keep hp (stays_trans kp k2)
   refine acc_append (s := { s with heap := h2, toks := t2 }) K2 X2 (by rw [hp.size]; omega) fun h3 X3 sb => ?_
   refine PySem.wpAt_of_wpAny (wpAny_execs_nil ?_)
   refine (hQ h3 _ (fun c o nc e => (sb.2 c (by simpa using nc)).trans (k2 _ _ (kp _ _ e))) (Big.sb X2 ((lv.big).up k2) sb) ⟨_, X3, ?_⟩)
   rw [Array.toList_push]
   have hv3 : PV2 h2 (its.toList ++ [v2]) (ps ++ [(x, y)]) := by
    show VDs h2 _ ((ps ++ [(x, y)]).map PD)
    rw [List.map_append]
    exact VDs.append hp2 (.cons hv2 .nil)
   exact hv3.butA (js := #[]) X2 sb
end KaccpushC
section
variable {w : World} {A : Around} {E : Value → Shared → Prop} {s : Shared} {ac ad : Addr} {sz : Int} {n : Nat} {b : Heap}
theorem acc_pushC {ps : List Piece} {x y : List Nat} {t1 t2 : Tok} {Q : Value → Shared → Prop} (G : Gr w b) (bs : b.StaysIn s.heap) (hbig : Big s.heap) (ok : Ok 4 A) (X : FA s.heap ac ad ps sz) (hpl : ps.length < 900)
  (hQ : ∀ h' tk, KeepX [ac] s.heap h' → Big h' → FA h' ac ad (ps ++ [(x, y)]) sz → Q .none { s with heap := h', toks := tk }) :
  codeAny (model PW w) A (.call (.ref 122) ⟨[.ref ac, .str (S x) t1, .str (S y) t2], []⟩) (fun r s' => match r with | .ok (.ret v) => Q v s' | .ok _ => False | .error e => E e s') s :=
 by_eps (C := KaccpushC.C0) _ KaccpushC.main0 (w, A, E, s, ac, ad, sz, b, ps, x, y, t1, t2, Q) G bs hbig ok X hpl hQ
theorem acc_push {ps : List Piece} {x y : List Nat} {t1 t2 : Tok} {Q : Value → Shared → Prop} (G : Gr w b) (bs : b.StaysIn s.heap) (hbig : Big s.heap) (ok : Ok 4 A) (X : FA s.heap ac ad ps sz) (hpl : ps.length < 900)
  (hQ : ∀ h' tk, KeepX [ac] s.heap h' → Big h' → FA h' ac ad (ps ++ [(x, y)]) sz → Q .none { s with heap := h', toks := tk }) :
  wpAny (model PW w) A (call (.ref 122) [.ref ac, .str (S x) t1, .str (S y) t2]) Q E s := wpAny_call (acc_pushC G bs hbig ok X hpl hQ)
end
end Mine
-- MF12
namespace Mine
theorem g_super {w : World} : nsIn (hd.heap_1 w.params) mainGlobals "super" = some none := by
 have hh := Eq.refl (PySem.Challenge.rw_xl0021_01, hd.heap_1)
 revert hh
 k_fill
 intro _
 have e : nsIn (hd.heap_1 w.params) mainGlobals "super" = some none := by k_is
 exact e
theorem b_super : bootBuiltins "super" = some (.type "super") := by kernel_rfl
theorem cell102 {w : World} : ∃ o, (hd.heap_1 w.params).lookup 102 = some o ∧ o.data = .cell (some (.ref 178)) := by
 have hh := Eq.refl (PySem.Challenge.rw_xl0021_01, hd.heap_1)
 revert hh
 k_fill
 intro _
 exact ⟨_, by k_is, rfl⟩
theorem cls178 {w : World} : ∃ o cd, (hd.heap_1 w.params).lookup 178 = some o ∧ o.data = .cls cd := by
 have hh := Eq.refl (PySem.Challenge.rw_xl0021_01, hd.heap_1)
 revert hh
 k_fill
 intro _
 refine ⟨_, _, by k_is, rfl⟩
theorem file_ok : (PW.main.file == Str.ofString "/claim/cut.py") = true := by kernel_rfl
theorem top_ok : (PW.main.scope.names.lookup (Str.ofString "super")).isSome = false := by kernel_rfl
section
variable {w : World} {A : Around} {E : Value → Shared → Prop} {s : Shared} {ac ad : Addr} {its : Array Value} {sz : Int} {n : Nat} {b : Heap}
theorem acc_super {env : Env} {body : List Stmt} {p0 p1 : Pos} {attr : Str} {whole : Sem Value} {f cc : Addr} {of oc : Obj} {fd : FuncData} {vs : Array Value} {tf : Tok} {h₀ : Heap} {F : Addr → Prop} {σ : List (Str × D)} {O : List Str} {Q : Value → Shared → Prop} {ar : Arg}
  (G : Gr w b) (bs : b.StaysIn s.heap) (fe : Fe env) (lv : LV h₀ F env σ O s.heap) (X : Acc s.heap ac ad its sz) (hself : σ.lookup ar.arg = some (.con (.ref ac))) (hdb : (ar.arg == ("__debug__" : Str)) = false)
  (hks : env.kindOf "super" = some .globalImplicit) (hkc : env.kindOf "__class__" = some .free) (hcl : env.cells.lookup (Str.ofString "__class__") = some 102) (hat : (attr == ("__class__" : Str)) = false) (hfu : env.func = some f) (hf : (hd.heap_1 w.params).lookup f = some of) (hfd : of.data = .func fd)
  (hp : (fd.params.posonlyargs ++ fd.params.args).head? = some ar) (hco : env.code = .ref cc) (hcc : (hd.heap_1 w.params).lookup cc = some oc) (hoc : oc.data = .fields vs) (hvs : vs[2]? = some (.str (Str.ofString "/claim/cut.py") tf))
  (h : ∀ so h' tk, h'.get? so = some (supO ac) → s.heap.StaysIn h' → Q (.ref so) { s with heap := h', toks := tk }) :
  PySem.wpAt (model PW w) A (.func body env) (attributeBase (.Call (.Name (Str.ofString "super") p0) [] [] p1) attr env whole) Q E s := by
 obtain ⟨mean, mg, mb, T⟩ := G.t
 obtain ⟨o102, e102, d102⟩ := cell102 (w := w)
 obtain ⟨o178, cd, e178, d178⟩ := cls178 (w := w)
 refine ks_wpAt_super_base hks hkc hat hfu (bs _ _ (G.k _ _ hf)) hfd hp hco (bs _ _ (G.k _ _ hcc)) hoc hvs file_ok top_ok ?_
 have msub : mroIn (hd.heap_1 w.params) 178 (.ref 178) = some true := by
  obtain ⟨cd', hc, hm, _⟩ := accC (w := w)
  unfold mroIn
  rw [hc, Option.bind_some, hm]; rfl
 have K : (hd.heap_1 w.params).In s.heap := fun a o e => bs a o (G.k a o e)
 obtain ⟨v, av, vd⟩ := lv.rd _ _ hself
 obtain ⟨n, eac⟩ := X.at_
 refine ks_loadName_global fe.kind hks (loadGlobal_builtin (fe.gl ▸ T.g.keeps bs) (mg_none_of G.k T.g g_super) (fe.bi ▸ T.b.keeps bs) ((T.builtins _ (by decide)).trans b_super) ⟨rfl, ?_⟩)
 refine wpAny_loadName_free fe.kind hkc hcl ⟨o102, K _ _ e102, d102⟩ ?_
 refine load_name fe lv hself fun v av vd => ?_
 obtain rfl := VD.conE vd
 obtain ⟨hh, g, d, t, os⟩ := s
 refine ks_wpAny_isType_cls (K _ _ e178) d178 ⟨rfl, ?_⟩
 exact ks_wpAny_call_super (K _ _ e178) d178 eac rfl (fun c q => nomatch q) (looks_mroIn K msub) (fun h' e k => h _ _ _ e k)
end
end Mine
-- MF13
namespace Mine
section
variable {w : World} {A : Around} {E : Value → Shared → Prop} {s : Shared} {ac ad : Addr} {its : Array Value} {sz : Int} {n : Nat} {b : Heap}
theorem check_slotB {id : String} (hk : builtinKind id = some .slot) (ha : argsOk id ⟨[.ref ac], []⟩) {M : Model} {Q : Unit → Shared → Prop} (h : Q () s) : wpAny M A (checkBoundCall id ⟨[.ref ac], []⟩) Q E s := by
 unfold checkBoundCall
 cases hs : Manifest.signature? id with
 | none => exact wpAny_pure h
 | some sig =>
  dsimp only
  rw [hk]
  dsimp only
  rw [if_pos (by decide)]
  simp only [argsOk, hs] at ha
  have h2 : Bind.checkArgs id sig ⟨[.ref ac], []⟩ = pure () := ha
  show wpAny M A (Bind.checkArgs id sig ⟨[.ref ac], []⟩) Q E s
  rw [h2]; exact wpAny_pure h
set_option maxHeartbeats 8000000 in
theorem acc_count {ps : List Piece} {Q : Value → Shared → Prop} (G : Gr w b) (bs : b.StaysIn s.heap) (hbig : Big s.heap) (ok : Ok 4 A) (X : FA s.heap ac ad ps sz) (hac : ac ≠ 178)
  (hQ : ∀ t h' tk, s.heap.StaysIn h' → Q (.int ps.length t) { s with heap := h', toks := tk }) :
  wpAny (model PW w) A (call (.ref 175) [.ref ac]) Q E s := by
 have hh := Eq.refl (PySem.Challenge.rw_xl0021_01, hd.heap_1)
 revert hh
 k_fill
 intro _
 obtain ⟨its, X, hp⟩ := X
 refine' wpAny_call (enter (n := 3) (names := [Str.ofString "self"]) (vs := [.ref ac]) (ds := [.con (.ref ac)]) _ G bs hbig ok ?k1 ?k2 ?k3 rfl (.cons (.con _) .nil) (by decide) ?k4 ?k5 ?k6 ?k7 ?k8 ?k9 ?k10 ?k11)
 case k1 => k_is
 case k2 => k_is
 case k3 => exact BindsTo.of_eq rfl
 case k4 => decide
 case k5 => intro d hd; simp at hd; subst hd; exact .inr ⟨_, rfl⟩
 case k6 => exact one_none (by intro d hd l q; subst q; simp at hd)
 case k7 => decide
 case k9 => rfl
 case k10 => rfl
 case k11 => rfl
 case k8 =>
  intro h₁ tk fe kp lv
  have bs1 := stays_trans bs kp
  have X1 : Acc h₁ ac ad its sz := X.keep kp
  refine ks_wpAt_execs_cons (ks_wpAt_Return_some (ks_wpAt_MethodCall (pl := ?pl) ?ev ?he))
  case he => rfl
  case ev =>
   refine' acc_super (s := { s with heap := h₁, toks := tk }) (ar := ⟨Str.ofString "self", none, ⟨107, 19, 107, 23⟩⟩) (f := 175) (cc := 174) G bs1 fe lv X1 rfl rfl rfl rfl rfl rfl rfl ?f1 ?f2 ?f3 rfl ?f4 ?f5 ?f6 ?f7
   case f1 => k_is
   case f2 => rfl
   case f3 => rfl
   case f4 => k_is
   case f5 => rfl
   case f6 => rfl
   case f7 =>
    intro so h2 t2 e2 k2
    have bs2 := stays_trans bs1 k2
    have K2 : (hd.heap_1 w.params).In h2 := fun a o e => bs2 a o (G.k a o e)
    have X2 := X1.keep k2
    refine super_method (s := { s with heap := h2, toks := t2 }) (o := bndO "method-wrapper" "list.__len__" ac) K2 e2 hac (along_len _) type_len slot_wd.lookup rfl (fun A' Q' E' s' hs hq => wd_get (nm := "__len__") (by rw [hs]; exact K2) (by rw [hs]; exact X2) type_len (fun _ => by kernel_rfl) hq) ?_
    have hu := get_push h2 (bndO "method-wrapper" "list.__len__" ac)
    have X3 := X2.keep (stays_push h2 (bndO "method-wrapper" "list.__len__" ac))
    refine bnd_with hu (.inr rfl) (bnd_call hu (.inr rfl) (by decide +kernel) PySem.entry_list_len (fun A' Q' E' q => check_slotB (by decide +kernel) (by unfold argsOk; kernel_rfl) q) (body_len X3 fun t tk => ?_))
    rw [hp.size]
    exact hQ _ _ _ (stays_trans kp (stays_trans k2 (stays_push _ _)))
end
end Mine
-- MF14
namespace Mine
theorem wpAny_at0 {α : Type} {M : Model} {A : Around} {Q : α → Shared → Prop} {E : Value → Shared → Prop} {s : Shared} {t : Sem α} (h : ∀ c, PySem.wpAt M A c t Q E s) : wpAny M A t Q E s := fun Γ p hΓ => h Γ.code Γ p rfl hΓ
theorem erase_last (its : Array Value) (h : 0 < its.size) : (its.eraseIdxIfInBounds (its.size - 1)).toList = its.toList.take (its.size - 1) := by
 unfold Array.eraseIdxIfInBounds
 rw [dif_pos (by omega)]
 rw [Array.toList_eraseIdx, List.eraseIdx_eq_take_drop_succ, List.drop_of_length_le (by simp; omega), List.append_nil]
section
variable {w : World} {A : Around} {E : Value → Shared → Prop} {s : Shared} {ac ad : Addr} {its : Array Value} {sz : Int} {n : Nat} {b : Heap}
theorem acc_method_call {env : Env} {x name : Str} {p1 apos pos : Pos} {es : List Expr} {f : Addr} {h₀ : Heap} {F : Addr → Prop} {σ : List (Str × D)} {O : List Str} {Q : Value → Shared → Prop} {fo : Obj} {fd : FuncData}
  (G : Gr w b) (bs : b.StaysIn s.heap) (fe : Fe env) (lv : LV h₀ F env σ O s.heap) (X : Acc s.heap ac ad its sz) (hx : σ.lookup x = some (.con (.ref ac))) (hd' : (x == ("__debug__" : Str)) = false)
  (hf : findIn (hd.heap_1 w.params) (.ref 178) name = some (some (.ref f))) (ht : typeIn (hd.heap_1 w.params) (.ref f) = some (.type "function")) (hn : name ≠ "_initial_size") (hfo : (hd.heap_1 w.params).lookup f = some fo) (hfd : fo.data = .func fd)
  (hb : attributeBase (.Name x p1) name env (eval (.Name x p1) env) = eval (.Name x p1) env)
  (he : ∃ pl, eval (.Call (.Attribute (.Name x p1) name apos) es [] pos) env = (do
   let ov ← attributeBase (.Name x p1) name env (eval (.Name x p1) env)
   standAt apos.atName
   let (f, first) ← holding [ov] (getMethod ov name pl)
   callWith pos f first (backTo pos (starEach es env)) []))
  (h : wpAny (model PW w) A (callWith pos (.ref f) [.ref ac] (backTo pos (starEach es env)) []) Q E s) :
  wpAny (model PW w) A (eval (.Call (.Attribute (.Name x p1) name apos) es [] pos) env) Q E s := by
 have K : (hd.heap_1 w.params).In s.heap := fun a o e => bs a o (G.k a o e)
 obtain ⟨pl, he⟩ := he
 refine wpAny_at0 fun c => ks_wpAt_MethodCall (pl := pl) (PySem.wpAt_of_wpAny ?_) he
 rw [hb]
 refine name_at fe lv hx (fun v av vd => ?_) hd'
 obtain rfl := VD.conE vd
 exact acc_method K X hf (looks_typeIn K ht) (.inl rfl) hn h
end
namespace Kaccpop
noncomputable def Claim0 (w : World) (A : Around) (E : Value → Shared → Prop) (s : Shared) (ac : Addr) (ad : Addr) (sz : Int) (b : Heap) (Q : Value → Shared → Prop) : Prop :=
 ∀ (ps : List Piece) (G : Gr w b) (bs : b.StaysIn s.heap) (hbig : Big s.heap) (ok : Ok 5 A) (X : FA s.heap ac ad ps sz) (hac : ac ≠ 178) (hpl : ps.length < 900) (hQ : ∀ v h' tk, KeepX [ac] s.heap h' → Big h' → FA h' ac ad ps.dropLast sz → VD h' v (PD (ps.getLast?.getD ([], []))) → Q v { s with heap := h', toks := tk }), wpAny (model PW w) A (call (.ref 138) [.ref ac]) Q E s
noncomputable abbrev Ty0 := (World) × (Around) × (Value → Shared → Prop) × (Shared) × (Addr) × (Addr) × (Int) × (Heap) × (Value → Shared → Prop)
noncomputable def C0 (p : Ty0) : Prop := Claim0 p.1 p.2.1 p.2.2.1 p.2.2.2.1 p.2.2.2.2.1 p.2.2.2.2.2.1 p.2.2.2.2.2.2.1 p.2.2.2.2.2.2.2.1 p.2.2.2.2.2.2.2.2
noncomputable def eps0 : Ty0 := @Classical.epsilon Ty0 ⟨(aWorld 1, ({} : Around), (fun _ _ => True), ({} : Shared), (default : Addr), (default : Addr), (default : Int), (default : Heap), (fun _ _ => True))⟩ (fun p => ¬ C0 p)
noncomputable def w := eps0.1
noncomputable def A := eps0.2.1
noncomputable def E := eps0.2.2.1
noncomputable def s := eps0.2.2.2.1
noncomputable def ac := eps0.2.2.2.2.1
noncomputable def ad := eps0.2.2.2.2.2.1
noncomputable def sz := eps0.2.2.2.2.2.2.1
noncomputable def b := eps0.2.2.2.2.2.2.2.1
noncomputable def Q := eps0.2.2.2.2.2.2.2.2
set_option maxHeartbeats 8000000 in
theorem main0 : Claim0 w A E s ac ad sz b Q := by
 intro ps G bs hbig ok X hac hpl hQ
 have hh := Eq.refl (PySem.Challenge.rw_xl0021_01, hd.heap_1)
 revert hh
 k_fill
 intro _
 obtain ⟨fo, fd, ho175, hd175⟩ : ∃ fo fd, (hd.heap_1 w.params).lookup 175 = some fo ∧ fo.data = .func fd := ⟨_, _, by k_is, rfl⟩
 obtain ⟨its, X, hp⟩ := X
 refine' wpAny_call (enter (n := 4) (names := [Str.ofString "self"]) (vs := [.ref ac]) (ds := [.con (.ref ac)]) _ G bs hbig ok ?k1 ?k2 ?k3 rfl (.cons (.con _) .nil) (by decide) ?k4 ?k5 ?k6 ?k7 ?k8 ?k9 ?k10 ?k11)
 case k1 => k_is
 case k2 => k_is
 case k3 => exact BindsTo.of_eq rfl
 case k4 => decide
 case k5 => intro d hd; simp at hd; subst hd; exact .inr ⟨_, rfl⟩
 case k6 => exact one_none (by intro d hd l q; subst q; simp at hd)
 case k7 => decide
 case k9 => rfl
 case k10 => rfl
 case k11 => rfl
 case k8 =>
  intro h₁ tk fe kp lv
  have bs1 := stays_trans bs kp
  have X1 : Acc h₁ ac ad its sz := X.keep kp
  have hp1 : PV2 h₁ its.toList ps := VDs.keep hp kp
  refine ks_wpAt_execs_cons (ks_wpAt_If (PySem.wpAt_of_wpAny (PySem.wpAny_isTrue_Compare1 ?_ (by with_unfolding_all rfl))))
  refine acc_method_call (s := { s with heap := h₁, toks := tk }) G bs1 fe lv X1 rfl rfl accF.1.2.2.2.2.2 accF.2.2.2.2.2.2 (by decide) ho175 hd175 rfl ⟨_, rfl⟩ ?_
  refine callWith_function (o := fo) (fd := fd) (PySem.evalArgs_none ⟨⟨bs1 _ _ (G.k _ _ ho175), hd175⟩, ?_⟩)
  refine acc_count (s := { s with heap := h₁, toks := tk }) G bs1 lv.big ok.deeper ⟨its, X1, hp1⟩ hac fun t h2 t2 k2 => ?_
  refine wpAny_Constant_int (eq_int (wpAny_truthy_bool ?_))
  have lv2 := lv.keep k2
  have X2 := X1.keep k2
  have hp2 : PV2 h2 its.toList ps := VDs.keep hp1 k2
  have bs2 := stays_trans bs1 k2
  by_cases hps : ps = []
  ·subst hps
   rw [if_pos (by rfl)]
   refine ks_wpAt_execs_cons (ks_wpAt_Return_some (PySem.wpAt_of_wpAny ?_))
   refine ev_tuple (k := 0) lv2.big (av_two ev_strS ev_strS) (by rw [sizeLine_eq]; exact Nat.le_of_ble_eq_true rfl) _ _ { s with heap := h2, toks := _ } _ ok.deeper (stays_refl _) fun v h3 t3 k3 hv => ?_
   refine hQ v h3 t3 (fun c o _ e => k3 _ _ (k2 _ _ (kp _ _ e))) (lv2.big.up k3) ⟨its, X2.keep k3, ?_⟩ hv
   exact VDs.keep hp2 k3
  ·have hne : ps.length ≠ 0 := fun q => hps (List.length_eq_zero_iff.mp q)
   rw [if_neg (by simp; omega)]
   refine PySem.wpAt_of_wpAny (wpAny_execs_nil ?_)
   refine ks_wpAt_execs_cons (ks_wpAt_Return_some (ks_wpAt_MethodCall (pl := ?pl) ?ev ?he))
   case he => rfl
   case ev =>
    refine' acc_super (s := { s with heap := h2, toks := _ }) (ar := ⟨Str.ofString "self", none, ⟨87, 12, 87, 16⟩⟩) (f := 138) (cc := 137) G bs2 fe lv2 X2 rfl rfl rfl rfl rfl rfl rfl ?f1 ?f2 ?f3 rfl ?f4 ?f5 ?f6 ?f7
    case f1 => k_is
    case f2 => rfl
    case f3 => rfl
    case f4 => k_is
    case f5 => rfl
    case f6 => rfl
    case f7 =>
     intro so h3 t3 e3 k3
     have bs3 := stays_trans bs2 k3
     have K3 : (hd.heap_1 w.params).In h3 := fun a o e => bs3 a o (G.k a o e)
     have X3 := X2.keep k3
     have hp3 : PV2 h3 its.toList ps := VDs.keep hp2 k3
     refine super_method (s := { s with heap := h3, toks := t3 }) (o := bndO "builtin_function_or_method" "list.pop" ac) K3 e3 hac (along_pop _) type_pop slot_md.lookup rfl (fun A' Q' E' s' hs hq => md_get (by rw [hs]; exact K3) (by rw [hs]; exact X3) hq) ?_
     have k4 := stays_push h3 (bndO "builtin_function_or_method" "list.pop" ac)
     have hu := get_push h3 (bndO "builtin_function_or_method" "list.pop" ac)
     have X4 := X3.keep k4
     have hp4 : PV2 _ its.toList ps := VDs.keep hp3 k4
     have K4 : (hd.heap_1 w.params).In (h3.push (bndO "builtin_function_or_method" "list.pop" ac)) := fun a o e => k4 _ _ (K3 a o e)
     have hsz := hp.size
     have hlast : its.toList[its.size - 1]? = some its[its.size - 1] := by simp
     obtain ⟨T', n', t', u', p', e1, e2, e5⟩ := hp4.at hlast
     refine bnd_with hu (.inl rfl) (bnd_call hu (.inl rfl) (by decide +kernel) PySem.F.entry_list_pop (fun A' Q' E' q => check_pop K4 X4 q) (body_pop X4 (by omega) (y := its[its.size - 1]) (by simp) fun h5 X5 sb => ?_))
     have hb4 := ((lv2.big).up k3).up k4
     refine hQ _ h5 _ (fun c o nc e => (sb.2 c (by simpa using nc)).trans (k4 _ _ (k3 _ _ (k2 _ _ (kp _ _ e))))) (Big.sb X4 hb4 sb) ⟨_, X5, ?_⟩ ?_
     ·have e6 : (its.eraseIdxIfInBounds (its.size - 1)).toList = its.toList.take (its.size - 1) := erase_last its (by omega)
      rw [e6]
      refine PV2.butA (js := #[]) X4 sb ?_
      rw [List.dropLast_eq_take]
      show VDs _ _ ((ps.take (ps.length - 1)).map PD)
      rw [List.map_take, hsz]
      exact VDs.take _ hp4
     ·rw [List.getLast?_eq_getElem?, ← hsz, e2, e1]
      have nT : NT T' := by
       obtain ⟨⟨o, vs, e, d⟩, ⟨o2, vs2, e', d'⟩⟩ := hb4.tabs
       exact ⟨fun q => (by rw [← q, e5] at e; cases e; cases d), fun q => (by rw [← q, e5] at e'; cases e'; cases d')⟩
      have nac : T' ≠ ac := fun q => by
       obtain ⟨n, e4⟩ := X4.at_
       have e6 := e5
       rw [q, e4] at e6; cases e6
      exact .tuple nT ((sb.2 T' nac).trans e5) (.cons (.str _ _) (.cons (.str _ _) .nil))
end Kaccpop
section
variable {w : World} {A : Around} {E : Value → Shared → Prop} {s : Shared} {ac ad : Addr} {its : Array Value} {sz : Int} {n : Nat} {b : Heap}
theorem acc_pop {ps : List Piece} {Q : Value → Shared → Prop} (G : Gr w b) (bs : b.StaysIn s.heap) (hbig : Big s.heap) (ok : Ok 5 A) (X : FA s.heap ac ad ps sz) (hac : ac ≠ 178) (hpl : ps.length < 900)
  (hQ : ∀ v h' tk, KeepX [ac] s.heap h' → Big h' → FA h' ac ad ps.dropLast sz → VD h' v (PD (ps.getLast?.getD ([], []))) → Q v { s with heap := h', toks := tk }) :
  wpAny (model PW w) A (call (.ref 138) [.ref ac]) Q E s :=
 by_eps (C := Kaccpop.C0) _ Kaccpop.main0 (w, A, E, s, ac, ad, sz, b, Q) ps G bs hbig ok X hac hpl hQ
end
end Mine
-- MF15
namespace Mine
theorem vd_butA {h h' : Heap} {ac ad : Addr} {its : Array Value} {sz : Int} (X : Acc h ac ad its sz) (sb : Heap.SameBut ac h h') {v : Value} {d : D} (hv : VD h v d) : VD h' v d := by
 obtain ⟨n, e4⟩ := X.at_
 refine VD.rec (motive_1 := fun v d _ => VD h' v d) (motive_2 := fun vs ds _ => VDs h' vs ds) .none (fun b => .bool b) (fun i t => .int i t) (fun i t => .str i t) (fun v => .con v) ?_ ?_ ?_ .nil (fun _ _ a b => .cons a b) hv
 ·intro r a b c t u v l e
  exact .range l ((sb.2 _ (fun q => by rw [q, e4] at e; cases e)).trans e)
 ·intro a n vs l hl e _ hs
  exact .list hl ((sb.2 _ (fun q => by rw [q, e4] at e; cases e)).trans e) hs
 ·intro a n vs l hl e _ hs
  exact .tuple hl ((sb.2 _ (fun q => by rw [q, e4] at e; cases e)).trans e) hs
theorem lows_PD : ∀ ps : List Piece, Lows (ps.map PD) := lows_map fun p => .tuple (.cons (.str _) (.cons (.str _) .nil))
theorem pick_from (its : Array Value) (k : Nat) : (slicePick its (some (k : Int)) none none).toList = its.toList.drop k := by
 have := slicePick_cut its.toList (some (k : Int)) none none
 rw [Array.toArray_toList] at this
 rw [this]
 exact cut_from its.toList k
theorem bounds_from (k n : Nat) : (sliceBounds (some (k : Int)) none none n).1 = (min k n : Nat) ∧ (sliceBounds (some (k : Int)) none none n).2.1 = (n : Int) := by
 unfold sliceBounds
 simp only [Option.getD_none]
 constructor
 ·simp; omega
 ·simp
theorem bounds_all (n : Nat) : (sliceBounds none none none n).1 = 0 ∧ (sliceBounds none none none n).2.1 = (n : Int) := by
 unfold sliceBounds
 simp
section
variable {w : World} {A : Around} {E : Value → Shared → Prop} {s : Shared} {ac ad : Addr} {its : Array Value} {sz : Int} {n : Nat} {b : Heap}
end
namespace Kaccpopfrom
noncomputable def Claim0 (w : World) (A : Around) (E : Value → Shared → Prop) (s : Shared) (ac : Addr) (ad : Addr) (sz : Int) (b : Heap) (ps : List Piece) (k : Nat) (t : Tok) (Q : Value → Shared → Prop) : Prop :=
 ∀ (G : Gr w b) (bs : b.StaysIn s.heap) (hbig : Big s.heap) (ok : Ok 5 A) (X : FA s.heap ac ad ps sz) (hpl : ps.length < 900) (hk : k ≤ ps.length) (hQ : ∀ v h' tk, KeepX [ac] s.heap h' → Big h' → FA h' ac ad (ps.take k) sz → VD h' v (.list ((ps.drop k).map PD)) → (∀ a, v = .ref a → s.heap.get? a = none) → Q v { s with heap := h', toks := tk }), wpAny (model PW w) A (call (.ref 130) [.ref ac, .int k t]) Q E s
noncomputable abbrev Ty0 := (World) × (Around) × (Value → Shared → Prop) × (Shared) × (Addr) × (Addr) × (Int) × (Heap) × (List Piece) × (Nat) × (Tok) × (Value → Shared → Prop)
noncomputable def C0 (p : Ty0) : Prop := Claim0 p.1 p.2.1 p.2.2.1 p.2.2.2.1 p.2.2.2.2.1 p.2.2.2.2.2.1 p.2.2.2.2.2.2.1 p.2.2.2.2.2.2.2.1 p.2.2.2.2.2.2.2.2.1 p.2.2.2.2.2.2.2.2.2.1 p.2.2.2.2.2.2.2.2.2.2.1 p.2.2.2.2.2.2.2.2.2.2.2
noncomputable def eps0 : Ty0 := @Classical.epsilon Ty0 ⟨(aWorld 1, ({} : Around), (fun _ _ => True), ({} : Shared), (default : Addr), (default : Addr), (default : Int), (default : Heap), (default : List Piece), (default : Nat), (default : Tok), (fun _ _ => True))⟩ (fun p => ¬ C0 p)
noncomputable def w := eps0.1
noncomputable def A := eps0.2.1
noncomputable def E := eps0.2.2.1
noncomputable def s := eps0.2.2.2.1
noncomputable def ac := eps0.2.2.2.2.1
noncomputable def ad := eps0.2.2.2.2.2.1
noncomputable def sz := eps0.2.2.2.2.2.2.1
noncomputable def b := eps0.2.2.2.2.2.2.2.1
noncomputable def ps := eps0.2.2.2.2.2.2.2.2.1
noncomputable def k := eps0.2.2.2.2.2.2.2.2.2.1
noncomputable def t := eps0.2.2.2.2.2.2.2.2.2.2.1
noncomputable def Q := eps0.2.2.2.2.2.2.2.2.2.2.2
set_option maxHeartbeats 8000000 in
theorem main0 : Claim0 w A E s ac ad sz b ps k t Q := by
 intro G bs hbig ok X hpl hk hQ
 have hh := Eq.refl (PySem.Challenge.rw_xl0021_01, hd.heap_1)
 revert hh
 k_fill
 intro _
 obtain ⟨its, X, hp⟩ := X
 refine' wpAny_call (enter (n := 4) (names := [Str.ofString "self", Str.ofString "i"]) (vs := [.ref ac, .int k t]) (ds := [.con (.ref ac), .int k]) _ G bs hbig ok ?k1 ?k2 ?k3 rfl (.cons (.con _) (.cons (.int _ _) .nil)) (by decide) ?k4 ?k5 ?k6 ?k7 ?k8 ?k9 ?k10 ?k11)
 case k1 => k_is
 case k2 => k_is
 case k3 =>
  obtain ⟨od, eod, td, nd, dod⟩ : ∃ o, (hd.heap_1 w.params).lookup 123 = some o ∧ ∃ t n, o.data = .seq #[.int 0 t] n := ⟨_, by k_is, _, _, rfl⟩
  exact BindsTo.of_defaults (T := 123) (items := #[.int 0 td]) rfl (bs _ _ (G.k _ _ eod)) dod rfl rfl
 case k4 => decide
 case k5 => intro d hd; simp at hd; rcases hd with rfl | rfl; exact .inr ⟨_, rfl⟩; exact .inl (.inl (.int _))
 case k6 => exact one_none (by intro d hd l q; subst q; simp at hd)
 case k7 => decide
 case k9 => rfl
 case k10 => rfl
 case k11 => rfl
 case k8 =>
  intro h₁ tk fe kp lv
  refine PySem.wpAt_of_wpAny ?_
  have bs1 := stays_trans bs kp
  have X1 : Acc h₁ ac ad its sz := X.keep kp
  have hp1 : PV2 h₁ its.toList ps := VDs.keep hp kp
  have hsz := hp.size
  have z := sizeLine_eq
  refine wpAny_execs_cons (wpAny_Assign_Name (Subscript_ (name_at (s := { s with heap := h₁, toks := tk }) fe lv rfl (fun v av vd => ?_))) rfl)
  obtain rfl := VD.conE vd
  refine slice_eval (s := { s with heap := h₁, toks := tk }) (pv_some (ev_name fe lv rfl)) pv_none pv_none ok.deeper (stays_refl _) fun a h2 t2 l u kk k2 hsl e1 e2 e3 => ?_
  have X2 := X1.keep k2
  have hp2 : PV2 h2 its.toList ps := VDs.keep hp1 k2
  have bs2 := stays_trans bs1 k2
  have K2 : (hd.heap_1 w.params).In h2 := fun a o e => bs2 a o (G.k a o e)
  have lv2 := lv.keep k2
  obtain ⟨ops, eo⟩ := subscripted_ops (.Slice (some (.Name (Str.ofString "i") ⟨83, 22, 83, 23⟩)) none none ⟨83, 22, 83, 24⟩) (.ref ac) (.ref a)
  have hsl' : h2.IsSliceOf a (partValue l) (partValue u) (partValue kk) := hsl
  have pl := isPart_of l
  have pu := isPart_of u
  have pk := isPart_of kk
  rw [e1] at pl
  rw [e2] at pu
  rw [e3] at pk
  refine acc_tail (s := { s with heap := h2, toks := t2 }) (ops := ops) K2 X2 (acc_slice (s := { s with heap := h2, toks := t2 }) K2 X2 (by omega) hsl' pl pu pk (by simp) ?_) eo
  have k3 := stays_push h2 { cls := .type "list", data := .seq (slicePick its (some (k : Int)) none none) }
  have lv3 := lv2.keep k3
  have hv3 : VD (h2.push { cls := .type "list", data := .seq (slicePick its (some (k : Int)) none none) }) (.ref h2.objs.size) (.list ((ps.drop k).map PD)) := by
   have hh2 : VDs h2 (slicePick its (some (k : Int)) none none).toList ((ps.drop k).map PD) := by
    rw [pick_from, List.map_drop]
    exact VDs.drop k hp2
   have := vd_new_list lv2.big hh2
   rwa [Array.toArray_toList] at this
  have fr3 : s.heap.get? h2.objs.size = none := not_old (stays_trans kp k2) (fresh_size h2)
  refine store_name (d := .list ((ps.drop k).map PD)) (O' := [Str.ofString "popped"]) fe lv3 (.inl rfl) hv3 (.inl (.inr ⟨_, rfl, lows_PD _⟩)) (fun a' l' q1 q2 z m hz hl az => ?_) (fun z hz => .inr ⟨List.mem_singleton.mp hz, fun a' l' q _ f => by cases q; obtain ⟨o, e⟩ := f; rw [fr3] at e; cases e⟩) fun h4 t4 kv4 lv4 => ?_
  ·obtain ⟨i, _, e⟩ := lookup_zip_of hl
   rcases i with _ | _ | i <;> simp at e
  have X4 : Acc h4 ac ad its sz := by
   obtain ⟨⟨n, e⟩, ⟨o, hs, tk, t, m, e2, d⟩⟩ := X
   exact ⟨⟨n, lv4.st _ _ ⟨_, e⟩ e⟩, o, hs, tk, t, m, lv4.st _ _ ⟨_, e2⟩ e2, d⟩
  have hp4 : PV2 h4 its.toList ps := hp.frame fun c hc o e => lv4.st _ _ ⟨_, e⟩ e
  have st4 : s.heap.StaysIn h4 := fun c o e => lv4.st c o ⟨_, e⟩ e
  have bs4 := stays_trans bs st4
  refine wpAny_execs_cons (wpAny_Assign_Subscript ?_ rfl)
  refine evf_list lv4.big av_nil (Nat.zero_le _) _ _ { s with heap := h4, toks := t4 } _ ok.deeper (stays_refl _) fun v5 h5 t5 k5 hv5 fr5 => ?_
  have lv5 := lv4.keep k5
  refine name_at (s := { s with heap := h5, toks := t5 }) fe lv5 rfl (fun v av vd => ?_)
  obtain rfl := VD.conE vd
  refine slice_eval (s := { s with heap := h5, toks := t5 }) (pv_some (ev_name fe lv5 rfl)) pv_none pv_none ok.deeper (stays_refl _) fun a6 h6 t6 l6 u6 kk6 k6 hsl6 e61 e62 e63 => ?_
  have X6 := (X4.keep k5).keep k6
  have bs6 := stays_trans bs4 (stays_trans k5 k6)
  have K6 : (hd.heap_1 w.params).In h6 := fun a o e => bs6 a o (G.k a o e)
  have lv6 := lv5.keep k6
  have hp6 : PV2 h6 its.toList ps := VDs.keep hp4 (stays_trans k5 k6)
  have pl6 := isPart_of l6
  have pu6 := isPart_of u6
  have pk6 := isPart_of kk6
  rw [e61] at pl6
  rw [e62] at pu6
  rw [e63] at pk6
  obtain ⟨b5, n5, ws5, rfl, nt5, eb5, sl5⟩ := VD.listE hv5
  have hw : ws5 = [] := by obtain rfl := VDs.nilE sl5; rfl
  subst hw
  have nb : ac ≠ b5 := fun q => by
   obtain ⟨nn, e⟩ := X4.at_
   have := fr5 b5 rfl
   rw [← q, e] at this; cases this
  refine acc_setslice (s := { s with heap := h6, toks := t6 }) K6 X6 (by omega) (by decide) (show h6.IsSliceOf a6 (partValue l6) (partValue u6) (partValue kk6) from hsl6) pl6 pu6 pk6 (k6 _ _ eb5) nb fun h7 X7 sb => ?_
  obtain ⟨vp, avp, hvp⟩ := lv6.rd (Str.ofString "popped") _ rfl
  have hvp7 := vd_butA X6 sb hvp
  refine wpAny_execs_cons (wpAny_Return_some (wpAny_Name ?_ (by decide)))
  have avp' := avp
  rcases avp with ⟨kk, m, nn, em⟩ | ⟨kk, _⟩
  ·have nn7 := nn.sameBut sb (fun q => by
    obtain ⟨nn', e⟩ := X6.at_
    obtain ⟨o, es, ep, e2, d2, _⟩ := nn
    rw [q, e] at e2; cases e2; cases d2)
   refine wpAny_loadName_local fe.kind kk nn7 em ?_
   refine hQ vp h7 t6 (fun c o nc e => (sb.2 c (by simpa using nc)).trans (k6 _ _ (k5 _ _ (st4 _ _ e)))) (Big.sb X6 lv6.big sb) ⟨_, X7, ?_⟩ hvp7 (fun a' q => ?_)
   ·rw [(bounds_from k its.size).1, (bounds_from k its.size).2]
    have e7 : (its.extract 0 ((min k its.size : Nat) : Int).toNat ++ (#[] : Array Value) ++ its.extract (max ((min k its.size : Nat) : Int) (its.size : Int)).toNat its.size).toList = its.toList.take k := by
     have e8 : (max ((min k its.size : Nat) : Int) (its.size : Int)).toNat = its.size := by omega
     rw [e8]
     simp
    have hv8 : PV2 h6 (its.toList.take k) (ps.take k) := by
     show VDs h6 _ ((ps.take k).map PD)
     rw [List.map_take]
     exact VDs.take k hp6
    have := hv8.butA (js := #[]) X6 sb
    rw [← e7] at this
    exact this
   ·cases q0 : s.heap.get? a' with
    | none => rfl
    | some o => exact absurd ⟨o, q0⟩ (lv6.ow (Str.ofString "popped") a' _ (.head _) rfl (q ▸ avp'))
  ·cases kk
end Kaccpopfrom
section
variable {w : World} {A : Around} {E : Value → Shared → Prop} {s : Shared} {ac ad : Addr} {its : Array Value} {sz : Int} {n : Nat} {b : Heap}
theorem acc_pop_from {ps : List Piece} {k : Nat} {t : Tok} {Q : Value → Shared → Prop} (G : Gr w b) (bs : b.StaysIn s.heap) (hbig : Big s.heap) (ok : Ok 5 A) (X : FA s.heap ac ad ps sz) (hpl : ps.length < 900) (hk : k ≤ ps.length)
  (hQ : ∀ v h' tk, KeepX [ac] s.heap h' → Big h' → FA h' ac ad (ps.take k) sz → VD h' v (.list ((ps.drop k).map PD)) → (∀ a, v = .ref a → s.heap.get? a = none) → Q v { s with heap := h', toks := tk }) :
  wpAny (model PW w) A (call (.ref 130) [.ref ac, .int k t]) Q E s :=
 by_eps (C := Kaccpopfrom.C0) _ Kaccpopfrom.main0 (w, A, E, s, ac, ad, sz, b, ps, k, t, Q) G bs hbig ok X hpl hk hQ
end
end Mine
-- MF16
namespace Mine
theorem At.sameA {h h' : Heap} {env : Env} {ac ad : Addr} {its : Array Value} {sz : Int} {x : Str} {v : Value} (X : Acc h ac ad its sz) (sb : Heap.SameBut ac h h') (a : At h env x v) : At h' env x v := by
 obtain ⟨n, e⟩ := X.at_
 rcases a with ⟨k, m, nn, em⟩ | ⟨k, c, l, o, g, d⟩
 ·refine .inl ⟨k, m, nn.sameBut sb fun q => ?_, em⟩
  obtain ⟨o, es, ep, e2, d2, _⟩ := nn
  rw [q, e] at e2; cases e2; cases d2
 ·refine .inr ⟨k, c, l, o, (sb.2 c fun q => ?_).trans g, d⟩
  rw [q, e] at g; cases g; cases d
theorem name_of_at {w : World} {A : Around} {E : Value → Shared → Prop} {s : Shared} {env : Env} {x : Str} {pos : Pos} {v : Value} {Q : Value → Shared → Prop} (fe : Fe env) (a : At s.heap env x v) (h : Q v s) (hd : (x == ("__debug__" : Str)) = false := by decide) : wpAny (model PW w) A (eval (.Name x pos) env) Q E s := by
 rcases a with ⟨k, m, nn, em⟩ | ⟨k, c, l, g⟩
 ·exact wpAny_Name (wpAny_loadName_local fe.kind k nn em h) hd
 ·exact wpAny_Name (wpAny_loadName_cell fe.kind k l g h) hd
section
variable {w : World} {A : Around} {E : Value → Shared → Prop} {s : Shared} {ac ad : Addr} {its : Array Value} {sz : Int} {n : Nat} {b : Heap}
end
namespace Kresettail
noncomputable def Claim0 (w : World) (A : Around) (E : Value → Shared → Prop) (s : Shared) (ac : Addr) (ad : Addr) (its : Array Value) (sz : Int) (n : Nat) (b : Heap) (env : Env) (h₀ : Heap) (F : Addr → Prop) (σ : List (Str × D)) (O : List Str) (ps : List Piece) (qs : List Piece) (Q : Flow → Shared → Prop) (p1 : Pos) (p2 : Pos) (p3 : Pos) (p4 : Pos) (p5 : Pos) (p6 : Pos) (p7 : Pos) (p8 : Pos) (p9 : Pos) : Prop :=
 ∀ (G : Gr w b) (bs : b.StaysIn s.heap) (fe : Fe env) (ok : Ok n A) (lv : LV h₀ F env σ O s.heap) (X : Acc s.heap ac ad its sz) (hp : PV2 s.heap its.toList ps) (h1 : σ.lookup (Str.ofString "self") = some (.con (.ref ac))) (h2 : σ.lookup (Str.ofString "startval") = some (.list (qs.map PD))) (hpl : ps.length < 900) (hql : qs.length < 900) (hna : b.get? ac = none) (hs1 : swapsWith (.Name (Str.ofString "startval") p1) (some (.Subscript (.Name (Str.ofString "self") p2) (.Slice none none none p3) p4)) p5.line env = pure false) (hs2 : swapsWith (.Constant (.int 0) 0 p6) (some (.Attribute (.Name (Str.ofString "self") p7) (Str.ofString "_initial_size") p8)) p9.line env = pure false) (hQ : ∀ h' tk, KeepX [ac, ad] s.heap h' → Big h' → FA h' ac ad qs 0 → Q .next { s with heap := h', toks := tk }), wpAny (model PW w) A (execs [.Assign [.Subscript (.Name (Str.ofString "self") p2) (.Slice none none none p3) p4] (.Name (Str.ofString "startval") p1) p5, .Assign [.Attribute (.Name (Str.ofString "self") p7) (Str.ofString "_initial_size") p8] (.Constant (.int 0) 0 p6) p9] env) Q E s
noncomputable abbrev Ty0 := (World) × (Around) × (Value → Shared → Prop) × (Shared) × (Addr) × (Addr) × (Array Value) × (Int) × (Nat) × (Heap) × (Env) × (Heap) × (Addr → Prop) × (List (Str × D)) × (List Str) × (List Piece) × (List Piece) × (Flow → Shared → Prop) × (Pos) × (Pos) × (Pos) × (Pos) × (Pos) × (Pos) × (Pos) × (Pos) × (Pos)
noncomputable def C0 (p : Ty0) : Prop := Claim0 p.1 p.2.1 p.2.2.1 p.2.2.2.1 p.2.2.2.2.1 p.2.2.2.2.2.1 p.2.2.2.2.2.2.1 p.2.2.2.2.2.2.2.1 p.2.2.2.2.2.2.2.2.1 p.2.2.2.2.2.2.2.2.2.1 p.2.2.2.2.2.2.2.2.2.2.1 p.2.2.2.2.2.2.2.2.2.2.2.1 p.2.2.2.2.2.2.2.2.2.2.2.2.1 p.2.2.2.2.2.2.2.2.2.2.2.2.2.1 p.2.2.2.2.2.2.2.2.2.2.2.2.2.2.1 p.2.2.2.2.2.2.2.2.2.2.2.2.2.2.2.1 p.2.2.2.2.2.2.2.2.2.2.2.2.2.2.2.2.1 p.2.2.2.2.2.2.2.2.2.2.2.2.2.2.2.2.2.1 p.2.2.2.2.2.2.2.2.2.2.2.2.2.2.2.2.2.2.1 p.2.2.2.2.2.2.2.2.2.2.2.2.2.2.2.2.2.2.2.1 p.2.2.2.2.2.2.2.2.2.2.2.2.2.2.2.2.2.2.2.2.1 p.2.2.2.2.2.2.2.2.2.2.2.2.2.2.2.2.2.2.2.2.2.1 p.2.2.2.2.2.2.2.2.2.2.2.2.2.2.2.2.2.2.2.2.2.2.1 p.2.2.2.2.2.2.2.2.2.2.2.2.2.2.2.2.2.2.2.2.2.2.2.1 p.2.2.2.2.2.2.2.2.2.2.2.2.2.2.2.2.2.2.2.2.2.2.2.2.1 p.2.2.2.2.2.2.2.2.2.2.2.2.2.2.2.2.2.2.2.2.2.2.2.2.2.1 p.2.2.2.2.2.2.2.2.2.2.2.2.2.2.2.2.2.2.2.2.2.2.2.2.2.2
noncomputable def eps0 : Ty0 := @Classical.epsilon Ty0 ⟨(aWorld 1, ({} : Around), (fun _ _ => True), ({} : Shared), (default : Addr), (default : Addr), (default : Array Value), (default : Int), (default : Nat), (default : Heap), (default : Env), (default : Heap), (fun _ => True), (default : List (Str × D)), (default : List Str), (default : List Piece), (default : List Piece), (fun _ _ => True), (default : Pos), (default : Pos), (default : Pos), (default : Pos), (default : Pos), (default : Pos), (default : Pos), (default : Pos), (default : Pos))⟩ (fun p => ¬ C0 p)
noncomputable def w := eps0.1
noncomputable def A := eps0.2.1
noncomputable def E := eps0.2.2.1
noncomputable def s := eps0.2.2.2.1
noncomputable def ac := eps0.2.2.2.2.1
noncomputable def ad := eps0.2.2.2.2.2.1
noncomputable def its := eps0.2.2.2.2.2.2.1
noncomputable def sz := eps0.2.2.2.2.2.2.2.1
noncomputable def n := eps0.2.2.2.2.2.2.2.2.1
noncomputable def b := eps0.2.2.2.2.2.2.2.2.2.1
noncomputable def env := eps0.2.2.2.2.2.2.2.2.2.2.1
noncomputable def h₀ := eps0.2.2.2.2.2.2.2.2.2.2.2.1
noncomputable def F := eps0.2.2.2.2.2.2.2.2.2.2.2.2.1
noncomputable def σ := eps0.2.2.2.2.2.2.2.2.2.2.2.2.2.1
noncomputable def O := eps0.2.2.2.2.2.2.2.2.2.2.2.2.2.2.1
noncomputable def ps := eps0.2.2.2.2.2.2.2.2.2.2.2.2.2.2.2.1
noncomputable def qs := eps0.2.2.2.2.2.2.2.2.2.2.2.2.2.2.2.2.1
noncomputable def Q := eps0.2.2.2.2.2.2.2.2.2.2.2.2.2.2.2.2.2.1
noncomputable def p1 := eps0.2.2.2.2.2.2.2.2.2.2.2.2.2.2.2.2.2.2.1
noncomputable def p2 := eps0.2.2.2.2.2.2.2.2.2.2.2.2.2.2.2.2.2.2.2.1
noncomputable def p3 := eps0.2.2.2.2.2.2.2.2.2.2.2.2.2.2.2.2.2.2.2.2.1
noncomputable def p4 := eps0.2.2.2.2.2.2.2.2.2.2.2.2.2.2.2.2.2.2.2.2.2.1
noncomputable def p5 := eps0.2.2.2.2.2.2.2.2.2.2.2.2.2.2.2.2.2.2.2.2.2.2.1
noncomputable def p6 := eps0.2.2.2.2.2.2.2.2.2.2.2.2.2.2.2.2.2.2.2.2.2.2.2.1
noncomputable def p7 := eps0.2.2.2.2.2.2.2.2.2.2.2.2.2.2.2.2.2.2.2.2.2.2.2.2.1
noncomputable def p8 := eps0.2.2.2.2.2.2.2.2.2.2.2.2.2.2.2.2.2.2.2.2.2.2.2.2.2.1
noncomputable def p9 := eps0.2.2.2.2.2.2.2.2.2.2.2.2.2.2.2.2.2.2.2.2.2.2.2.2.2.2
theorem main0 : Claim0 w A E s ac ad its sz n b env h₀ F σ O ps qs Q p1 p2 p3 p4 p5 p6 p7 p8 p9 := by
 intro G bs fe ok lv X hp h1 h2 hpl hql hna hs1 hs2 hQ
 have hsz := hp.size
 obtain ⟨v1, a1, d1⟩ := lv.rd _ _ h1
 obtain rfl := VD.conE d1
 obtain ⟨v2, a2, d2⟩ := lv.rd _ _ h2
 obtain ⟨bl, m, ws, rfl, nt, eb, sl⟩ := VD.listE d2
 refine wpAny_execs_cons (wpAny_Assign_Subscript (name_of_at fe a2 (name_of_at fe a1 ?_)) hs1)
 refine slice_eval pv_none pv_none pv_none ok (stays_refl _) fun a6 h6 t6 l6 u6 kk6 k6 hsl6 e61 e62 e63 => ?_
 have X6 := X.keep k6
 have bs6 := stays_trans bs k6
 have K6 : (hd.heap_1 w.params).In h6 := fun a o e => bs6 a o (G.k a o e)
 have lv6 := lv.keep k6
 have pl6 := isPart_of l6
 have pu6 := isPart_of u6
 have pk6 := isPart_of kk6
 rw [e61] at pl6
 rw [e62] at pu6
 rw [e63] at pk6
 have hql2 : ws.length = qs.length := by rw [sl.length, List.length_map]
 have nb : ac ≠ bl := fun q => by
  obtain ⟨nn, e⟩ := X.at_
  rw [← q, e] at eb; cases eb
 refine acc_setslice (s := { s with heap := h6, toks := t6 }) K6 X6 (by omega) (by rw [List.size_toArray]; omega) (show h6.IsSliceOf a6 (partValue l6) (partValue u6) (partValue kk6) from hsl6) pl6 pu6 pk6 (k6 _ _ eb) nb fun h7 X7 sb => ?_
 have a17 := (a1.keep k6).sameA X6 sb
 rw [(bounds_all its.size).1, (bounds_all its.size).2] at X7
 have e7 : its.extract 0 (0 : Int).toNat ++ ws.toArray ++ its.extract (max (0 : Int) (its.size : Int)).toNat its.size = ws.toArray := by
  have e8 : (max (0 : Int) (its.size : Int)).toNat = its.size := by omega
  rw [e8]; simp
 rw [e7] at X7
 have bs7 : b.StaysIn h7 := fun c o e => (sb.2 c (fun q => by rw [q, hna] at e; cases e)).trans (bs6 c o e)
 have K7 : (hd.heap_1 w.params).In h7 := fun a o e => bs7 a o (G.k a o e)
 have hq7 : PV2 h7 ws qs := PV2.butA (js := #[]) X6 sb (VDs.keep sl k6)
 refine wpAny_execs_cons (plainObj_wpAny_Assign_Attribute (wpAny_Constant_int (name_of_at (s := { s with heap := h7, toks := t6 + 1 }) fe a17 ?_)) hs2)
 refine acc_set (s := { s with heap := h7, toks := t6 + 1 }) K7 X7 fun h8 t8 X8 sb8 => wpAny_execs_nil ?_
 have hdd : ad ≠ ac := by
  obtain ⟨nn, e⟩ := X.at_
  obtain ⟨o, hs, tk, t, m, e2, d⟩ := X.dc
  intro q
  rw [q, e] at e2; cases e2; cases d
 refine hQ h8 t8 (fun c o nc e => ?_) ?_ ⟨_, X8, ?_⟩
 ·have n1 : c ≠ ac := fun q => nc (q ▸ .head _)
  have n2 : c ≠ ad := fun q => nc (q ▸ .tail _ (.head _))
  exact (sb8.2 c n2).trans ((sb.2 c n1).trans (k6 _ _ e))
 ·have b7 := Big.sb X6 lv6.big sb
  refine b7.but (c := ad) (fun a o ne e => (sb8.2 a ne).trans e) fun o vs e d => ?_
  obtain ⟨o', hs, tk, t, m, e2, d2⟩ := X7.dc
  rw [e] at e2; cases e2; rw [d] at d2; cases d2
 ·refine PV2.frame hq7 fun c hc o e => (sb8.2 c fun q => ?_).trans e
  obtain ⟨i, hi⟩ := List.getElem?_of_mem (refs_mem hc)
  obtain ⟨T', n', t', u', p', e1, e2, e3⟩ := PV2.at hq7 hi
  cases e1
  obtain ⟨o', hs, tk, t, m, e4, d4⟩ := X7.dc
  rw [q, e4] at e3; cases e3; cases d4
end Kresettail
section
variable {w : World} {A : Around} {E : Value → Shared → Prop} {s : Shared} {ac ad : Addr} {its : Array Value} {sz : Int} {n : Nat} {b : Heap}
theorem reset_tail {env : Env} {h₀ : Heap} {F : Addr → Prop} {σ : List (Str × D)} {O : List Str} {ps qs : List Piece} {Q : Flow → Shared → Prop} {p1 p2 p3 p4 p5 p6 p7 p8 p9 : Pos} (G : Gr w b) (bs : b.StaysIn s.heap) (fe : Fe env) (ok : Ok n A) (lv : LV h₀ F env σ O s.heap) (X : Acc s.heap ac ad its sz) (hp : PV2 s.heap its.toList ps)
  (h1 : σ.lookup (Str.ofString "self") = some (.con (.ref ac))) (h2 : σ.lookup (Str.ofString "startval") = some (.list (qs.map PD))) (hpl : ps.length < 900) (hql : qs.length < 900) (hna : b.get? ac = none)
  (hs1 : swapsWith (.Name (Str.ofString "startval") p1) (some (.Subscript (.Name (Str.ofString "self") p2) (.Slice none none none p3) p4)) p5.line env = pure false)
  (hs2 : swapsWith (.Constant (.int 0) 0 p6) (some (.Attribute (.Name (Str.ofString "self") p7) (Str.ofString "_initial_size") p8)) p9.line env = pure false)
  (hQ : ∀ h' tk, KeepX [ac, ad] s.heap h' → Big h' → FA h' ac ad qs 0 → Q .next { s with heap := h', toks := tk }) :
  wpAny (model PW w) A (execs [.Assign [.Subscript (.Name (Str.ofString "self") p2) (.Slice none none none p3) p4] (.Name (Str.ofString "startval") p1) p5, .Assign [.Attribute (.Name (Str.ofString "self") p7) (Str.ofString "_initial_size") p8] (.Constant (.int 0) 0 p6) p9] env) Q E s :=
 by_eps (C := Kresettail.C0) _ Kresettail.main0 (w, A, E, s, ac, ad, its, sz, n, b, env, h₀, F, σ, O, ps, qs, Q, p1, p2, p3, p4, p5, p6, p7, p8, p9) G bs fe ok lv X hp h1 h2 hpl hql hna hs1 hs2 hQ
end
namespace Kaccreset
noncomputable def Claim0 (w : World) (A : Around) (E : Value → Shared → Prop) (s : Shared) (ac : Addr) (ad : Addr) (sz : Int) (b : Heap) (ps : List Piece) (qs : List Piece) (vl : Value) (Q : Value → Shared → Prop) : Prop :=
 ∀ (G : Gr w b) (bs : b.StaysIn s.heap) (hbig : Big s.heap) (ok : Ok 5 A) (X : FA s.heap ac ad ps sz) (hpl : ps.length < 900) (hql : qs.length < 900) (hna : b.get? ac = none) (hvl : VD s.heap vl (.list (qs.map PD))) (hQ : ∀ h' tk, KeepX [ac, ad] s.heap h' → Big h' → FA h' ac ad qs 0 → Q .none { s with heap := h', toks := tk }), wpAny (model PW w) A (call (.ref 160) [.ref ac, vl]) Q E s
noncomputable abbrev Ty0 := (World) × (Around) × (Value → Shared → Prop) × (Shared) × (Addr) × (Addr) × (Int) × (Heap) × (List Piece) × (List Piece) × (Value) × (Value → Shared → Prop)
noncomputable def C0 (p : Ty0) : Prop := Claim0 p.1 p.2.1 p.2.2.1 p.2.2.2.1 p.2.2.2.2.1 p.2.2.2.2.2.1 p.2.2.2.2.2.2.1 p.2.2.2.2.2.2.2.1 p.2.2.2.2.2.2.2.2.1 p.2.2.2.2.2.2.2.2.2.1 p.2.2.2.2.2.2.2.2.2.2.1 p.2.2.2.2.2.2.2.2.2.2.2
noncomputable def eps0 : Ty0 := @Classical.epsilon Ty0 ⟨(aWorld 1, ({} : Around), (fun _ _ => True), ({} : Shared), (default : Addr), (default : Addr), (default : Int), (default : Heap), (default : List Piece), (default : List Piece), (default : Value), (fun _ _ => True))⟩ (fun p => ¬ C0 p)
noncomputable def w := eps0.1
noncomputable def A := eps0.2.1
noncomputable def E := eps0.2.2.1
noncomputable def s := eps0.2.2.2.1
noncomputable def ac := eps0.2.2.2.2.1
noncomputable def ad := eps0.2.2.2.2.2.1
noncomputable def sz := eps0.2.2.2.2.2.2.1
noncomputable def b := eps0.2.2.2.2.2.2.2.1
noncomputable def ps := eps0.2.2.2.2.2.2.2.2.1
noncomputable def qs := eps0.2.2.2.2.2.2.2.2.2.1
noncomputable def vl := eps0.2.2.2.2.2.2.2.2.2.2.1
noncomputable def Q := eps0.2.2.2.2.2.2.2.2.2.2.2
set_option maxHeartbeats 8000000 in
theorem main0 : Claim0 w A E s ac ad sz b ps qs vl Q := by
 intro G bs hbig ok X hpl hql hna hvl hQ
 have hh := Eq.refl (PySem.Challenge.rw_xl0021_01, hd.heap_1)
 revert hh
 k_fill
 intro _
 obtain ⟨its, X, hp⟩ := X
 refine' wpAny_call (enter (n := 4) (names := [Str.ofString "self", Str.ofString "startval"]) (vs := [.ref ac, vl]) (ds := [.con (.ref ac), .list (qs.map PD)]) _ G bs hbig ok ?k1 ?k2 ?k3 rfl (.cons (.con _) (.cons hvl .nil)) (by decide) ?k4 ?k5 ?k6 ?k7 ?k8 ?k9 ?k10 ?k11)
 case k1 => k_is
 case k2 => k_is
 case k3 =>
  obtain ⟨od, eod, nd, dod⟩ : ∃ o, (hd.heap_1 w.params).lookup 153 = some o ∧ ∃ n, o.data = .seq #[.none] n := ⟨_, by k_is, _, rfl⟩
  exact BindsTo.of_defaults (T := 153) (items := #[.none]) rfl (bs _ _ (G.k _ _ eod)) dod rfl rfl
 case k4 => decide
 case k5 => intro d hd; simp at hd; rcases hd with rfl | rfl; exact .inr ⟨_, rfl⟩; exact .inl (.inr ⟨_, rfl, lows_PD _⟩)
 case k6 =>
  intro i j l m hi hj
  have key : ∀ (i : Nat) l, [D.con (.ref ac), D.list (qs.map PD)][i]? = some (.list l) → i = 1 := by
   intro i l hi
   match i with
   | 0 => cases hi
   | 1 => rfl
   | i + 2 => simp at hi
  rw [key i l hi, key j m hj]
 case k7 => decide
 case k9 => rfl
 case k10 => rfl
 case k11 => rfl
 case k8 =>
  intro h₁ tk fe kp lv
  refine PySem.wpAt_of_wpAny ?_
  have bs1 := stays_trans bs kp
  have X1 : Acc h₁ ac ad its sz := X.keep kp
  have hp1 : PV2 h₁ its.toList ps := VDs.keep hp kp
  refine wpAny_execs_cons (wpAny_If (PySem.wpAny_isTrue_Compare1 (name_at (s := { s with heap := h₁, toks := tk }) fe lv rfl fun v av vd => ?_) (by with_unfolding_all rfl)))
  obtain ⟨_, _, _, rfl, nt, e, sl⟩ := VD.listE vd
  refine wpAny_pure (PyProof.Rows.is_ref_none (wpAny_truthy_bool ?_))
  rw [if_neg (by decide)]
  refine wpAny_execs_nil ?_
  refine reset_tail (s := { s with heap := h₁, toks := tk }) G bs1 fe ok.deeper lv X1 hp1 rfl rfl hpl hql hna rfl rfl fun h' tk' kx bg fa => ?_
  exact hQ h' tk' (fun c o nc e => kx c o nc (kp _ _ e)) bg fa
end Kaccreset
section
variable {w : World} {A : Around} {E : Value → Shared → Prop} {s : Shared} {ac ad : Addr} {its : Array Value} {sz : Int} {n : Nat} {b : Heap}
theorem acc_reset {ps qs : List Piece} {vl : Value} {Q : Value → Shared → Prop} (G : Gr w b) (bs : b.StaysIn s.heap) (hbig : Big s.heap) (ok : Ok 5 A) (X : FA s.heap ac ad ps sz) (hpl : ps.length < 900) (hql : qs.length < 900) (hna : b.get? ac = none) (hvl : VD s.heap vl (.list (qs.map PD)))
  (hQ : ∀ h' tk, KeepX [ac, ad] s.heap h' → Big h' → FA h' ac ad qs 0 → Q .none { s with heap := h', toks := tk }) :
  wpAny (model PW w) A (call (.ref 160) [.ref ac, vl]) Q E s :=
 by_eps (C := Kaccreset.C0) _ Kaccreset.main0 (w, A, E, s, ac, ad, sz, b, ps, qs, vl, Q) G bs hbig ok X hpl hql hna hvl hQ
end
namespace Kaccreset0
noncomputable def Claim0 (w : World) (A : Around) (E : Value → Shared → Prop) (s : Shared) (ac : Addr) (ad : Addr) (sz : Int) (b : Heap) (ps : List Piece) (Q : Value → Shared → Prop) : Prop :=
 ∀ (G : Gr w b) (bs : b.StaysIn s.heap) (hbig : Big s.heap) (ok : Ok 5 A) (X : FA s.heap ac ad ps sz) (hpl : ps.length < 900) (hna : b.get? ac = none) (hQ : ∀ h' tk, KeepX [ac, ad] s.heap h' → Big h' → FA h' ac ad [] 0 → Q .none { s with heap := h', toks := tk }), wpAny (model PW w) A (call (.ref 160) [.ref ac]) Q E s
noncomputable abbrev Ty0 := (World) × (Around) × (Value → Shared → Prop) × (Shared) × (Addr) × (Addr) × (Int) × (Heap) × (List Piece) × (Value → Shared → Prop)
noncomputable def C0 (p : Ty0) : Prop := Claim0 p.1 p.2.1 p.2.2.1 p.2.2.2.1 p.2.2.2.2.1 p.2.2.2.2.2.1 p.2.2.2.2.2.2.1 p.2.2.2.2.2.2.2.1 p.2.2.2.2.2.2.2.2.1 p.2.2.2.2.2.2.2.2.2
noncomputable def eps0 : Ty0 := @Classical.epsilon Ty0 ⟨(aWorld 1, ({} : Around), (fun _ _ => True), ({} : Shared), (default : Addr), (default : Addr), (default : Int), (default : Heap), (default : List Piece), (fun _ _ => True))⟩ (fun p => ¬ C0 p)
noncomputable def w := eps0.1
noncomputable def A := eps0.2.1
noncomputable def E := eps0.2.2.1
noncomputable def s := eps0.2.2.2.1
noncomputable def ac := eps0.2.2.2.2.1
noncomputable def ad := eps0.2.2.2.2.2.1
noncomputable def sz := eps0.2.2.2.2.2.2.1
noncomputable def b := eps0.2.2.2.2.2.2.2.1
noncomputable def ps := eps0.2.2.2.2.2.2.2.2.1
noncomputable def Q := eps0.2.2.2.2.2.2.2.2.2
set_option maxHeartbeats 8000000 in
theorem main0 : Claim0 w A E s ac ad sz b ps Q := by
 intro G bs hbig ok X hpl hna hQ
 have hh := Eq.refl (PySem.Challenge.rw_xl0021_01, hd.heap_1)
 revert hh
 k_fill
 intro _
 obtain ⟨its, X, hp⟩ := X
 refine' wpAny_call (enter (n := 4) (names := [Str.ofString "self", Str.ofString "startval"]) (vs := [.ref ac, .none]) (ds := [.con (.ref ac), .none]) _ G bs hbig ok ?k1 ?k2 ?k3 rfl (.cons (.con _) (.cons .none .nil)) (by decide) ?k4 ?k5 ?k6 ?k7 ?k8 ?k9 ?k10 ?k11)
 case k1 => k_is
 case k2 => k_is
 case k3 =>
  obtain ⟨od, eod, nd, dod⟩ : ∃ o, (hd.heap_1 w.params).lookup 153 = some o ∧ ∃ n, o.data = .seq #[.none] n := ⟨_, by k_is, _, rfl⟩
  exact BindsTo.of_defaults (T := 153) (items := #[.none]) rfl (bs _ _ (G.k _ _ eod)) dod rfl rfl
 case k4 => decide
 case k5 => intro d hd; simp at hd; rcases hd with rfl | rfl; exact .inr ⟨_, rfl⟩; exact .inl (.inl .none)
 case k6 => exact one_none (by intro d hd l q; subst q; simp at hd)
 case k7 => decide
 case k9 => rfl
 case k10 => rfl
 case k11 => rfl
 case k8 =>
  intro h₁ tk fe kp lv
  refine PySem.wpAt_of_wpAny ?_
  have bs1 := stays_trans bs kp
  have X1 : Acc h₁ ac ad its sz := X.keep kp
  have hp1 : PV2 h₁ its.toList ps := VDs.keep hp kp
  refine wpAny_execs_cons (wpAny_If (PySem.wpAny_isTrue_Compare1 (name_at (s := { s with heap := h₁, toks := tk }) fe lv rfl fun v av vd => ?_) (by with_unfolding_all rfl)))
  obtain rfl := VD.noneE vd
  refine wpAny_pure (PySem.wpAny_is_self rfl (wpAny_truthy_bool ?_))
  rw [if_pos rfl]
  refine (sx_one (X := XF) (w := w) (n := 4) (sx_assignF (l := []) fe (.inl rfl) (fun h lv => evf_list lv.big av_nil (Nat.zero_le _)) .nil)) _ _ { s with heap := h₁, toks := tk } _ ⟨ok.deeper, trivial⟩ lv fun s2 x2 lv2 => ?_
  have x2' : s2 = { s with heap := s2.heap, toks := s2.toks } := x2
  have st2 : s.heap.StaysIn s2.heap := fun c o e => lv2.st c o ⟨_, e⟩ e
  have X2 : Acc s2.heap ac ad its sz := X.keep st2
  have hp2 : PV2 s2.heap its.toList ps := VDs.keep hp st2
  refine reset_tail (qs := []) G (stays_trans bs st2) fe ok.deeper lv2 X2 hp2 rfl rfl hpl (by decide) hna rfl rfl fun h' tk' kx bg fa => ?_
  rw [x2']
  exact hQ h' tk' (fun c o nc e => kx c o nc (st2 _ _ e)) bg fa
end Kaccreset0
section
variable {w : World} {A : Around} {E : Value → Shared → Prop} {s : Shared} {ac ad : Addr} {its : Array Value} {sz : Int} {n : Nat} {b : Heap}
theorem acc_reset0 {ps : List Piece} {Q : Value → Shared → Prop} (G : Gr w b) (bs : b.StaysIn s.heap) (hbig : Big s.heap) (ok : Ok 5 A) (X : FA s.heap ac ad ps sz) (hpl : ps.length < 900) (hna : b.get? ac = none)
  (hQ : ∀ h' tk, KeepX [ac, ad] s.heap h' → Big h' → FA h' ac ad [] 0 → Q .none { s with heap := h', toks := tk }) :
  wpAny (model PW w) A (call (.ref 160) [.ref ac]) Q E s :=
 by_eps (C := Kaccreset0.C0) _ Kaccreset0.main0 (w, A, E, s, ac, ad, sz, b, ps, Q) G bs hbig ok X hpl hna hQ
end
end Mine
-- MF17
namespace Mine
theorem accN {w : World} : isFn (hd.heap_1 w.params) (.ref 145) = true ∧ isFn (hd.heap_1 w.params) (.ref 152) = true := by
 have hh := Eq.refl (PySem.Challenge.rw_xl0021_01, hd.heap_1)
 revert hh
 k_fill
 intro _
 have e1 : isFn (hd.heap_1 w.params) (.ref 145) = true := by k_is
 have e2 : isFn (hd.heap_1 w.params) (.ref 152) = true := by k_is
 exact ⟨e1, e2⟩
section
variable {w : World} {A : Around} {E : Value → Shared → Prop} {s : Shared} {ac ad : Addr} {its : Array Value} {sz : Int} {n : Nat} {b : Heap}
noncomputable def lenP (ps : List Piece) : Nat := (ps.map fun p => p.1.length + p.2.length).sum
theorem lenP_lt {ps : List Piece} (hpl : ps.length < 1000) (hpb : ∀ p ∈ ps, p.1.length + p.2.length < 1000) : lenP ps < 1000000 := by
 have := nsum_bound (ps.map fun p => p.1.length + p.2.length) fun x hx => by
  obtain ⟨p, hp, rfl⟩ := List.mem_map.mp hx
  exact hpb p hp
 rw [List.length_map] at this
 unfold lenP
 omega
theorem acc_len_body {ps : List Piece} {Q : Value → Shared → Prop} (G : Gr w b) (bs : b.StaysIn s.heap) (hb0 : b.get? 140 = none) (hbig : Big s.heap) (ok : Ok 4 A) (X : FA s.heap ac ad ps sz) (hsz : 0 ≤ sz) (hsz' : sz < 100000) (hpl : ps.length < 900) (hpb : ∀ p ∈ ps, p.1.length + p.2.length < 1000)
  (hQ : ∀ t s', (XL fun _ => True).r s s' → KeepT s.heap s'.heap → Big s'.heap → Q (.int (sz + lenP ps) t) s') : wpAny (model PW w) A (Builtin.«len» ⟨[.ref ac], []⟩) (fun fin s' => ∃ v, fin = .done (.ret v) ∧ Q v s') E s := by
 obtain ⟨its, X, hp⟩ := X
 have K : (hd.heap_1 w.params).In s.heap := fun a o e => bs a o (G.k a o e)
 obtain ⟨ox, od, I, _⟩ := acc_inst X
 have hb := lenP_lt (ps := ps) (by omega) hpb
 unfold Builtin.«len»
 refine wpAny_bind (m := oneArg "len" _) (wpAny_pure ?_)
 refine wpAny_bind (m := callSpecial? (.ref ac) (Str.ofString "__len__")) (special_fn K I accK.2.2.2.2.2.2.1 (beq_iff_eq.mp accN.1) ?_)
 refine acc_len G bs hb0 hbig ok X hp hsz hsz' (by omega) hpb fun t s' x kt bg => ?_
 refine wpAny_bind (wpAny_holding (wpAny_pure ?_))
 refine wpAny_bind (wpAny_letGo ?_)
 show wpAny _ _ (if (_ : Int) < 0 then _ else _) _ _ _
 rw [if_neg (by omega)]
 show wpAny _ _ (if (_ : Int) ≥ 2 ^ 63 then _ else _) _ _ _
 rw [if_neg (by unfold lenP at hb; omega)]
 refine wpAny_bind (wpAny_mkInt (wpAny_pure ⟨_, rfl, ?_⟩))
 exact hQ _ _ ((XL fun _ => True).tr x ((XL fun _ => True).st _ _ _)) kt bg
theorem acc_truthy {ps : List Piece} {Q : Bool → Shared → Prop} (G : Gr w b) (bs : b.StaysIn s.heap) (hb0 : b.get? 140 = none) (hbig : Big s.heap) (ok : Ok 5 A) (X : FA s.heap ac ad ps sz) (hsz : 0 ≤ sz) (hsz' : sz < 100000) (hpl : ps.length < 900) (hpb : ∀ p ∈ ps, p.1.length + p.2.length < 1000)
  (hQ : ∀ s', (XL fun _ => True).r s s' → KeepT s.heap s'.heap → Big s'.heap → Q (sz + lenP ps != 0) s') : wpAny (model PW w) A (truthy (.ref ac)) Q E s := by
 have X' := X
 obtain ⟨its, X0, hp⟩ := X'
 have K : (hd.heap_1 w.params).In s.heap := fun a o e => bs a o (G.k a o e)
 have key : wpAny (model PW w) A (runValue (.builtin "len" ⟨[.ref ac], []⟩)) (fun r s' => ∃ t, r = .int (sz + lenP ps) t ∧ Q (sz + lenP ps != 0) s') E s := by
  refine wpAny_runValue (codeAny_builtin entry_len ?_)
  rw [Around.under_plainId plain_len _]
  refine wpAny_mono (acc_len_body (Q := fun r s' => ∃ t, r = .int (sz + lenP ps) t ∧ Q (sz + lenP ps != 0) s') G bs hb0 hbig ok.in1 X hsz hsz' hpl hpb fun t s' x kt bg => ⟨t, rfl, hQ s' x kt bg⟩) (fun fin s' z => ?_) fun _ _ z => z
  obtain ⟨v, rfl, z⟩ := z
  exact z
 unfold truthy
 refine wpAny_bind (m := callSpecial? (.ref ac) (Str.ofString "__bool__")) (wpAny_bind (wpAny_bind ((acc_type X0).here ((looks_findIn K accK.2.2.2.2.2.2.2.1).here (wpAny_pure ?_)))))
 refine wpAny_bind (m := specialOf (.ref ac) (Str.ofString "__len__")) (wpAny_bind ((acc_type X0).here ((looks_findIn K accK.2.2.2.2.2.2.1).here ?_)))
 rw [if_neg (by decide)]
 refine wpAny_bind (wpAny_mono key (fun r s' z => ?_) fun _ _ z => z)
 obtain ⟨t, rfl, z⟩ := z
 exact wpAny_pure z
theorem acc_lenB {ps : List Piece} {Q : Value → Shared → Prop} (G : Gr w b) (bs : b.StaysIn s.heap) (hb0 : b.get? 140 = none) (hbig : Big s.heap) (ok : Ok 5 A) (X : FA s.heap ac ad ps sz) (hsz : 0 ≤ sz) (hsz' : sz < 100000) (hpl : ps.length < 900) (hpb : ∀ p ∈ ps, p.1.length + p.2.length < 1000)
  (hQ : ∀ t s', (XL fun _ => True).r s s' → KeepT s.heap s'.heap → Big s'.heap → Q (.int (sz + lenP ps) t) s') : wpAny (model PW w) A (call (.builtin "len") [.ref ac]) Q E s := by
 obtain ⟨its, X, hp⟩ := X
 have K : (hd.heap_1 w.params).In s.heap := fun a o e => bs a o (G.k a o e)
 obtain ⟨ox, od, I, _⟩ := acc_inst X
 have hb := lenP_lt (ps := ps) (by omega) hpb
 refine Calls.call_function_entry kind_len plain_len entry_len (args_len1 _) ?_
 unfold Builtin.«len»
 refine wpAny_bind (m := oneArg "len" _) (wpAny_pure ?_)
 refine wpAny_bind (m := callSpecial? (.ref ac) (Str.ofString "__len__")) (special_fn K I accK.2.2.2.2.2.2.1 (beq_iff_eq.mp accN.1) ?_)
 refine acc_len G bs hb0 hbig ok.in1 X hp hsz hsz' (by omega) hpb fun t s' x kt bg => ?_
 refine wpAny_bind (wpAny_holding (wpAny_pure ?_))
 refine wpAny_bind (wpAny_letGo ?_)
 show wpAny _ _ (if (_ : Int) < 0 then _ else _) _ _ _
 rw [if_neg (by omega)]
 show wpAny _ _ (if (_ : Int) ≥ 2 ^ 63 then _ else _) _ _ _
 rw [if_neg (by unfold lenP at hb; omega)]
 refine wpAny_bind (wpAny_mkInt (wpAny_pure ⟨_, rfl, ?_⟩))
 exact hQ _ _ ((XL fun _ => True).tr x ((XL fun _ => True).st _ _ _)) kt bg
end
end Mine
-- MF18
namespace Mine
section
variable {w : World} {A : Around} {E : Value → Shared → Prop} {s : Shared} {ac ad : Addr} {its : Array Value} {sz : Int} {n : Nat} {b : Heap}
noncomputable def textP (ps : List Piece) : List Nat := (ps.map fun p => p.1 ++ p.2).flatten
theorem acc_strB {ps : List Piece} {Q : Value → Shared → Prop} (G : Gr w b) (bs : b.StaysIn s.heap) (hb0 : b.get? 147 = none) (hbig : Big s.heap) (ok : Ok 6 A) (X : FA s.heap ac ad ps sz) (hpl : ps.length < 900) (hpb : ∀ p ∈ ps, p.1.length + p.2.length < 1000)
  (hQ : ∀ t s', (XL fun _ => True).r s s' → KeepT s.heap s'.heap → Big s'.heap → Q (.str (S (textP ps)) t) s') : wpAny (model PW w) A (call (.type "str") [.ref ac]) Q E s := by
 obtain ⟨its, X, hp⟩ := X
 have K : (hd.heap_1 w.params).In s.heap := fun a o e => bs a o (G.k a o e)
 obtain ⟨ox, od, I, _⟩ := acc_inst X
 refine kso_call ?_ K I accK.2.2.2.2.2.2.2.2.1 accN.2 ?_
 ·have := ok.in1.in1.un
  show A.in1.in1.units < 9900
  omega
 ·exact acc_str G bs hb0 hbig ok.in1.in1 X hp (by omega) hpb fun t s' x kt bg => hQ t s' x kt bg
end
end Mine
-- MF19
namespace Mine
theorem UnaryNot {M : Model} {A : Around} {E : Value → Shared → Prop} {s : Shared} {env : Env} {x : Expr} {pos : Pos} {Q : Value → Shared → Prop} (h : wpAny M A (eval x env) (fun v s₁ => wpAny M A (truthy v) (fun b s₂ => Q (.bool (!b)) s₂) E s₁) E s) : wpAny M A (eval (.UnaryOp .Not x pos) env) Q E s := by
 rw [arm_eval_UnaryOp]
 refine wpAny_bind (wpAny_mono h (fun v s₁ h₁ => wpAny_bind (wpAny_standAt (wpAny_holding ?_))) fun _ _ z => z)
 exact PyProof.Rows.not_of h₁
section
variable {w : World} {A : Around} {E : Value → Shared → Prop} {s : Shared} {ac ad : Addr} {its : Array Value} {sz : Int} {n : Nat} {b : Heap}
theorem FA.keepT {h h' : Heap} {ps : List Piece} (X : FA h ac ad ps sz) (hb : Big h) (k : KeepT h h') : FA h' ac ad ps sz := by
 obtain ⟨its, ⟨⟨n, e⟩, o, hs, tk, t, m, e2, d⟩, hp⟩ := X
 have nt : ∀ {c o}, h.get? c = some o → (∀ vs, o.data ≠ .fields vs) → NT c := fun {c o} e q => by
  obtain ⟨⟨o1, v1, a1, d1⟩, ⟨o2, v2, a2, d2⟩⟩ := hb.tabs
  exact ⟨fun z => (by rw [z, a1] at e; cases e; exact q _ d1), fun z => (by rw [z, a2] at e; cases e; exact q _ d2)⟩
 refine ⟨its, ⟨⟨n, k _ _ (nt e fun vs q => nomatch q) e⟩, o, hs, tk, t, m, k _ _ (nt e2 fun vs q => by rw [d] at q; cases q) e2, d⟩, hp.frame fun c hc o e => ?_⟩
 obtain ⟨i, hi⟩ := List.getElem?_of_mem (refs_mem hc)
 obtain ⟨T', n', t', u', p', e1, e2, e3⟩ := PV2.at hp hi
 cases e1
 exact k _ _ (nt e3 fun vs q => nomatch q) (by rw [e3] at e ⊢; exact e)
theorem At.keepT {h h' : Heap} {env : Env} {x : Str} {v : Value} (hb : Big h) (k : KeepT h h') (a : At h env x v) : At h' env x v := by
 obtain ⟨⟨o1, v1, a1, d1⟩, ⟨o2, v2, a2, d2⟩⟩ := hb.tabs
 rcases a with ⟨q, m, ⟨o, es, ep, e, d, r⟩, em⟩ | ⟨q, c, l, o, g, d⟩
 ·refine .inl ⟨q, m, ⟨o, es, ep, k _ _ ⟨fun z => ?_, fun z => ?_⟩ e, d, r⟩, em⟩
  ·rw [z, a1] at e; cases e; rw [d1] at d; cases d
  ·rw [z, a2] at e; cases e; rw [d2] at d; cases d
 ·refine .inr ⟨q, c, l, o, k _ _ ⟨fun z => ?_, fun z => ?_⟩ g, d⟩
  ·rw [z, a1] at g; cases g; rw [d1] at d; cases d
  ·rw [z, a2] at g; cases g; rw [d2] at d; cases d
end
end Mine
-- MF20
namespace Mine
section
variable {w : World} {A : Around} {E : Value → Shared → Prop} {s : Shared} {ac ad : Addr} {its : Array Value} {sz : Int} {n : Nat} {b : Heap}
theorem FA.keep {h h' : Heap} {ps : List Piece} (X : FA h ac ad ps sz) (k : h.StaysIn h') : FA h' ac ad ps sz := let ⟨its, x, hp⟩ := X; ⟨its, x.keep k, VDs.keep hp k⟩
noncomputable def onlyws (ps : List Piece) (sz : Int) : Bool := sz == 0 && (lenP ps == 0 || Txt.isspace (S (textP ps)))
theorem base_keepT {h h' : Heap} (hb0 : b.get? 140 = none ∧ b.get? 147 = none) (bs : b.StaysIn h) (k : KeepT h h') : b.StaysIn h' := fun a o e =>
 k a o ⟨fun q => (by rw [q, hb0.1] at e; cases e), fun q => (by rw [q, hb0.2] at e; cases e)⟩ (bs a o e)
theorem call_type {env : Env} {x : Str} {T : String} {e : Expr} {p pos : Pos} {s : Shared} {Q : Value → Shared → Prop} (fe : Fe env) (G : Gr w b) (bs : b.StaysIn s.heap) (g : nsIn (hd.heap_1 w.params) mainGlobals x = some none) (hv : bootBuiltins x = some (.type T)) (hn : x ≠ "__name__")
  (hx : env.kindOf x = some .globalImplicit) (hd' : (x == ("__debug__" : Str)) = false) (hs : starEach [e] env = (false, eval e env) :: starEach [] env)
  (h : ∀ h' tk, s.heap.StaysIn h' → wpAny (model PW w) A (eval e env) (fun v s₁ => wpAny (model PW w) A (call (.type T) [v]) Q E s₁) E { s with heap := h', toks := tk }) : wpAny (model PW w) A (eval (.Call (.Name x p) [e] [] pos) env) Q E s := by
 refine wpAny_Call_Name_kw ?_
 obtain ⟨mean, mg, mb, T'⟩ := G.t
 refine Name_function_global fe.kind hx (loadGlobal_builtin (fe.gl ▸ T'.g.keeps bs) (mg_none_of G.k T'.g g) (fe.bi ▸ T'.b.keeps bs) ((T'.builtins x hn).trans hv) ?_) hd'
 have := h s.heap s.toks (stays_refl _)
 refine PySem.callWith_type (by rw [hs]; rfl) ?_
 rw [hs]
 refine evalArgs_plain (spliced_cons (wpAny_mono this (fun v s₁ z => ?_) fun _ _ z => z))
 exact spliced_nil z
end
namespace Kacconlyws
noncomputable def Claim0 (w : World) (A : Around) (E : Value → Shared → Prop) (s : Shared) (ac : Addr) (ad : Addr) (b : Heap) (ps : List Piece) (Q : Value → Shared → Prop) : Prop :=
 ∀ (sz : Int) (G : Gr w b) (bs : b.StaysIn s.heap) (hb0 : b.get? 140 = none ∧ b.get? 147 = none) (hbig : Big s.heap) (ok : Ok 8 A) (X : FA s.heap ac ad ps sz) (hsz : 0 ≤ sz) (hsz' : sz < 100000) (hpl : ps.length < 900) (hpb : ∀ p ∈ ps, p.1.length + p.2.length < 1000) (hQ : ∀ s', (XL fun _ => True).r s s' → KeepT s.heap s'.heap → Big s'.heap → Q (.bool (onlyws ps sz)) s'), wpAny (model PW w) A (call (.ref 167) [.ref ac]) Q E s
noncomputable abbrev Ty0 := (World) × (Around) × (Value → Shared → Prop) × (Shared) × (Addr) × (Addr) × (Heap) × (List Piece) × (Value → Shared → Prop)
noncomputable def C0 (p : Ty0) : Prop := Claim0 p.1 p.2.1 p.2.2.1 p.2.2.2.1 p.2.2.2.2.1 p.2.2.2.2.2.1 p.2.2.2.2.2.2.1 p.2.2.2.2.2.2.2.1 p.2.2.2.2.2.2.2.2
noncomputable def eps0 : Ty0 := @Classical.epsilon Ty0 ⟨(aWorld 1, ({} : Around), (fun _ _ => True), ({} : Shared), (default : Addr), (default : Addr), (default : Heap), (default : List Piece), (fun _ _ => True))⟩ (fun p => ¬ C0 p)
noncomputable def w := eps0.1
noncomputable def A := eps0.2.1
noncomputable def E := eps0.2.2.1
noncomputable def s := eps0.2.2.2.1
noncomputable def ac := eps0.2.2.2.2.1
noncomputable def ad := eps0.2.2.2.2.2.1
noncomputable def b := eps0.2.2.2.2.2.2.1
noncomputable def ps := eps0.2.2.2.2.2.2.2.1
noncomputable def Q := eps0.2.2.2.2.2.2.2.2
set_option maxHeartbeats 8000000 in
theorem main0 : Claim0 w A E s ac ad b ps Q := by
 intro sz G bs hb0 hbig ok X hsz hsz' hpl hpb hQ
 have hh := Eq.refl (PySem.Challenge.rw_xl0021_01, hd.heap_1)
 revert hh
 k_fill
 intro _
 have X0 := X
 obtain ⟨its, X, hp⟩ := X
 refine' wpAny_call (enter (n := 7) (names := [Str.ofString "self"]) (vs := [.ref ac]) (ds := [.con (.ref ac)]) _ G bs hbig ok ?k1 ?k2 ?k3 rfl (.cons (.con _) .nil) (by decide) ?k4 ?k5 ?k6 ?k7 ?k8 ?k9 ?k10 ?k11)
 case k1 => k_is
 case k2 => k_is
 case k3 => exact BindsTo.of_eq rfl
 case k4 => decide
 case k5 => intro d hd; simp at hd; subst hd; exact .inr ⟨_, rfl⟩
 case k6 => exact one_none (by intro d hd l q; subst q; simp at hd)
 case k7 => decide
 case k9 => rfl
 case k10 => rfl
 case k11 => rfl
 case k8 =>
  intro h₁ tk fe kp lv
  refine PySem.wpAt_of_wpAny ?_
  have bs1 := stays_trans bs kp
  have K1 : (hd.heap_1 w.params).In h₁ := fun a o e => bs1 a o (G.k a o e)
  have X1 : Acc h₁ ac ad its sz := X.keep kp
  have FA1 : FA h₁ ac ad ps sz := ⟨its, X1, VDs.keep hp kp⟩
  refine wpAny_execs_cons (wpAny_Return_some (BoolOp_and ?_))
  refine PySem.wpAny_Compare1 (Attribute_name (name_at (s := { s with heap := h₁, toks := tk }) fe lv rfl fun v av vd => ?_)) (by with_unfolding_all rfl)
  obtain rfl := VD.conE vd
  refine acc_get (s := { s with heap := h₁, toks := tk }) K1 X1 fun t6 tk6 htk => wpAny_Constant_int (eq_int (wpAny_truthy_bool ?_))
  by_cases q : sz = 0
  ·subst q
   rw [if_pos (by decide)]
   obtain ⟨v1, a1, d1⟩ := lv.rd (Str.ofString "self") _ rfl
   obtain rfl := VD.conE d1
   refine BoolOp_one (BoolOp_or (UnaryNot (name_of_at (s := { s with heap := h₁, toks := _ }) fe a1 ?_)))
   refine acc_truthy (s := { s with heap := h₁, toks := _ }) G bs1 hb0.1 lv.big (ok.deeper.le (by omega)) FA1 (by omega) (by omega) hpl hpb fun s2 x2 kt2 bg2 => wpAny_truthy_bool ?_
   have rel : ∀ {s3 : Shared}, (XL fun _ => True).r s2 s3 → (XL fun _ => True).r s s3 := fun x => (XL fun _ => True).tr ((XL fun _ => True).st s h₁ _) ((XL fun _ => True).tr x2 x)
   by_cases q2 : lenP ps = 0
   ·rw [q2]
    rw [if_pos (by decide)]
    have := hQ s2 (rel ((XL fun _ => True).st s2 s2.heap s2.toks)) (fun a o nt e => kt2 a o nt (kp _ _ e)) bg2
    rw [show onlyws ps 0 = true from by unfold onlyws; rw [q2]; rfl] at this
    exact this
   ·rw [show (0 + (lenP ps : Int) != 0) = true from by simp; omega, if_neg (by decide)]
    have bs2 := base_keepT hb0 bs1 kt2
    refine BoolOp_one (PySem.wpAny_Call_method (by rfl) (by rfl) (by rfl) PySem.F.plainAttrs_str PySem.F.slot_str_isspace PySem.F.type_str_isspace ?_)
    refine call_type fe G bs2 g_str b_str (by decide) rfl rfl rfl fun h3 t3 k3 => ?_
    refine name_of_at (s := { s2 with heap := h3, toks := t3 }) fe ((a1.keepT lv.big kt2).keep k3) ?_
    refine acc_strB (s := { s2 with heap := h3, toks := t3 }) G (stays_trans bs2 k3) hb0.2 (bg2.up k3) (ok.deeper.le (by omega)) ((FA1.keepT lv.big kt2).keep k3) hpl hpb fun t4 s4 x4 kt4 bg4 => ?_
    refine ⟨typeIs_str _ _ _, (fun _ e => nomatch e), callWith_builtin rfl (PySem.evalArgs_none ?_)⟩
    refine SC.isspace ?_
    have := hQ s4 (rel ((XL fun _ => True).tr ((XL fun _ => True).st s2 h3 t3) x4)) (fun a o nt e => kt4 a o nt (k3 _ _ (kt2 a o nt (kp _ _ e)))) bg4
    rw [show onlyws ps 0 = Txt.isspace (S (textP ps)) from by unfold onlyws; simp [q2]] at this
    exact this
  ·rw [if_neg (by simpa using q)]
   have e : onlyws ps sz = (sz == 0) := by unfold onlyws; simp [q]
   have := hQ { s with heap := h₁, toks := tk6 + 1 } ⟨s.gens, rfl, fun z => z⟩ (fun a o _ e => kp _ _ e) lv.big
   rw [e] at this
   exact this
end Kacconlyws
section
variable {w : World} {A : Around} {E : Value → Shared → Prop} {s : Shared} {ac ad : Addr} {its : Array Value} {sz : Int} {n : Nat} {b : Heap}
theorem acc_onlyws {ps : List Piece} {Q : Value → Shared → Prop} (G : Gr w b) (bs : b.StaysIn s.heap) (hb0 : b.get? 140 = none ∧ b.get? 147 = none) (hbig : Big s.heap) (ok : Ok 8 A) (X : FA s.heap ac ad ps sz) (hsz : 0 ≤ sz) (hsz' : sz < 100000) (hpl : ps.length < 900) (hpb : ∀ p ∈ ps, p.1.length + p.2.length < 1000)
  (hQ : ∀ s', (XL fun _ => True).r s s' → KeepT s.heap s'.heap → Big s'.heap → Q (.bool (onlyws ps sz)) s') :
  wpAny (model PW w) A (call (.ref 167) [.ref ac]) Q E s :=
 by_eps (C := Kacconlyws.C0) _ Kacconlyws.main0 (w, A, E, s, ac, ad, b, ps, Q) sz G bs hb0 hbig ok X hsz hsz' hpl hpb hQ
end
end Mine
-- MF21
namespace Mine
theorem accMk {w : World} : ∃ oc od cd sl, (hd.heap_1 w.params).lookup 178 = some ⟨oc, od, .cls cd, sl⟩ ∧ cd.abstract = false ∧ cd.hasDel = false ∧ cd.mro = [.ref 178, .type "list", .type "object"] ∧ cd.hasDict = true ∧ sl[4]? = some (some (.builtin "list.__new__")) := by
 have hh := Eq.refl (PySem.Challenge.rw_xl0021_01, hd.heap_1)
 revert hh
 k_fill
 intro _
 exact ⟨_, _, _, _, by k_is, rfl, rfl, rfl, rfl, rfl⟩
theorem accMk2 {w : World} : specialIn (hd.heap_1 w.params) (.ref 178) "__call__" = some (some (.builtin "type.__call__")) ∧ instIn (hd.heap_1 w.params) (.ref 178) (.type "type") = some true ∧ findIn (hd.heap_1 w.params) (.ref 178) "__init__" = some (some (.ref 115)) ∧ typeIn (hd.heap_1 w.params) (.ref 115) = some (.type "function") := by
 have hh := Eq.refl (PySem.Challenge.rw_xl0021_01, hd.heap_1)
 revert hh
 k_fill
 intro _
 have e1 : specialIn (hd.heap_1 w.params) (.ref 178) "__call__" = some (some (.builtin "type.__call__")) := by k_is
 have e2 : instIn (hd.heap_1 w.params) (.ref 178) (.type "type") = some true := by k_is
 have e3 : findIn (hd.heap_1 w.params) (.ref 178) "__init__" = some (some (.ref 115)) := by k_is
 have e4 : typeIn (hd.heap_1 w.params) (.ref 115) = some (.type "function") := by k_is
 exact ⟨e1, e2, e3, e4⟩
noncomputable abbrev acc0 (dx : Addr) : Obj := { cls := .ref 178, dict := some dx, data := .seq #[] }
theorem kind_list_new : builtinKind "list.__new__" = some .builtinFn := by decide +kernel
theorem split_list_new : splitId "list.__new__" = some ("list", "__new__") := by decide +kernel
theorem args_list_new (a b : Value) : argsOk "list.__new__" ⟨[a, b], []⟩ := by unfold argsOk; kernel_rfl
section
variable {w : World} {A : Around} {R : Result → Shared → Prop} {h : Heap} {g : Array GenState} {d : Drawn} {t : Nat} {os : OsState}
structure MkA (M : Model) (h : Heap) : Prop where
 made : Looks M h (Bind.madeBy (.ref 178)) (some "list.__new__")
 base : Looks M h (Bind.staticBase (.ref 178)) (.ref 178)
 self : Looks M h (isSubtype (.ref 178) (.ref 178)) true
 top : Looks M h (isSubtype (.ref 178) (.type "list")) true
 call : Looks M h (specialOf (.ref 178) "__call__") (some (.builtin "type.__call__"))
 typ : Looks M h (isInstance (.ref 178) (.type "type")) true
 mro : Looks M h (mroOf (.ref 178)) [.ref 178, .type "list", .type "object"]
theorem mkA_of {M : Model} (X : (hd.heap_1 w.params).In h) : MkA M h := by
 obtain ⟨oc, od, cd, sl, ho, e1, e2, e3, e4, e5⟩ := accMk (w := w)
 have hc : clsIn (hd.heap_1 w.params) 178 = some cd := by unfold clsIn; rw [ho]
 have hm : Looks M h (mroOf (.ref 178)) [.ref 178, .type "list", .type "object"] := by
  have : Looks M h (mroOf (.ref 178)) cd.mro := (looks_clsIn X hc).andThen .now
  rwa [e3] at this
 have made : Looks M h (Bind.madeBy (.ref 178)) (some "list.__new__") := by
  intro A Q E s k q
  unfold Bind.madeBy
  refine wpAny_bind (hm A _ E s k ?_)
  rw [List.forIn_cons]
  refine wpAny_bind (wpAny_bind (wpAny_bind (wpAny_bind (wpAny_loadPart (k _ _ (X _ _ ho)) (wpAny_pure ?_)))))
  dsimp only
  rw [e5]
  exact wpAny_pure (wpAny_pure (wpAny_pure q))
 refine ⟨made, ?_, looks_mroIn X ?_, looks_mroIn X ?_, looks_specialIn X accMk2.1, looks_instIn X accMk2.2.1, hm⟩
 ·intro A Q E s k q
  unfold Bind.staticBase
  refine wpAny_bind (hm A _ E s k ?_)
  rw [List.forIn_cons]
  exact wpAny_bind (wpAny_bind (wpAny_bind (made A _ E s k (wpAny_pure (wpAny_pure (wpAny_pure q))))))
 ·unfold mroIn; rw [hc, Option.bind_some, e3]; rfl
 ·unfold mroIn; rw [hc, Option.bind_some, e3]; rfl
noncomputable abbrev noDict : Obj := { cls := .type "dict", data := .dict #[] }
end
namespace Kaccnew
noncomputable def Claim0 (w : World) (A : Around) (R : Result → Shared → Prop) (g : Array GenState) (d : Drawn) (t : Nat) (os : OsState) (v : Value) : Prop :=
 ∀ (h : Heap) (X : (hd.heap_1 w.params).In h) (hq : R (.ok (.ret (.ref (h.objs.size + 1)))) ⟨(h.push noDict).push (acc0 h.objs.size), g, d, t, os⟩), codeAny (model PW w) A (.call (.builtin "list.__new__") ⟨[.ref 178, v], []⟩) R ⟨h, g, d, t, os⟩
noncomputable abbrev Ty0 := (World) × (Around) × (Result → Shared → Prop) × (Array GenState) × (Drawn) × (Nat) × (OsState) × (Value)
noncomputable def C0 (p : Ty0) : Prop := Claim0 p.1 p.2.1 p.2.2.1 p.2.2.2.1 p.2.2.2.2.1 p.2.2.2.2.2.1 p.2.2.2.2.2.2.1 p.2.2.2.2.2.2.2
noncomputable def eps0 : Ty0 := @Classical.epsilon Ty0 ⟨(aWorld 1, ({} : Around), (fun _ _ => True), (default : Array GenState), ({} : Drawn), (default : Nat), (default : OsState), (default : Value))⟩ (fun p => ¬ C0 p)
noncomputable def w := eps0.1
noncomputable def A := eps0.2.1
noncomputable def R := eps0.2.2.1
noncomputable def g := eps0.2.2.2.1
noncomputable def d := eps0.2.2.2.2.1
noncomputable def t := eps0.2.2.2.2.2.1
noncomputable def os := eps0.2.2.2.2.2.2.1
noncomputable def v := eps0.2.2.2.2.2.2.2
theorem main0 : Claim0 w A R g d t os v := by
 intro h X hq
 obtain ⟨oc, od, cd, sl, ho, e1, e2, e3, e4, e5⟩ := accMk (w := w)
 obtain ⟨made, base, self, top, call, typ, mro⟩ := mkA_of (M := model PW w) X
 have hC := X _ _ ho
 refine codeAny_call_builtin_code (plainId_quiet F.plain_list_new _) ?_
 have ha := args_list_new (.ref 178) v
 unfold argsOk at ha
 have hown := owner_list_new
 have hty : Looks (model PW w) h (isType (.ref 178)) true := by
  intro A Q E s k q
  obtain ⟨h', g', d', t', os'⟩ := s
  exact ks_wpAny_isType_cls (k _ _ hC) rfl q
 have fin : codeAny (model PW w) A (.builtin "list.__new__" ⟨[.ref 178, v], []⟩) R ⟨h, g, d, t, os⟩ := by
  refine codeAny_builtin_stack F.entry_list_new rfl fun p st => ?_
  dsimp only
  simp only [hown]
  have h2 : ((h.push noDict).push (acc0 h.objs.size)).get? 178 = some ⟨oc, od, .cls cd, sl⟩ := Heap.get?_push_of_some _ (Heap.get?_push_of_some _ hC)
  repeat (first | simp only [Bool.not_true, Bool.false_eq_true, if_false] | lk)
  rw [e2]
  refine wpAny_pure (wpAny_pure ?_)
  have e : (h.push noDict).objs.size = h.objs.size + 1 := Heap.size_push ..
  show R (.ok (.ret (.ref (h.push noDict).objs.size))) _
  rw [e]
  exact hq
 cases hsig : Manifest.signature? "list.__new__" with
 | none =>
  simp only [checkBuiltinCall, kind_list_new, split_list_new, hsig]
  rw [if_pos (by decide)]
  repeat (first | simp only [bne_self_eq_false, Bool.not_true, Bool.false_eq_true, if_false] | lk)
  exact fin
 | some sig =>
  simp only [hsig] at ha
  have h2 : Bind.checkArgs "list.__new__" sig ⟨[.ref 178, v], []⟩ = pure () := ha
  simp only [checkBuiltinCall, kind_list_new, split_list_new, hsig]
  rw [if_pos (by decide), h2]
  repeat (first | simp only [bne_self_eq_false, Bool.not_true, Bool.false_eq_true, if_false] | lk)
  exact fin
end Kaccnew
section
variable {w : World} {A : Around} {R : Result → Shared → Prop} {h : Heap} {g : Array GenState} {d : Drawn} {t : Nat} {os : OsState}
theorem acc_new {v : Value} (X : (hd.heap_1 w.params).In h)
  (hq : R (.ok (.ret (.ref (h.objs.size + 1)))) ⟨(h.push noDict).push (acc0 h.objs.size), g, d, t, os⟩) :
  codeAny (model PW w) A (.call (.builtin "list.__new__") ⟨[.ref 178, v], []⟩) R ⟨h, g, d, t, os⟩ :=
 by_eps (C := Kaccnew.C0) _ Kaccnew.main0 (w, A, R, g, d, t, os, v) h X hq
end
namespace Kaccmake
noncomputable def Claim0 (w : World) (A : Around) (R : Result → Shared → Prop) (g : Array GenState) (d : Drawn) (t : Nat) (os : OsState) (v : Value) : Prop :=
 ∀ (h : Heap) (X : (hd.heap_1 w.params).In h) (hq : codeAny (model PW w) (A.under (.builtin "type.__call__" ⟨[.ref 178, v], []⟩)) (.call (.ref 115) ⟨[.ref (h.objs.size + 1), v], []⟩) (InitBack (h.objs.size + 1) R) ⟨(h.push noDict).push (acc0 h.objs.size), g, d, t, os⟩), codeAny (model PW w) A (.call (.ref 178) ⟨[v], []⟩) R ⟨h, g, d, t, os⟩
noncomputable abbrev Ty0 := (World) × (Around) × (Result → Shared → Prop) × (Array GenState) × (Drawn) × (Nat) × (OsState) × (Value)
noncomputable def C0 (p : Ty0) : Prop := Claim0 p.1 p.2.1 p.2.2.1 p.2.2.2.1 p.2.2.2.2.1 p.2.2.2.2.2.1 p.2.2.2.2.2.2.1 p.2.2.2.2.2.2.2
noncomputable def eps0 : Ty0 := @Classical.epsilon Ty0 ⟨(aWorld 1, ({} : Around), (fun _ _ => True), (default : Array GenState), ({} : Drawn), (default : Nat), (default : OsState), (default : Value))⟩ (fun p => ¬ C0 p)
noncomputable def w := eps0.1
noncomputable def A := eps0.2.1
noncomputable def R := eps0.2.2.1
noncomputable def g := eps0.2.2.2.1
noncomputable def d := eps0.2.2.2.2.1
noncomputable def t := eps0.2.2.2.2.2.1
noncomputable def os := eps0.2.2.2.2.2.2.1
noncomputable def v := eps0.2.2.2.2.2.2.2
theorem main0 : Claim0 w A R g d t os v := by
 intro h X hq
 obtain ⟨oc, od, cd, sl, ho, e1, e2, e3, e4, e5⟩ := accMk (w := w)
 obtain ⟨made, base, self, top, call, typ, mro⟩ := mkA_of (M := model PW w) X
 have hC := X _ _ ho
 have hi : Looks (model PW w) h (typeLookup (.ref 178) "__init__") (some (.ref 115)) := looks_findIn X accMk2.2.2.1
 refine codeAny_of_tree ?_
 show wpAny _ _ (callAny (.ref 178) _) _ _ _
 refine nd_load hC ?_
 show wpAny _ _ (callAny.viaDunder (.ref 178) _) _ _ _
 unfold callAny.viaDunder
 refine wpAny_bind (call.at ?_)
 dsimp only
 rw [tc_bind]
 refine wpAny_bind (wpAny_pure (wpAny_bind (wpAny_pure ?_)))
 refine wpAny_pure (a := Fin.again (.call (.builtin "type.__call__") ⟨[.ref 178, v], []⟩)) (And.intro rfl ?_)
 refine codeAny_call_builtin_at (Code.quiet_builtin _ (by decide +kernel)) entry_typeCall (check_slot tc_kind tc_split typ (tc_args _ _ _) ?_)
 unfold Builtin.«type.__call__»
 repeat (first | simp only [List.isEmpty_cons, Bool.false_eq_true, if_false] | with_reducible refine wpAny_call ?_ | lk)
 refine acc_new X ?_
 have k : ∀ b o, h.get? b = some o → ((h.push noDict).push (acc0 h.objs.size)).get? b = some o := fun b o e => Heap.get?_push_of_some _ (Heap.get?_push_of_some _ e)
 have hx : ((h.push noDict).push (acc0 h.objs.size)).get? (h.objs.size + 1) = some (acc0 h.objs.size) := by heap_get
 have t1 : Looks (model PW w) ((h.push noDict).push (acc0 h.objs.size)) (typeOf (.ref (h.objs.size + 1))) (.ref 178) := (Looks.ld hx).andThen .now
 have s1 := self.keeps k
 have i1 := hi.keeps k
 have b1 := (bind_fn (M := model PW w) X (.ref (h.objs.size + 1)) (accMk2 (w := w)).2.2.2).keeps k
 unfold isInstance callSpecial? specialOf
 repeat (first | with_reducible refine wpAny_call ?_ | lk)
 refine codeAny_mono hq fun r s' z => ?_
 rcases r with e | (v | _ | _ | _) <;> first | exact z | exact z.elim | skip
 obtain ⟨rfl, z⟩ := z
 exact wpAny_pure (wpAny_pure z)
end Kaccmake
section
variable {w : World} {A : Around} {R : Result → Shared → Prop} {h : Heap} {g : Array GenState} {d : Drawn} {t : Nat} {os : OsState}
theorem acc_make {v : Value} (X : (hd.heap_1 w.params).In h)
  (hq : codeAny (model PW w) (A.under (.builtin "type.__call__" ⟨[.ref 178, v], []⟩)) (.call (.ref 115) ⟨[.ref (h.objs.size + 1), v], []⟩) (InitBack (h.objs.size + 1) R) ⟨(h.push noDict).push (acc0 h.objs.size), g, d, t, os⟩) :
  codeAny (model PW w) A (.call (.ref 178) ⟨[v], []⟩) R ⟨h, g, d, t, os⟩ :=
 by_eps (C := Kaccmake.C0) _ Kaccmake.main0 (w, A, R, g, d, t, os, v) h X hq
end
section
variable {w : World} {A : Around} {E : Value → Shared → Prop} {s : Shared} {ac ad : Addr} {its : Array Value} {sz : Int} {n : Nat} {b : Heap}
end
namespace Kaccset0
noncomputable def Claim0 (w : World) (A : Around) (E : Value → Shared → Prop) (s : Shared) (ac : Addr) (ad : Addr) (v : Int) (t : Tok) (Q : Unit → Shared → Prop) : Prop :=
 ∀ (K : (hd.heap_1 w.params).In s.heap) (e : s.heap.get? ac = some (acc0 ad)) (e2 : s.heap.get? ad = some noDict) (h : ∀ h' tk, Acc h' ac ad #[] v → Heap.SameBut ad s.heap h' → Q () { s with heap := h', toks := tk }), wpAny (model PW w) A (setAttr (.ref ac) "_initial_size" (.int v t)) Q E s
noncomputable abbrev Ty0 := (World) × (Around) × (Value → Shared → Prop) × (Shared) × (Addr) × (Addr) × (Int) × (Tok) × (Unit → Shared → Prop)
noncomputable def C0 (p : Ty0) : Prop := Claim0 p.1 p.2.1 p.2.2.1 p.2.2.2.1 p.2.2.2.2.1 p.2.2.2.2.2.1 p.2.2.2.2.2.2.1 p.2.2.2.2.2.2.2.1 p.2.2.2.2.2.2.2.2
noncomputable def eps0 : Ty0 := @Classical.epsilon Ty0 ⟨(aWorld 1, ({} : Around), (fun _ _ => True), ({} : Shared), (default : Addr), (default : Addr), (default : Int), (default : Tok), (fun _ _ => True))⟩ (fun p => ¬ C0 p)
noncomputable def w := eps0.1
noncomputable def A := eps0.2.1
noncomputable def E := eps0.2.2.1
noncomputable def s := eps0.2.2.2.1
noncomputable def ac := eps0.2.2.2.2.1
noncomputable def ad := eps0.2.2.2.2.2.1
noncomputable def v := eps0.2.2.2.2.2.2.1
noncomputable def t := eps0.2.2.2.2.2.2.2.1
noncomputable def Q := eps0.2.2.2.2.2.2.2.2
theorem main0 : Claim0 w A E s ac ad v t Q := by
 intro K e e2 h
 have I : InstAt s.heap ac (acc0 ad) 178 (some noDict) := ⟨e, rfl, rfl, e2⟩
 refine set_plain K I accD.2.2 ?_
 have SF := PySem.F.store_object
 obtain ⟨cd, hc, hm, hdd, _⟩ := accC (w := w)
 have sub : Looks (model PW w) s.heap (isInstance (.ref ac) (.type "object")) true := I.type.andThen (looks_mroIn K (by unfold mroIn; rw [hc, Option.bind_some, hm]; rfl))
 refine codeAny_call_builtin SF.slot.plain SF.entry (@check_slot (model PW w) _ _ { s with toks := s.toks + 1 } "object.__setattr__" "object" "__setattr__" (.ref ac) [.str _ _, .int v t] [] _ SF.kind SF.split sub (SF.args (.ref ac) (.str _ _) _) ?_)
 have hmro : Looks (model PW w) s.heap (mroOf (.ref 178)) cd.mro := (looks_clsIn K hc).andThen .now
 rw [osa_eq, refuse_eq]
 refine wpAny_bind (wpAny_bind (I.type _ _ _ _ (fun _ _ e => e) (wpAny_bind (hmro _ _ _ _ (fun _ _ e => e) ?_))))
 rw [hm, refuse_list]
 refine wpAny_pure (wpAny_bind (I.type _ _ _ _ (fun _ _ e => e) (wpAny_bind ((looks_findIn K accD.2.1) _ _ _ _ (fun _ _ e => e) (wpAny_bind (wpAny_pure ?_))))))
 have hne : ad ≠ ac := fun q => by
  rw [q, e] at e2; cases e2
 refine wpAny_bind (wpAny_pure (wpAny_bind (wpAny_bind (wpAny_loadPart e (wpAny_bind ((looks_clsIn K hc) _ _ _ _ (fun _ _ e => e) ?_))))))
 rw [hdd]
 refine wpAny_pure (a := some ad) (wpAny_bind (wpAny_pure (wpAny_bind ?_)))
 unfold nsSet
 refine wpAny_bind (wpAny_bind (wpAny_askSetting (wpAny_pure (wpAny_bind (wpAny_mkText (wpAny_bind (wpAny_loadPart e2 ?_)))))))
 dsimp only
 have c : aRefKeyMayBeTheName (Str.ofString "_initial_size") #[] = false := by rfl
 rw [c, if_neg (by decide)]
 have e3 : ∃ m, (s.heap.update ad (Obj.putName (Str.ofString "_initial_size") (PyData.keyHash w.params "_initial_size") (.str "_initial_size" (s.toks + 1)) (.int v t))).get? ad = some { cls := .type "dict", data := .dict #[⟨PyData.keyHash w.params "_initial_size", .str "_initial_size" (s.toks + 1), .int v t⟩] m } :=
  ⟨_, Heap.get?_update_self _ e2 rfl⟩
 obtain ⟨m, e3⟩ := e3
 refine wpAny_updatePart e2 ?_
 refine wpAny_bind (wpAny_lookBehind e3 (pastItsLine_dict (by rw [sizeLine_eq]; exact Nat.le_of_ble_eq_true rfl)) ?_)
 exact wpAny_pure (h _ _ ⟨⟨_, (Heap.get?_update_other _ _ hne).trans e⟩, _, _, _, t, m, e3, rfl⟩ (Heap.SameBut.update ..))
end Kaccset0
section
variable {w : World} {A : Around} {E : Value → Shared → Prop} {s : Shared} {ac ad : Addr} {its : Array Value} {sz : Int} {n : Nat} {b : Heap}
theorem acc_set0 {v : Int} {t : Tok} {Q : Unit → Shared → Prop} (K : (hd.heap_1 w.params).In s.heap) (e : s.heap.get? ac = some (acc0 ad)) (e2 : s.heap.get? ad = some noDict)
  (h : ∀ h' tk, Acc h' ac ad #[] v → Heap.SameBut ad s.heap h' → Q () { s with heap := h', toks := tk }) : wpAny (model PW w) A (setAttr (.ref ac) "_initial_size" (.int v t)) Q E s :=
 by_eps (C := Kaccset0.C0) _ Kaccset0.main0 (w, A, E, s, ac, ad, v, t, Q) K e e2 h
end
namespace KLVthrough
noncomputable def Claim0 (h : Heap) (h' : Heap) (h₀ : Heap) (F : Addr → Prop) (env : Env) (σ : List (Str × D)) (O : List Str) (T : List Addr) : Prop :=
 ∀ (x : LV h₀ F env σ O h) (k : ∀ c o, c ∉ T → NT c → h.get? c = some o → h'.get? c = some o) (hb : Big h') (hT : ∀ c ∈ T, c ≠ env.locals ∧ ∀ o, h.get? c = some o → (o.cls ≠ .type "tuple" ∨ ∀ vs n, o.data ≠ .seq vs n) ∧ (∀ fs, o.data ≠ .fields fs) ∧ ∀ v, o.data ≠ .cell v) (hl : ∀ y l a, σ.lookup y = some (.list l) → At h env y (.ref a) → a ∉ T), LV h' (fun _ => False) env σ [] h'
noncomputable abbrev Ty0 := (Heap) × (Heap) × (Heap) × (Addr → Prop) × (Env) × (List (Str × D)) × (List Str) × (List Addr)
noncomputable def C0 (p : Ty0) : Prop := Claim0 p.1 p.2.1 p.2.2.1 p.2.2.2.1 p.2.2.2.2.1 p.2.2.2.2.2.1 p.2.2.2.2.2.2.1 p.2.2.2.2.2.2.2
noncomputable def eps0 : Ty0 := @Classical.epsilon Ty0 ⟨((default : Heap), (default : Heap), (default : Heap), (fun _ => True), (default : Env), (default : List (Str × D)), (default : List Str), (default : List Addr))⟩ (fun p => ¬ C0 p)
noncomputable def h := eps0.1
noncomputable def h' := eps0.2.1
noncomputable def h₀ := eps0.2.2.1
noncomputable def F := eps0.2.2.2.1
noncomputable def env := eps0.2.2.2.2.1
noncomputable def σ := eps0.2.2.2.2.2.1
noncomputable def O := eps0.2.2.2.2.2.2.1
noncomputable def T := eps0.2.2.2.2.2.2.2
theorem main0 : Claim0 h h' h₀ F env σ O T := by
 intro x k hb hT hl
 obtain ⟨⟨o1, v1, a1, d1⟩, ⟨o2, v2, a2, d2⟩⟩ := x.big.tabs
 have nt : ∀ {c o}, h.get? c = some o → (∀ fs, o.data ≠ .fields fs) → NT c := fun {c o} e q =>
  ⟨fun z => (by rw [z, a1] at e; cases e; exact q _ d1), fun z => (by rw [z, a2] at e; cases e; exact q _ d2)⟩
 have kn : ∀ {m}, h.Ns env.locals m → h'.Ns env.locals m := fun {m} n => by
  obtain ⟨o, es, ep, e, d, r⟩ := n
  exact ⟨o, es, ep, k _ _ (fun q => (hT _ q).1 rfl) (nt e fun fs q => by rw [d] at q; cases q) e, d, r⟩
 have kc : ∀ {b v}, h.IsCell b v → h'.IsCell b v := fun {b v} n => by
  obtain ⟨o, e, d⟩ := n
  exact ⟨o, k _ _ (fun q => ((hT _ q).2 o e).2.2 _ d) (nt e fun fs q => by rw [d] at q; cases q) e, d⟩
 have on : ∀ {y v}, At h env y v → At h' env y v := fun {y v} q => by
  rcases q with ⟨q, m, n, e⟩ | ⟨q, c, l, g⟩
  ·exact .inl ⟨q, m, kn n, e⟩
  ·exact .inr ⟨q, c, l, kc g⟩
 have off : ∀ {y v}, At h' env y v → At h env y v := fun {y v} q => by
  rcases q with ⟨q, m, n, e⟩ | ⟨q, c, l, g⟩
  ·obtain ⟨m', n'⟩ := x.ns
   exact .inl ⟨q, m', n', ((kn n').agree n y).trans e⟩
  ·obtain ⟨_, w, g'⟩ := x.cl y c q l
   obtain ⟨o1, e1, d1⟩ := kc g'
   obtain ⟨o2, e2, d2⟩ := g
   rw [e1] at e2; cases e2
   rw [d1] at d2; cases d2
   exact .inr ⟨q, c, l, g'⟩
 have soft : ∀ {v d}, VD h v d → Low d → VD h' v d := fun {v d} hv lw => vd_soft (fun c o nt e q => k c o (fun q' => by
  rcases q with ⟨vs, n, rfl⟩ | ⟨q, fs, q2⟩
  ·rcases ((hT _ q').2 _ e).1 with z | z
   ·exact z rfl
   ·exact z _ _ rfl
  ·exact ((hT _ q').2 _ e).2.1 _ q2) nt e) hv lw
 refine ⟨fun c o f => f.elim, fun c f => f.elim, hb, ?_, fun f => f, fun y c q l => ⟨fun f => f, ?_⟩, x.inj, ?_, x.fl, ?_, fun y a l q => nomatch q⟩
 ·obtain ⟨m, n⟩ := x.ns; exact ⟨m, kn n⟩
 ·obtain ⟨_, v, g⟩ := x.cl y c q l; exact ⟨v, kc g⟩
 ·intro y d e
  obtain ⟨v, a, hv⟩ := x.rd y d e
  refine ⟨v, on a, ?_⟩
  rcases x.fl y d e with (lw | ⟨m, rfl, lw⟩) | ⟨v', rfl⟩
  ·exact soft hv lw
  ·obtain ⟨a', n', vs', rfl, na', e', s'⟩ := VD.listE hv
   refine .list na' (k _ _ (hl y m a' e a) na' e') ?_
   have key : ∀ {vs : List Value} {ds : List D}, VDs h vs ds → Lows ds → VDs h' vs ds := by
    intro vs
    induction vs with
    | nil => intro ds q _; cases q; exact .nil
    | cons v vs ih => intro ds q r; cases q with | cons q1 q2 => cases r with | cons r1 r2 => exact .cons (soft q1 r1) (ih q2 r2)
   exact key s' lw
  ·obtain rfl := VD.conE hv; exact .con _
 ·intro y z a l m ne hy hz ay az
  exact x.af y z a l m ne hy hz (off ay) (off az)
end KLVthrough
section
variable {w : World} {A : Around} {E : Value → Shared → Prop} {s : Shared} {ac ad : Addr} {its : Array Value} {sz : Int} {n : Nat} {b : Heap}
theorem LV.through {h h' h₀ : Heap} {F : Addr → Prop} {env : Env} {σ : List (Str × D)} {O : List Str} {T : List Addr} (x : LV h₀ F env σ O h) (k : ∀ c o, c ∉ T → NT c → h.get? c = some o → h'.get? c = some o) (hb : Big h')
  (hT : ∀ c ∈ T, c ≠ env.locals ∧ ∀ o, h.get? c = some o → (o.cls ≠ .type "tuple" ∨ ∀ vs n, o.data ≠ .seq vs n) ∧ (∀ fs, o.data ≠ .fields fs) ∧ ∀ v, o.data ≠ .cell v)
  (hl : ∀ y l a, σ.lookup y = some (.list l) → At h env y (.ref a) → a ∉ T) : LV h' (fun _ => False) env σ [] h' :=
 by_eps (C := KLVthrough.C0) _ KLVthrough.main0 (h, h', h₀, F, env, σ, O, T) x k hb hT hl
end
namespace Kaccmade
noncomputable def Claim0 (w : World) (A : Around) (E : Value → Shared → Prop) (b : Heap) (v : Int) (t : Tok) (Q : Value → Shared → Prop) : Prop :=
 ∀ (s : Shared) (G : Gr w b) (bs : b.StaysIn s.heap) (hbig : Big s.heap) (ok : Ok 5 A) (hQ : ∀ ac ad h' tk, s.heap.StaysIn h' → s.heap.get? ac = none → s.heap.get? ad = none → FA h' ac ad [] v → Q (.ref ac) { s with heap := h', toks := tk }), wpAny (model PW w) A (call (.ref 178) [.int v t]) Q E s
noncomputable abbrev Ty0 := (World) × (Around) × (Value → Shared → Prop) × (Heap) × (Int) × (Tok) × (Value → Shared → Prop)
noncomputable def C0 (p : Ty0) : Prop := Claim0 p.1 p.2.1 p.2.2.1 p.2.2.2.1 p.2.2.2.2.1 p.2.2.2.2.2.1 p.2.2.2.2.2.2
noncomputable def eps0 : Ty0 := @Classical.epsilon Ty0 ⟨(aWorld 1, ({} : Around), (fun _ _ => True), (default : Heap), (default : Int), (default : Tok), (fun _ _ => True))⟩ (fun p => ¬ C0 p)
noncomputable def w := eps0.1
noncomputable def A := eps0.2.1
noncomputable def E := eps0.2.2.1
noncomputable def b := eps0.2.2.2.1
noncomputable def v := eps0.2.2.2.2.1
noncomputable def t := eps0.2.2.2.2.2.1
noncomputable def Q := eps0.2.2.2.2.2.2
set_option maxHeartbeats 8000000 in
set_option tactic.hygienic true in
theorem main0 : Claim0 w A E b v t Q := by
 intro s G bs hbig ok hQ
 have hh := Eq.refl (PySem.Challenge.rw_xl0021_01, hd.heap_1)
 revert hh
 k_fill
 intro _
 have K : (hd.heap_1 w.params).In s.heap := fun a o e => bs a o (G.k a o e)
 refine wpAny_call ?_
 obtain ⟨hp, gg, dd, tt, os⟩ := s
 refine acc_make K ?_
 have k0 : hp.StaysIn ((hp.push noDict).push (acc0 hp.objs.size)) := stays_trans (stays_push _ _) (stays_push _ _)
 have okA : Ok 4 (A.under (.builtin "type.__call__" ⟨[.ref 178, .int v t], []⟩)) := by
  have hw : (Code.builtin "type.__call__" ⟨[.ref 178, .int v t], []⟩).weight = 1 := by kernel_rfl
  have hu : (Code.builtin "type.__call__" ⟨[.ref 178, .int v t], []⟩).cUnits = 1 := by kernel_rfl
  refine ⟨?_, ?_, ok.hd⟩
  ·have := ok.dp
   show A.depth + (Code.builtin "type.__call__" ⟨[.ref 178, .int v t], []⟩).weight + 4 < 900
   omega
  ·have := ok.un
   show A.units + (Code.builtin "type.__call__" ⟨[.ref 178, .int v t], []⟩).cUnits + 8 * 4 < 9000
   omega
 refine' enter (s := ⟨(hp.push noDict).push (acc0 hp.objs.size), gg, dd, tt, os⟩) (n := 3) (names := [Str.ofString "self", Str.ofString "initial_size"]) (vs := [.ref (hp.objs.size + 1), .int v t]) (ds := [.con (.ref (hp.objs.size + 1)), .int v]) _ G (stays_trans bs k0) (hbig.up k0) okA ?k1 ?k2 ?k3 rfl (.cons (.con _) (.cons (.int _ _) .nil)) (by decide) ?k4 ?k5 ?k6 ?k7 ?k8 ?k9 ?k10 ?k11
 case k1 => k_is
 case k2 => k_is
 case k3 =>
  obtain ⟨od, eod, td, nd, dod⟩ : ∃ o, (hd.heap_1 w.params).lookup 107 = some o ∧ ∃ t n, o.data = .seq #[.int 0 t] n := ⟨_, by k_is, _, _, rfl⟩
  exact BindsTo.of_defaults (T := 107) (items := #[.int 0 td]) rfl (k0 _ _ (bs _ _ (G.k _ _ eod))) dod rfl rfl
 case k4 => decide
 case k5 => intro d hd; simp at hd; rcases hd with rfl | rfl; exact .inr ⟨_, rfl⟩; exact .inl (.inl (.int _))
 case k6 => exact one_none (by intro d hd l q; subst q; simp at hd)
 case k7 => decide
 case k9 => rfl
 case k10 => rfl
 case k11 => rfl
 case k8 =>
  intro h₁ tk fe kp lv
  have bs1 := stays_trans (stays_trans bs k0) kp
  have K1 : (hd.heap_1 w.params).In h₁ := fun a o e => bs1 a o (G.k a o e)
  have hac : h₁.get? (hp.objs.size + 1) = some (acc0 hp.objs.size) := kp _ _ (by show ((hp.push noDict).push (acc0 hp.objs.size)).get? (hp.objs.size + 1) = _; heap_get)
  have had : h₁.get? hp.objs.size = some noDict := kp _ _ (stays_push _ _ _ _ (get_push hp noDict))
  have hL : ((hp.push noDict).push (acc0 hp.objs.size)).objs.size = hp.objs.size + 2 := by rw [Heap.size_push, Heap.size_push]
  have hac178 : hp.objs.size + 1 ≠ 178 := fun q => by
   obtain ⟨_, _, _, _, ho, _⟩ := accMk (w := w)
   have := Heap.lt_size (K _ _ ho)
   have : (178 : Nat) < hp.objs.size := this
   omega
  refine ks_wpAt_execs_cons (PySem.wpAt_of_wpAny (plainObj_wpAny_Assign_Attribute ?_ rfl))
  refine name_at (s := ⟨h₁, gg, dd, tk, os⟩) fe lv rfl (fun v1 av1 vd1 => name_at (s := ⟨h₁, gg, dd, tk, os⟩) fe lv rfl (fun v2 av2 vd2 => ?_))
  obtain ⟨_, rfl⟩ := VD.intE vd1; obtain rfl := VD.conE vd2
  refine acc_set0 (s := ⟨h₁, gg, dd, tk, os⟩) K1 hac had fun h2 t2 X2 sb => ?_
  have hL' : (hp.objs.size : Nat) ≠ hp.objs.size + 2 := by omega
  have k12 : ∀ c o, c ∉ [hp.objs.size] → NT c → h₁.get? c = some o → h2.get? c = some o := fun c o nc _ e => (sb.2 c (by simpa using nc)).trans e
  have big2 : Big h2 := lv.big.but (c := hp.objs.size) (fun a o ne e => (sb.2 a ne).trans e) fun o vs e d => by
   have e : h₁.get? hp.objs.size = some o := e
   rw [had] at e; cases e; cases d
  have lv2 := lv.through (T := [hp.objs.size]) k12 big2 (fun c hc => by
   obtain rfl := List.mem_singleton.mp hc
   refine ⟨fun q => hL' (q.trans hL), fun o e => ?_⟩
   have e : h₁.get? hp.objs.size = some o := e
   rw [had] at e; cases e
   exact ⟨.inr (fun _ _ q => nomatch q), (fun _ q => nomatch q), (fun v q => nomatch q)⟩) (fun y l a hy _ => by
    obtain ⟨i, _, e⟩ := lookup_zip_of hy
    rcases i with _ | _ | i <;> simp at e)
  have bs2 : b.StaysIn h2 := fun c o e => (sb.2 c (fun q => by
   have := Heap.lt_size (bs _ _ e)
   rw [q] at this
   exact Nat.lt_irrefl _ this)).trans (bs1 _ _ e)
  refine ks_wpAt_execs_cons (ks_wpAt_Expr_any (ks_wpAt_MethodCall (pl := ?pl) ?ev ?he))
  case he => rfl
  case ev =>
   refine' acc_super (s := ⟨h2, gg, dd, t2, os⟩) (ar := ⟨Str.ofString "self", none, ⟨75, 17, 75, 21⟩⟩) (f := 115) (cc := 114) G bs2 fe lv2 X2 rfl rfl rfl rfl rfl rfl rfl ?f1 ?f2 ?f3 rfl ?f4 ?f5 ?f6 ?f7
   case f1 => k_is
   case f2 => rfl
   case f3 => rfl
   case f4 => k_is
   case f5 => rfl
   case f6 => rfl
   case f7 =>
    intro so h3 t3 e3 k3
    have bs3 := stays_trans bs2 k3
    have K3 : (hd.heap_1 w.params).In h3 := fun a o e => bs3 a o (G.k a o e)
    have X3 := X2.keep k3
    refine super_method (s := ⟨h3, gg, dd, t3, os⟩) (o := bndO "method-wrapper" "list.__init__" (hp.objs.size + 1)) K3 e3 hac178 (along_init _) type_init slot_wd.lookup rfl (fun A' Q' E' s' hs hq => wd_get (nm := "__init__") (by rw [hs]; exact K3) (by rw [hs]; exact X3) type_init (fun _ => by kernel_rfl) hq) ?_
    have k4 := stays_push h3 (bndO "method-wrapper" "list.__init__" (hp.objs.size + 1))
    have hu := get_push h3 (bndO "method-wrapper" "list.__init__" (hp.objs.size + 1))
    have X4 := X3.keep k4
    refine bnd_with hu (.inr rfl) (bnd_call hu (.inr rfl) (by decide +kernel) PySem.F.entry_list_init (fun A' Q' E' q => check_slotB (by decide +kernel) (by unfold argsOk; kernel_rfl) q) (body_init X4 (by decide) fun h5 X5 sb5 => ?_))
    refine PySem.wpAt_of_wpAny (wpAny_execs_nil ?_)
    refine ⟨rfl, ?_⟩
    have n1 : hp.get? (hp.objs.size + 1) = none := Heap.get?_none_of_le (Nat.le_succ _)
    refine hQ (hp.objs.size + 1) hp.objs.size h5 _ (fun c o e => ?_) n1 (fresh_size _) ⟨_, X5, .nil⟩
    have hlt : c < hp.objs.size := Heap.lt_size e
    refine (sb5.2 c (fun q => by rw [q] at hlt; exact absurd hlt (Nat.not_lt.mpr (Nat.le_succ _)))).trans (k4 _ _ (k3 _ _ ((sb.2 c (fun q => by rw [q] at hlt; exact Nat.lt_irrefl _ hlt)).trans (kp _ _ (k0 _ _ e)))))
end Kaccmade
section
variable {w : World} {A : Around} {E : Value → Shared → Prop} {s : Shared} {ac ad : Addr} {its : Array Value} {sz : Int} {n : Nat} {b : Heap}
theorem acc_made {v : Int} {t : Tok} {Q : Value → Shared → Prop} (G : Gr w b) (bs : b.StaysIn s.heap) (hbig : Big s.heap) (ok : Ok 5 A)
  (hQ : ∀ ac ad h' tk, s.heap.StaysIn h' → s.heap.get? ac = none → s.heap.get? ad = none → FA h' ac ad [] v → Q (.ref ac) { s with heap := h', toks := tk }) :
  wpAny (model PW w) A (call (.ref 178) [.int v t]) Q E s :=
 by_eps (C := Kaccmade.C0) _ Kaccmade.main0 (w, A, E, b, v, t, Q) s G bs hbig ok hQ
end
end Mine
-- MF22
namespace Mine
theorem fmK {w : World} : makesIn (hd.heap_1 w.params) 94 = true ∧ findIn (hd.heap_1 w.params) (.ref 94) "__init__" = some (some (.ref 35)) ∧ typeIn (hd.heap_1 w.params) (.ref 35) = some (.type "function")
  ∧ findIn (hd.heap_1 w.params) (.ref 94) "__setattr__" = some (some (.builtin "object.__setattr__")) ∧ findIn (hd.heap_1 w.params) (.ref 94) "__getattribute__" = some (some (.builtin "object.__getattribute__")) ∧ findIn (hd.heap_1 w.params) (.ref 94) "__getattr__" = some none
  ∧ hasDictIn (hd.heap_1 w.params) 94 = true := by
 have hh := Eq.refl (PySem.Challenge.rw_xl0021_01, hd.heap_1)
 revert hh
 k_fill
 intro _
 have e1 : makesIn (hd.heap_1 w.params) 94 = true := by k_is
 have e2 : findIn (hd.heap_1 w.params) (.ref 94) "__init__" = some (some (.ref 35)) := by k_is
 have e3 : typeIn (hd.heap_1 w.params) (.ref 35) = some (.type "function") := by k_is
 have e4 : findIn (hd.heap_1 w.params) (.ref 94) "__setattr__" = some (some (.builtin "object.__setattr__")) := by k_is
 have e5 : findIn (hd.heap_1 w.params) (.ref 94) "__getattribute__" = some (some (.builtin "object.__getattribute__")) := by k_is
 have e6 : findIn (hd.heap_1 w.params) (.ref 94) "__getattr__" = some none := by k_is
 have e7 : hasDictIn (hd.heap_1 w.params) 94 = true := by k_is
 exact ⟨e1, e2, e3, e4, e5, e6, e7⟩
theorem fmN {w : World} : findIn (hd.heap_1 w.params) (.ref 94) "_maxlen" = some none ∧ findIn (hd.heap_1 w.params) (.ref 94) "_continuation_ws" = some none ∧ findIn (hd.heap_1 w.params) (.ref 94) "_continuation_ws_len" = some none
  ∧ findIn (hd.heap_1 w.params) (.ref 94) "_splitchars" = some none ∧ findIn (hd.heap_1 w.params) (.ref 94) "_lines" = some none ∧ findIn (hd.heap_1 w.params) (.ref 94) "_current_line" = some none := by
 have hh := Eq.refl (PySem.Challenge.rw_xl0021_01, hd.heap_1)
 revert hh
 k_fill
 intro _
 have e1 : findIn (hd.heap_1 w.params) (.ref 94) "_maxlen" = some none := by k_is
 have e2 : findIn (hd.heap_1 w.params) (.ref 94) "_continuation_ws" = some none := by k_is
 have e3 : findIn (hd.heap_1 w.params) (.ref 94) "_continuation_ws_len" = some none := by k_is
 have e4 : findIn (hd.heap_1 w.params) (.ref 94) "_splitchars" = some none := by k_is
 have e5 : findIn (hd.heap_1 w.params) (.ref 94) "_lines" = some none := by k_is
 have e6 : findIn (hd.heap_1 w.params) (.ref 94) "_current_line" = some none := by k_is
 exact ⟨e1, e2, e3, e4, e5, e6⟩
theorem fmF {w : World} : (findIn (hd.heap_1 w.params) (.ref 94) "newline" = some (some (.ref 56)) ∧ findIn (hd.heap_1 w.params) (.ref 94) "_append_chunk" = some (some (.ref 91)) ∧ findIn (hd.heap_1 w.params) (.ref 94) "_str" = some (some (.ref 42)))
  ∧ (typeIn (hd.heap_1 w.params) (.ref 56) = some (.type "function") ∧ typeIn (hd.heap_1 w.params) (.ref 91) = some (.type "function") ∧ typeIn (hd.heap_1 w.params) (.ref 42) = some (.type "function")) := by
 have hh := Eq.refl (PySem.Challenge.rw_xl0021_01, hd.heap_1)
 revert hh
 k_fill
 intro _
 have e1 : findIn (hd.heap_1 w.params) (.ref 94) "newline" = some (some (.ref 56)) := by k_is
 have e2 : findIn (hd.heap_1 w.params) (.ref 94) "_append_chunk" = some (some (.ref 91)) := by k_is
 have e3 : findIn (hd.heap_1 w.params) (.ref 94) "_str" = some (some (.ref 42)) := by k_is
 have f1 : typeIn (hd.heap_1 w.params) (.ref 56) = some (.type "function") := by k_is
 have f2 : typeIn (hd.heap_1 w.params) (.ref 91) = some (.type "function") := by k_is
 have f3 : typeIn (hd.heap_1 w.params) (.ref 42) = some (.type "function") := by k_is
 exact ⟨⟨e1, e2, e3⟩, f1, f2, f3⟩
theorem fmC {w : World} : ∃ cd, clsIn (hd.heap_1 w.params) 94 = some cd ∧ cd.mro = [.ref 94, .type "object"] ∧ cd.hasDict = true := by
 have hh := Eq.refl (PySem.Challenge.rw_xl0021_01, hd.heap_1)
 revert hh
 k_fill
 intro _
 obtain ⟨o, e, d⟩ : ∃ o, (hd.heap_1 w.params).lookup 94 = some o ∧ ∃ cd, o.data = .cls cd ∧ cd.mro = [.ref 94, .type "object"] ∧ cd.hasDict = true := ⟨_, by k_is, _, rfl, rfl, rfl⟩
 obtain ⟨cd, d, m, z⟩ := d
 refine ⟨cd, ?_, m, z⟩
 unfold clsIn
 rw [e]
 obtain ⟨oc, od, oda, osl⟩ := o
 dsimp only at d
 subst d
 rfl
section
variable {w : World} {A : Around} {E : Value → Shared → Prop} {s : Shared} {x fd : Addr} {m : Str → Option Value}
theorem fm_inst {h : Heap} (e : h.get? x = some (instObj 94 fd)) (n : h.Ns fd m) : ∃ od, InstAt h x (instObj 94 fd) 94 (some od) ∧ ∀ name, lookIn name od = some (m name) := by
 obtain ⟨o, e2, l⟩ := lookIn_of_ns n
 exact ⟨o, ⟨e, rfl, rfl, e2⟩, l⟩
theorem fm_get {name : Str} {v : Value} {expr : Bool} {Q : Value → Shared → Prop} (K : (hd.heap_1 w.params).In s.heap) (e : s.heap.get? x = some (instObj 94 fd)) (n : s.heap.Ns fd m) (hn : findIn (hd.heap_1 w.params) (.ref 94) name = some none) (hm : m name = some v) (hh : handedIn v = true)
  (h : Q v { s with toks := s.toks + 1 }) : wpAny (model PW w) A (getAttr (.ref x) name expr) Q E s := by
 obtain ⟨od, I, hl⟩ := fm_inst e n
 exact get_value K I fmK.2.2.2.2.1 (findObj_own (v := v) fmK.2.2.2.2.2.2 hn rfl ((hl name).trans (congrArg some hm))) hh h
end
namespace Kfmset
noncomputable def Claim0 (w : World) (A : Around) (E : Value → Shared → Prop) (s : Shared) (x : Addr) (fd : Addr) (name : Str) (v : Value) (es : Array DictEntry) (es' : Array DictEntry) (ep : Nat) (ep' : Nat) (Q : Unit → Shared → Prop) : Prop :=
 ∀ (K : (hd.heap_1 w.params).In s.heap) (e : s.heap.get? x = some (instObj 94 fd)) (e2 : s.heap.get? fd = some { cls := .type "dict", data := .dict es ep }) (hn : findIn (hd.heap_1 w.params) (.ref 94) name = some none) (c : aRefKeyMayBeTheName name es = false) (hp : Obj.putName name (PyData.keyHash w.params name) (.str name (s.toks + 1)) v { cls := .type "dict", data := .dict es ep } = { cls := .type "dict", data := .dict es' ep' }) (hz : es'.size ≤ 100) (h : ∀ h' tk, h'.get? fd = some { cls := .type "dict", data := .dict es' ep' } → Heap.SameBut fd s.heap h' → Q () { s with heap := h', toks := tk }), wpAny (model PW w) A (setAttr (.ref x) name v) Q E s
noncomputable abbrev Ty0 := (World) × (Around) × (Value → Shared → Prop) × (Shared) × (Addr) × (Addr) × (Str) × (Value) × (Array DictEntry) × (Array DictEntry) × (Nat) × (Nat) × (Unit → Shared → Prop)
noncomputable def C0 (p : Ty0) : Prop := Claim0 p.1 p.2.1 p.2.2.1 p.2.2.2.1 p.2.2.2.2.1 p.2.2.2.2.2.1 p.2.2.2.2.2.2.1 p.2.2.2.2.2.2.2.1 p.2.2.2.2.2.2.2.2.1 p.2.2.2.2.2.2.2.2.2.1 p.2.2.2.2.2.2.2.2.2.2.1 p.2.2.2.2.2.2.2.2.2.2.2.1 p.2.2.2.2.2.2.2.2.2.2.2.2
noncomputable def eps0 : Ty0 := @Classical.epsilon Ty0 ⟨(aWorld 1, ({} : Around), (fun _ _ => True), ({} : Shared), (default : Addr), (default : Addr), (default : Str), (default : Value), (default : Array DictEntry), (default : Array DictEntry), (default : Nat), (default : Nat), (fun _ _ => True))⟩ (fun p => ¬ C0 p)
noncomputable def w := eps0.1
noncomputable def A := eps0.2.1
noncomputable def E := eps0.2.2.1
noncomputable def s := eps0.2.2.2.1
noncomputable def x := eps0.2.2.2.2.1
noncomputable def fd := eps0.2.2.2.2.2.1
noncomputable def name := eps0.2.2.2.2.2.2.1
noncomputable def v := eps0.2.2.2.2.2.2.2.1
noncomputable def es := eps0.2.2.2.2.2.2.2.2.1
noncomputable def es' := eps0.2.2.2.2.2.2.2.2.2.1
noncomputable def ep := eps0.2.2.2.2.2.2.2.2.2.2.1
noncomputable def ep' := eps0.2.2.2.2.2.2.2.2.2.2.2.1
noncomputable def Q := eps0.2.2.2.2.2.2.2.2.2.2.2.2
theorem main0 : Claim0 w A E s x fd name v es es' ep ep' Q := by
 intro K e e2 hn c hp hz h
 have I : InstAt s.heap x (instObj 94 fd) 94 (some _) := ⟨e, rfl, rfl, e2⟩
 refine set_plain K I fmK.2.2.2.1 ?_
 have SF := PySem.F.store_object
 obtain ⟨cd, hc, hm, hdd⟩ := fmC (w := w)
 have sub : Looks (model PW w) s.heap (isInstance (.ref x) (.type "object")) true := I.type.andThen (looks_mroIn K (by unfold mroIn; rw [hc, Option.bind_some, hm]; rfl))
 refine codeAny_call_builtin SF.slot.plain SF.entry (@check_slot (model PW w) _ _ { s with toks := s.toks + 1 } "object.__setattr__" "object" "__setattr__" (.ref x) [.str _ _, v] [] _ SF.kind SF.split sub (SF.args (.ref x) (.str _ _) _) ?_)
 have hmro : Looks (model PW w) s.heap (mroOf (.ref 94)) cd.mro := (looks_clsIn K hc).andThen .now
 rw [osa_eq, refuse_eq]
 refine wpAny_bind (wpAny_bind (I.type _ _ _ _ (fun _ _ e => e) (wpAny_bind (hmro _ _ _ _ (fun _ _ e => e) ?_))))
 rw [hm, refuse_only _ (by decide)]
 refine wpAny_pure (wpAny_bind (I.type _ _ _ _ (fun _ _ e => e) (wpAny_bind ((looks_findIn K hn) _ _ _ _ (fun _ _ e => e) (wpAny_bind (wpAny_pure ?_))))))
 refine wpAny_bind (wpAny_pure (wpAny_bind (wpAny_bind (wpAny_loadPart e (wpAny_bind ((looks_clsIn K hc) _ _ _ _ (fun _ _ e => e) ?_))))))
 rw [hdd]
 refine wpAny_pure (a := some fd) (wpAny_bind (wpAny_pure (wpAny_bind ?_)))
 unfold nsSet
 refine wpAny_bind (wpAny_bind (wpAny_askSetting (wpAny_pure (wpAny_bind (wpAny_mkText (wpAny_bind (wpAny_loadPart e2 ?_)))))))
 dsimp only
 rw [c, if_neg (by decide)]
 have e3 : (s.heap.update fd (Obj.putName name (PyData.keyHash w.params name) (.str name (s.toks + 1)) v)).get? fd = some { cls := .type "dict", data := .dict es' ep' } := by
  have := Heap.get?_update_self (Obj.putName name (PyData.keyHash w.params name) (.str name (s.toks + 1)) v) e2 (by rw [hp]; rfl)
  rw [hp] at this
  exact this
 refine wpAny_updatePart e2 ?_
 refine wpAny_bind (wpAny_lookBehind e3 (pastItsLine_dict (by rw [sizeLine_eq]; omega)) ?_)
 exact wpAny_pure (h _ _ e3 (Heap.SameBut.update ..))
end Kfmset
section
variable {w : World} {A : Around} {E : Value → Shared → Prop} {s : Shared} {x fd : Addr} {m : Str → Option Value}
theorem fm_set {name : Str} {v : Value} {es es' : Array DictEntry} {ep ep' : Nat} {Q : Unit → Shared → Prop} (K : (hd.heap_1 w.params).In s.heap) (e : s.heap.get? x = some (instObj 94 fd)) (e2 : s.heap.get? fd = some { cls := .type "dict", data := .dict es ep }) (hn : findIn (hd.heap_1 w.params) (.ref 94) name = some none)
  (c : aRefKeyMayBeTheName name es = false) (hp : Obj.putName name (PyData.keyHash w.params name) (.str name (s.toks + 1)) v { cls := .type "dict", data := .dict es ep } = { cls := .type "dict", data := .dict es' ep' }) (hz : es'.size ≤ 100)
  (h : ∀ h' tk, h'.get? fd = some { cls := .type "dict", data := .dict es' ep' } → Heap.SameBut fd s.heap h' → Q () { s with heap := h', toks := tk }) : wpAny (model PW w) A (setAttr (.ref x) name v) Q E s :=
 by_eps (C := Kfmset.C0) _ Kfmset.main0 (w, A, E, s, x, fd, name, v, es, es', ep, ep', Q) K e e2 hn c hp hz h
theorem fm_method {name : Str} {f : Addr} {pl : Sem Bool} {Q : Value × List Value → Shared → Prop} (K : (hd.heap_1 w.params).In s.heap) (e : s.heap.get? x = some (instObj 94 fd)) (n : s.heap.Ns fd m)
  (hf : findIn (hd.heap_1 w.params) (.ref 94) name = some (some (.ref f))) (ht : typeIn (hd.heap_1 w.params) (.ref f) = some (.type "function")) (hm : m name = none) (h : Q (.ref f, [.ref x]) s) : wpAny (model PW w) A (getMethod (.ref x) name pl) Q E s := by
 obtain ⟨od, I, hl⟩ := fm_inst e n
 exact method_fn K I fmK.2.2.2.2.1 fmK.2.2.2.2.2.1 hf ht (by show (lookIn name od).map _ = _; rw [hl, hm]; rfl) h
end
noncomputable abbrev entsOf (l : List (Str × Int × Tok × Value)) : Array DictEntry := (l.map fun q => (⟨q.2.1, .str q.1 q.2.2.1, q.2.2.2⟩ : DictEntry)).toArray
theorem ns_of_ents {h : Heap} {a : Addr} {o : Obj} {l : List (Str × Int × Tok × Value)} {ep : Nat} (e : h.get? a = some o) (d : o.data = .dict (entsOf l) ep) : h.Ns a fun y => (l.map fun q => (q.1, q.2.2.2)).lookup y := by
 refine ⟨o, _, ep, e, d, ?_, fun name => ?_⟩
 ·intro en hen
  obtain ⟨q, _, rfl⟩ := List.mem_map.mp (List.mem_toArray.mp hen)
  exact ⟨_, _, rfl⟩
 ·unfold nsFind findBy
  rw [← Array.find?_toList]
  clear d e
  show (List.find? (fun e : DictEntry => e.key.isStr name) (l.map fun q => (⟨q.2.1, .str q.1 q.2.2.1, q.2.2.2⟩ : DictEntry))).map DictEntry.val = (l.map fun q => (q.1, q.2.2.2)).lookup name
  induction l with
  | nil => rfl
  | cons q l ih =>
   rw [List.map_cons, List.find?_cons, List.map_cons, List.lookup_cons]
   have hq : (Value.str q.1 q.2.2.1).isStr name = (name == q.1) := by
    show (q.1 == name) = _
    rw [Bool.eq_iff_iff, beq_iff_eq, beq_iff_eq]; exact eq_comm
   rw [hq]
   cases (name == q.1) with
   | true => rfl
   | false => exact ih
noncomputable def fmM (mx cl : Int) (ws spl : List Nat) (ac ll : Addr) (t1 t2 t3 t4 : Tok) : Str → Option Value := fun y =>
 [(Str.ofString "_maxlen", Value.int mx t1), (Str.ofString "_continuation_ws", .str (S ws) t2), (Str.ofString "_continuation_ws_len", .int cl t3), (Str.ofString "_splitchars", .str (S spl) t4), (Str.ofString "_lines", .ref ll), (Str.ofString "_current_line", .ref ac)].lookup y
structure Fm (h : Heap) (x fd ac ll : Addr) (mx : Int) (spl : List Nat) : Prop where
 at_ : h.get? x = some (instObj 94 fd)
 dc : ∃ cl ws t1 t2 t3 t4, h.Ns fd (fmM mx cl ws spl ac ll t1 t2 t3 t4)
structure FS (h : Heap) (x fd ac ad ll : Addr) (mx : Int) (spl : List Nat) (lines : List (List Nat)) (ps : List Piece) (sz : Int) : Prop where
 fm : Fm h x fd ac ll mx spl
 fa : FA h ac ad ps sz
 ls : VD h (.ref ll) (.list (TL lines))
end Mine
-- MF23
namespace Mine
theorem FA.but {h h' : Heap} {ac ad : Addr} {ps : List Piece} {sz : Int} {T : List Addr} (X : FA h ac ad ps sz) (hb : Big h) (k : ∀ c o, c ∉ T → NT c → h.get? c = some o → h'.get? c = some o) (h1 : ac ∉ T) (h2 : ad ∉ T) (hT : ∀ c ∈ T, ∀ o, h.get? c = some o → o.cls ≠ .type "tuple" ∨ ∀ vs n, o.data ≠ .seq vs n) : FA h' ac ad ps sz := by
 obtain ⟨its, ⟨⟨n, e⟩, o, hs, tk, t, m, e2, d⟩, hp⟩ := X
 have nt : ∀ {c o}, h.get? c = some o → (∀ vs, o.data ≠ .fields vs) → NT c := fun {c o} e q => by
  obtain ⟨⟨o1, v1, a1, d1⟩, ⟨o2, v2, a2, d2⟩⟩ := hb.tabs
  exact ⟨fun z => (by rw [z, a1] at e; cases e; exact q _ d1), fun z => (by rw [z, a2] at e; cases e; exact q _ d2)⟩
 refine ⟨its, ⟨⟨n, k _ _ h1 (nt e fun vs q => nomatch q) e⟩, o, hs, tk, t, m, k _ _ h2 (nt e2 fun vs q => by rw [d] at q; cases q) e2, d⟩, hp.frame fun c hc o e => ?_⟩
 obtain ⟨i, hi⟩ := List.getElem?_of_mem (refs_mem hc)
 obtain ⟨T', n', t', u', p', e1, e2, e3⟩ := PV2.at hp hi
 cases e1
 exact k _ _ (fun q => (hT _ q _ e3).elim (fun z => z rfl) fun z => z _ _ rfl) (nt e3 fun vs q => nomatch q) (by rw [e3] at e ⊢; exact e)
theorem no_list {σ : List (Str × D)} (h : ∀ p ∈ σ, ∀ l, p.2 ≠ .list l) : ∀ y l, σ.lookup y ≠ some (.list l) := fun y l e => by
 obtain ⟨l1, l2, e, _⟩ := List.lookup_eq_some_iff.mp e
 exact h (y, .list l) (by rw [e]; simp) l rfl
section
variable {w : World} {A : Around} {E : Value → Shared → Prop} {s : Shared} {x fd : Addr} {m : Str → Option Value} {n : Nat} {b : Heap}
theorem init_step {P : Value → Heap → Prop} {env : Env} {h₀ : Heap} {F : Addr → Prop} {σ : List (Str × D)} {O : List Str} {name : Str} {value : Expr} {p1 p2 p3 : Pos} {l : List (Str × Int × Tok × Value)} {ep ep' : Nat} {Q : Flow → Shared → Prop}
  (K : (hd.heap_1 w.params).In s.heap) (fe : Fe env) (lv : LV h₀ F env σ O s.heap) (hself : σ.lookup (Str.ofString "self") = some (.con (.ref x))) (e : s.heap.get? x = some (instObj 94 fd)) (e2 : s.heap.get? fd = some { cls := .type "dict", data := .dict (entsOf l) ep }) (hL : fd ≠ env.locals)
  (hn : findIn (hd.heap_1 w.params) (.ref 94) name = some none) (c : aRefKeyMayBeTheName name (entsOf l) = false)
  (hp : ∀ tk v, Obj.putName name (PyData.keyHash w.params name) (.str name tk) v { cls := .type "dict", data := .dict (entsOf l) ep } = { cls := .type "dict", data := .dict (entsOf (l ++ [(name, PyData.keyHash w.params name, tk, v)])) ep' }) (hz : l.length < 50)
  (hv : ∀ Q' : Value → Shared → Prop, (∀ v h' tk, s.heap.StaysIn h' → P v h' → Q' v { s with heap := h', toks := tk }) → wpAny (model PW w) A (eval value env) Q' E s)
  (hs : swapsWith value (some (.Attribute (.Name (Str.ofString "self") p1) name p2)) p3.line env = pure false)
  (hσ : ∀ y l, σ.lookup y ≠ some (.list l))
  (h : ∀ v h1 h' tk tk1, s.heap.StaysIn h1 → P v h1 → Heap.SameBut fd h1 h' → h'.get? fd = some { cls := .type "dict", data := .dict (entsOf (l ++ [(name, PyData.keyHash w.params name, tk1, v)])) ep' } → LV h' (fun _ => False) env σ [] h' → Big h' → Q .next { s with heap := h', toks := tk }) :
  wpAny (model PW w) A (exec (.Assign [.Attribute (.Name (Str.ofString "self") p1) name p2] value p3) env) Q E s := by
 refine plainObj_wpAny_Assign_Attribute (hv _ fun v h1 t1 k1 hP => ?_) hs
 have lv1 := lv.keep k1
 refine name_at (s := { s with heap := h1, toks := t1 }) fe lv1 hself (fun v1 av1 vd1 => ?_)
 obtain rfl := VD.conE vd1
 have K1 : (hd.heap_1 w.params).In h1 := fun a o e => k1 _ _ (K a o e)
 refine fm_set (s := { s with heap := h1, toks := t1 }) K1 (k1 _ _ e) (k1 _ _ e2) hn c (hp _ v) (by simp; omega) fun h' tk e' sb => ?_
 have big' : Big h' := lv1.big.but (c := fd) (fun a o ne e => (sb.2 a ne).trans e) fun o vs e d => by
  rw [k1 _ _ e2] at e; cases e; cases d
 refine h v h1 h' tk _ k1 hP sb e' (lv1.through (T := [fd]) (fun c o nc _ e => (sb.2 c (by simpa using nc)).trans e) big' (fun c hc => ?_) fun y l a hy _ => absurd hy (hσ y l)) big'
 obtain rfl := List.mem_singleton.mp hc
 refine ⟨hL, fun o e => ?_⟩
 rw [k1 _ _ e2] at e; cases e
 exact ⟨.inr (fun _ _ q => nomatch q), (fun _ q => nomatch q), (fun v q => nomatch q)⟩
end
namespace Kfmmade
noncomputable def Claim0 (w : World) (A : Around) (E : Value → Shared → Prop) (b : Heap) (hl : Int) (mx : Int) (ws : List Nat) (spl : List Nat) (t1 : Tok) (t2 : Tok) (t3 : Tok) (t4 : Tok) (Q : Value → Shared → Prop) : Prop :=
 ∀ (s : Shared) (G : Gr w b) (bs : b.StaysIn s.heap) (hbig : Big s.heap) (ok : Ok 8 A) (hws : ws.length < 1000) (hQ : ∀ x fd ac ad ll h' tk, s.heap.StaysIn h' → s.heap.get? x = none → s.heap.get? fd = none → s.heap.get? ac = none → s.heap.get? ad = none → s.heap.get? ll = none → FS h' x fd ac ad ll mx spl [] [] hl → Big h' → Q (.ref x) { s with heap := h', toks := tk }), wpAny (model PW w) A (call (.ref 94) [.int hl t1, .int mx t2, .str (S ws) t3, .str (S spl) t4]) Q E s
noncomputable abbrev Ty0 := (World) × (Around) × (Value → Shared → Prop) × (Heap) × (Int) × (Int) × (List Nat) × (List Nat) × (Tok) × (Tok) × (Tok) × (Tok) × (Value → Shared → Prop)
noncomputable def C0 (p : Ty0) : Prop := Claim0 p.1 p.2.1 p.2.2.1 p.2.2.2.1 p.2.2.2.2.1 p.2.2.2.2.2.1 p.2.2.2.2.2.2.1 p.2.2.2.2.2.2.2.1 p.2.2.2.2.2.2.2.2.1 p.2.2.2.2.2.2.2.2.2.1 p.2.2.2.2.2.2.2.2.2.2.1 p.2.2.2.2.2.2.2.2.2.2.2.1 p.2.2.2.2.2.2.2.2.2.2.2.2
noncomputable def eps0 : Ty0 := @Classical.epsilon Ty0 ⟨(aWorld 1, ({} : Around), (fun _ _ => True), (default : Heap), (default : Int), (default : Int), (default : List Nat), (default : List Nat), (default : Tok), (default : Tok), (default : Tok), (default : Tok), (fun _ _ => True))⟩ (fun p => ¬ C0 p)
noncomputable def w := eps0.1
noncomputable def A := eps0.2.1
noncomputable def E := eps0.2.2.1
noncomputable def b := eps0.2.2.2.1
noncomputable def hl := eps0.2.2.2.2.1
noncomputable def mx := eps0.2.2.2.2.2.1
noncomputable def ws := eps0.2.2.2.2.2.2.1
noncomputable def spl := eps0.2.2.2.2.2.2.2.1
noncomputable def t1 := eps0.2.2.2.2.2.2.2.2.1
noncomputable def t2 := eps0.2.2.2.2.2.2.2.2.2.1
noncomputable def t3 := eps0.2.2.2.2.2.2.2.2.2.2.1
noncomputable def t4 := eps0.2.2.2.2.2.2.2.2.2.2.2.1
noncomputable def Q := eps0.2.2.2.2.2.2.2.2.2.2.2.2
set_option maxHeartbeats 8000000 in
theorem main0 : Claim0 w A E b hl mx ws spl t1 t2 t3 t4 Q := by
 intro s G bs hbig ok hws hQ
 have hh := Eq.refl (PySem.Challenge.rw_xl0021_01, hd.heap_1)
 revert hh
 k_fill
 intro _
 have K : (hd.heap_1 w.params).In s.heap := fun a o e => bs a o (G.k a o e)
 have gac : nsIn (hd.heap_1 w.params) mainGlobals "_Accumulator" = some (some (.ref 178)) := by k_is
 have kac : keepIn (hd.heap_1 w.params) (.ref 178) = true := by k_is
 refine wpAny_call ?_
 obtain ⟨hp, gg, dd, tt, os⟩ := s
 refine make_core (makes_of K fmK.1) (looks_findIn K fmK.2.1) (fun self => bind_fn K self fmK.2.2.1) (.inl rfl) ?_
 have k0 : hp.StaysIn ((hp.push emptyDict).push (instObj 94 hp.objs.size)) := stays_trans (stays_push _ _) (stays_push _ _)
 have okA : Ok 7 (A.under (.builtin "type.__call__" ⟨[.ref 94, .int hl t1, .int mx t2, .str (S ws) t3, .str (S spl) t4], []⟩)) := by
  have hw : (Code.builtin "type.__call__" ⟨[.ref 94, .int hl t1, .int mx t2, .str (S ws) t3, .str (S spl) t4], []⟩).weight = 1 := by kernel_rfl
  have hu : (Code.builtin "type.__call__" ⟨[.ref 94, .int hl t1, .int mx t2, .str (S ws) t3, .str (S spl) t4], []⟩).cUnits = 1 := by kernel_rfl
  refine ⟨?_, ?_, ok.hd⟩
  ·have := ok.dp
   show A.depth + (Code.builtin "type.__call__" _).weight + 7 < 900
   omega
  ·have := ok.un
   show A.units + (Code.builtin "type.__call__" _).cUnits + 8 * 7 < 9000
   omega
 refine' enter (s := ⟨(hp.push emptyDict).push (instObj 94 hp.objs.size), gg, dd, tt, os⟩) (n := 6) (names := [Str.ofString "self", Str.ofString "headerlen", Str.ofString "maxlen", Str.ofString "continuation_ws", Str.ofString "splitchars"]) (vs := [.ref (hp.objs.size + 1), .int hl t1, .int mx t2, .str (S ws) t3, .str (S spl) t4]) (ds := [.con (.ref (hp.objs.size + 1)), .int hl, .int mx, .str (S ws), .str (S spl)]) _ G (stays_trans bs k0) (hbig.up k0) okA ?k1 ?k2 ?k3 rfl (.cons (.con _) (.cons (.int _ _) (.cons (.int _ _) (.cons (.str _ _) (.cons (.str _ _) .nil))))) (by decide) ?k4 ?k5 ?k6 ?k7 ?k8 ?k9 ?k10 ?k11
 case k1 => k_is
 case k2 => k_is
 case k3 => exact BindsTo.of_eq rfl
 case k4 => decide
 case k5 => intro d hd; simp at hd; rcases hd with rfl | rfl | rfl | rfl | rfl; exact .inr ⟨_, rfl⟩; exact .inl (.inl (.int _)); exact .inl (.inl (.int _)); exact .inl (.inl (.str _)); exact .inl (.inl (.str _))
 case k6 => exact one_none (by intro d hd l q; subst q; simp at hd)
 case k7 => decide
 case k9 => rfl
 case k10 => rfl
 case k11 => rfl
 case k8 =>
  intro h₁ tk fe kp lv
  have bs1 := stays_trans (stays_trans bs k0) kp
  have K1 : (hd.heap_1 w.params).In h₁ := fun a o e => bs1 a o (G.k a o e)
  have hx : h₁.get? (hp.objs.size + 1) = some (instObj 94 hp.objs.size) := kp _ _ (by show ((hp.push emptyDict).push (instObj 94 hp.objs.size)).get? (hp.objs.size + 1) = _; heap_get)
  have hfd : h₁.get? hp.objs.size = some { cls := .type "dict", data := .dict (entsOf []) 0 } := kp _ _ (stays_push _ _ _ _ (get_push hp emptyDict))
  have hL : ((hp.push emptyDict).push (instObj 94 hp.objs.size)).objs.size = hp.objs.size + 2 := by rw [Heap.size_push, Heap.size_push]
  have hL' : (hp.objs.size : Nat) ≠ hp.objs.size + 2 := by omega
  refine PySem.wpAt_of_wpAny ?_
  generalize hx0 : hp.objs.size + 1 = x at *
  have hfdL : hp.objs.size ≠ (envX (Str.ofString "_ValueFormatter.__init__") ⟨.function, [(Str.ofString "self", .local), (Str.ofString "headerlen", .local), (Str.ofString "maxlen", .local), (Str.ofString "continuation_ws", .local), (Str.ofString "splitchars", .local), (Str.ofString "len", .globalImplicit), (Str.ofString "_Accumulator", .globalImplicit)], false, false, []⟩ ((hp.push emptyDict).push (instObj 94 hp.objs.size)).objs.size 35 (.ref 34) []).locals := fun q => hL' (q.trans hL)
  have nl : ∀ y l, ([Str.ofString "self", Str.ofString "headerlen", Str.ofString "maxlen", Str.ofString "continuation_ws", Str.ofString "splitchars"].zip [D.con (.ref x), D.int hl, D.int mx, D.str (S ws), D.str (S spl)]).lookup y ≠ some (.list l) := no_list (by intro p hp l q; simp at hp; rcases hp with rfl | rfl | rfl | rfl | rfl <;> cases q)
  have old : ∀ c o, hp.get? c = some o → h₁.get? c = some o := fun c o e => kp _ _ (k0 _ _ e)
  have adv : ∀ {g g1 g' : Heap}, (∀ c o, hp.get? c = some o → g.get? c = some o) → g.StaysIn g1 → Heap.SameBut hp.objs.size g1 g' → (∀ c o, hp.get? c = some o → g'.get? c = some o) := fun {g g1 g'} a k sb c o e => (sb.2 c (fun q => by rw [q, fresh_size] at e; cases e)).trans (k _ _ (a _ _ e))
  have bsOf : ∀ {g : Heap}, (∀ c o, hp.get? c = some o → g.get? c = some o) → b.StaysIn g := fun a c o e => a c o (bs c o e)
  have KOf : ∀ {g : Heap}, (∀ c o, hp.get? c = some o → g.get? c = some o) → (hd.heap_1 w.params).In g := fun a c o e => bsOf a c o (G.k c o e)
  have xOf : ∀ {g g1 g' : Heap}, g.get? x = some (instObj 94 hp.objs.size) → g.StaysIn g1 → Heap.SameBut hp.objs.size g1 g' → g'.get? x = some (instObj 94 hp.objs.size) := fun {g g1 g'} a k sb => (sb.2 x (fun q => by rw [← hx0] at q; exact absurd q (Nat.succ_ne_self _))).trans (k _ _ a)
  refine wpAny_execs_cons (init_step (s := ⟨h₁, gg, dd, tk, os⟩) (l := []) (ep' := 1) (P := fun v h => VD h v (.int mx)) K1 fe lv rfl hx hfd hfdL fmN.1 rfl (fun tk v => rfl) (by decide) (fun Q' hq => ev_name fe lv rfl (by decide) _ _ _ _ okA.deeper (stays_refl _) hq) rfl nl fun v1 h1 h2 tk2 tk21 k1 hP1 sb2 e2 lv2 big2 => ?_)
  have old2 := adv old k1 sb2
  have hx2 := xOf hx k1 sb2
  refine wpAny_execs_cons (init_step (s := ⟨h2, gg, dd, tk2, os⟩) (l := _ :: []) (ep' := 2) (P := fun v h => VD h v (.str (S ws))) (KOf old2) fe lv2 rfl hx2 e2 hfdL fmN.2.1 rfl (fun tk v => rfl) (by simp) (fun Q' hq => ev_name fe lv2 rfl (by decide) _ _ _ _ okA.deeper (stays_refl _) hq) rfl nl fun v2 h2' h3 tk3 tk31 k2 hP2 sb3 e3 lv3 big3 => ?_)
  have old3 := adv old2 k2 sb3
  have hx3 := xOf hx2 k2 sb3
  refine wpAny_execs_cons (init_step (s := ⟨h3, gg, dd, tk3, os⟩) (l := _ :: _ :: []) (ep' := 3) (P := fun v h => VD h v (.int ws.length)) (KOf old3) fe lv3 rfl hx3 e3 hfdL fmN.2.2.1 rfl (fun tk v => rfl) (by simp) (fun Q' hq => ev_len fe G (bsOf old3) (ev_name fe lv3 rfl (by decide)) (by omega) rfl rfl rfl _ _ _ _ okA.deeper (stays_refl _) hq) rfl nl fun v3 h3' h4 tk4 tk41 k3 hP3 sb4 e4 lv4 big4 => ?_)
  have old4 := adv old3 k3 sb4
  have hx4 := xOf hx3 k3 sb4
  refine wpAny_execs_cons (init_step (s := ⟨h4, gg, dd, tk4, os⟩) (l := _ :: _ :: _ :: []) (ep' := 4) (P := fun v h => VD h v (.str (S spl))) (KOf old4) fe lv4 rfl hx4 e4 hfdL fmN.2.2.2.1 rfl (fun tk v => rfl) (by simp) (fun Q' hq => ev_name fe lv4 rfl (by decide) _ _ _ _ okA.deeper (stays_refl _) hq) rfl nl fun v4 h4' h5 tk5 tk51 k4 hP4 sb5 e5 lv5 big5 => ?_)
  have old5 := adv old4 k4 sb5
  have hx5 := xOf hx4 k4 sb5
  refine wpAny_execs_cons (init_step (s := ⟨h5, gg, dd, tk5, os⟩) (l := _ :: _ :: _ :: _ :: []) (ep' := 5) (P := fun v h => VD h v (.list (TL [])) ∧ ∀ a, v = .ref a → h5.get? a = none) (KOf old5) fe lv5 rfl hx5 e5 hfdL fmN.2.2.2.2.1 rfl (fun tk v => rfl) (by simp) (fun Q' hq => evf_list lv5.big av_nil (Nat.zero_le _) _ _ _ _ okA.deeper (stays_refl _) fun v h' tk k hv nw => hq v h' tk k ⟨hv, nw⟩) rfl nl fun v5 h5' h6 tk6 tk61 k5 hP5 sb6 e6 lv6 big6 => ?_)
  have old6 := adv old5 k5 sb6
  have hx6 := xOf hx5 k5 sb6
  refine wpAny_execs_cons (init_step (s := ⟨h6, gg, dd, tk6, os⟩) (l := _ :: _ :: _ :: _ :: _ :: []) (ep' := 6) (P := fun v h => ∃ ac ad, v = .ref ac ∧ h6.get? ac = none ∧ h6.get? ad = none ∧ FA h ac ad [] hl) (KOf old6) fe lv6 rfl hx6 e6 hfdL fmN.2.2.2.2.2 rfl (fun tk v => rfl) (by simp) (fun Q' hq => ?_) rfl nl fun v6 h6' h7 tk7 tk71 k6 hP6 sb7 e7 lv7 big7 => ?_)
  ·have K6 := KOf old6
   refine wpAny_Call_Name_kw (ev_global fe G (bsOf old6) gac rfl (by decide) _ _ ⟨h6, gg, dd, tk6, os⟩ _ okA.deeper (stays_refl _) fun v h' t k hv => ?_)
   obtain rfl := VD.conE hv
   refine callWith_K (K := hd.heap_1 w.params) (h₀ := h6) K6 kac (spliced_cons (ev_name fe lv6 rfl (by decide) _ _ ⟨h', gg, dd, t, os⟩ _ okA.deeper k fun v h2 t2 k2 hv => spliced_nil ⟨fun a o e => k2 _ _ (k _ _ (K6 a o e)), ?_⟩)) rfl rfl
   obtain ⟨tt, rfl⟩ := VD.intE hv
   have k' := stays_trans k k2
   exact acc_made (s := ⟨h2, gg, dd, t2, os⟩) G (stays_trans (bsOf old6) k') (big6.up k') (okA.deeper.le (by omega)) fun ac ad h3 t3 k3 n1 n2 fa => hq _ h3 t3 (stays_trans k' k3) ⟨ac, ad, rfl, not_old k' n1, not_old k' n2, fa⟩
  have old7 := adv old6 k6 sb7
  have hx7 := xOf hx6 k6 sb7
  refine wpAny_execs_nil ?_
  obtain ⟨ac, ad, rfl, nac, nad, fa6⟩ := hP6
  obtain ⟨hv5, nl5⟩ := hP5
  obtain ⟨_, rfl⟩ := VD.intE hP1; obtain ⟨_, rfl⟩ := VD.strE hP2; obtain ⟨_, rfl⟩ := VD.intE hP3; obtain ⟨_, rfl⟩ := VD.strE hP4
  obtain ⟨ll, nn, vs, rfl, ntl, el, sl⟩ := VD.listE hv5
  have e6' : h6.get? ll = some ⟨.type "list", none, .seq vs.toArray nn, #[]⟩ := (sb6.2 ll (fun q => by rw [q, k5 _ _ e5] at el; simp at el)).trans el
  have el7 : h7.get? ll = some ⟨.type "list", none, .seq vs.toArray nn, #[]⟩ := (sb7.2 ll (fun q => by rw [q] at e6'; rw [e6] at e6'; simp at e6')).trans (k6 _ _ e6')
  have hsl : vs = [] := by obtain rfl := VDs.nilE sl; rfl
  subst hsl
  have back : ∀ {g : Heap} {c : Addr}, (∀ c o, hp.get? c = some o → g.get? c = some o) → g.get? c = none → hp.get? c = none := fun {g c} a e => by
   cases q : hp.get? c with
   | none => rfl
   | some o => rw [a c o q] at e; cases e
  have n1 : hp.get? x = none := by rw [← hx0]; exact Heap.get?_none_of_le (Nat.le_succ _)
  have ns7 := ns_of_ents e7 rfl
  have fm7 : Fm h7 x hp.objs.size ac ll mx spl := ⟨hx7, ⟨_, _, _, _, _, _, ns7⟩⟩
  refine ⟨rfl, hQ x hp.objs.size ac ad ll h7 tk7 old7 n1 (fresh_size _) (back old6 nac) (back old6 nad) (back old5 (nl5 _ rfl)) ⟨fm7, ?_, .list ntl el7 .nil⟩ big7⟩
  have n6 : ∀ c, h6.get? c = none → c ∉ [hp.objs.size] := fun c e q => by
   rw [List.mem_singleton.mp q, e6] at e; cases e
  refine FA.but (T := [hp.objs.size]) fa6 (big6.up k6) (fun c o nc _ e => (sb7.2 c (by simpa using nc)).trans e) (n6 _ nac) (n6 _ nad) fun c hc o e => ?_
  rw [List.mem_singleton.mp hc, k6 _ _ e6] at e
  cases e
  exact .inr fun _ _ q => nomatch q
end Kfmmade
section
variable {w : World} {A : Around} {E : Value → Shared → Prop} {s : Shared} {x fd : Addr} {m : Str → Option Value} {n : Nat} {b : Heap}
theorem fm_made {hl mx : Int} {ws spl : List Nat} {t1 t2 t3 t4 : Tok} {Q : Value → Shared → Prop} (G : Gr w b) (bs : b.StaysIn s.heap) (hbig : Big s.heap) (ok : Ok 8 A) (hws : ws.length < 1000)
  (hQ : ∀ x fd ac ad ll h' tk, s.heap.StaysIn h' → s.heap.get? x = none → s.heap.get? fd = none → s.heap.get? ac = none → s.heap.get? ad = none → s.heap.get? ll = none → FS h' x fd ac ad ll mx spl [] [] hl → Big h' → Q (.ref x) { s with heap := h', toks := tk }) :
  wpAny (model PW w) A (call (.ref 94) [.int hl t1, .int mx t2, .str (S ws) t3, .str (S spl) t4]) Q E s :=
 by_eps (C := Kfmmade.C0) _ Kfmmade.main0 (w, A, E, b, hl, mx, ws, spl, t1, t2, t3, t4, Q) s G bs hbig ok hws hQ
end
end Mine
-- MF24
namespace Mine
noncomputable abbrev RX (s s' : Shared) : Prop := (XL fun _ => True).r s s'
theorem RX.refl (s : Shared) : RX s s := (XL fun _ => True).st s s.heap s.toks
theorem RX.ht (s : Shared) (h : Heap) (tk : Nat) : RX s { s with heap := h, toks := tk } := (XL fun _ => True).st s h tk
theorem RX.tr {a b c : Shared} (x : RX a b) (y : RX b c) : RX a c := (XL fun _ => True).tr x y
noncomputable def KB (T : List Addr) (h h' : Heap) : Prop := ∀ c o, c ∉ T → NT c → h.get? c = some o → h'.get? c = some o
theorem KB.of_stays {T : List Addr} {h h' : Heap} (k : h.StaysIn h') : KB T h h' := fun c o _ _ e => k c o e
theorem KB.of_x {T : List Addr} {h h' : Heap} (k : KeepX T h h') : KB T h h' := fun c o nc _ e => k c o nc e
theorem KB.of_t {T : List Addr} {h h' : Heap} (k : KeepT h h') : KB T h h' := fun c o _ nt e => k c o nt e
theorem KB.tr {T : List Addr} {h h' h'' : Heap} (x : KB T h h') (y : KB T h' h'') : KB T h h'' := fun c o nc nt e => y c o nc nt (x c o nc nt e)
theorem KB.le {T T' : List Addr} {h h' : Heap} (x : KB T h h') (k : ∀ c ∈ T, c ∈ T') : KB T' h h' := fun c o nc nt e => x c o (fun q => nc (k c q)) nt e
theorem Big.ntOf {h : Heap} (x : Big h) {c : Addr} {o : Obj} (e : h.get? c = some o) (q : ∀ vs, o.data ≠ .fields vs) : NT c := by
 obtain ⟨⟨o1, v1, a1, d1⟩, ⟨o2, v2, a2, d2⟩⟩ := x.tabs
 exact ⟨fun z => (by rw [z, a1] at e; cases e; exact q _ d1), fun z => (by rw [z, a2] at e; cases e; exact q _ d2)⟩
theorem base_kb {b h h' : Heap} {T : List Addr} (hb0 : b.get? 140 = none ∧ b.get? 147 = none) (hT : ∀ c ∈ T, b.get? c = none) (bs : b.StaysIn h) (k : KB T h h') : b.StaysIn h' := fun a o e =>
 k a o (fun q => (by rw [hT a q] at e; cases e)) ⟨fun q => (by rw [q, hb0.1] at e; cases e), fun q => (by rw [q, hb0.2] at e; cases e)⟩ (bs a o e)
section
variable {h h' : Heap} {x fd ac ad ll : Addr} {mx : Int} {spl : List Nat} {lines lines' : List (List Nat)} {ps ps' : List Piece} {sz sz' : Int} {T : List Addr}
theorem Fm.kb (X : Fm h x fd ac ll mx spl) (hb : Big h) (k : KB T h h') (h1 : x ∉ T) (h2 : fd ∉ T) : Fm h' x fd ac ll mx spl := by
 obtain ⟨e, cl, ws, t1, t2, t3, t4, o, es, ep, e2, d, r⟩ := X
 exact ⟨k _ _ h1 (hb.ntOf e fun vs q => nomatch q) e, cl, ws, t1, t2, t3, t4, o, es, ep, k _ _ h2 (hb.ntOf e2 fun vs q => by rw [d] at q; cases q) e2, d, r⟩
theorem vd_lines_kb (X : VD h (.ref ll) (.list (TL lines))) (k : KB T h h') (h1 : ll ∉ T) : VD h' (.ref ll) (.list (TL lines)) := by
 obtain ⟨_, _, nt, e, sl⟩ := VD.listR X
 obtain ⟨q, rfl, e2⟩ := vds_texts sl
 exact .list nt (k _ _ h1 nt e) (vds_of_values e2)
theorem FS.keep (X : FS h x fd ac ad ll mx spl lines ps sz) (k : h.StaysIn h') : FS h' x fd ac ad ll mx spl lines ps sz := by
 obtain ⟨⟨e, cl, ws, t1, t2, t3, t4, n⟩, fa, ls⟩ := X
 exact ⟨⟨k _ _ e, cl, ws, t1, t2, t3, t4, n.keeps k⟩, fa.keep k, ls.keep k⟩
structure FS.Apart (h : Heap) (x fd ac ad ll : Addr) : Prop where
 x1 : x ≠ ac
 x2 : x ≠ ad
 x3 : x ≠ ll
 f1 : fd ≠ ac
 f2 : fd ≠ ad
 f3 : fd ≠ ll
 l1 : ll ≠ ac
 l2 : ll ≠ ad
theorem FS.apart (X : FS h x fd ac ad ll mx spl lines ps sz) : FS.Apart h x fd ac ad ll := by
 obtain ⟨⟨e, cl, ws, t1, t2, t3, t4, o, es, ep, e2, d, sk, f⟩, ⟨its, ⟨⟨n, e3⟩, o4, hs, tk, t, m, e4, d4⟩, hp⟩, ls⟩ := X
 obtain ⟨_, _, nt, e5, sl⟩ := VD.listR ls
 refine ⟨fun q => ?_, fun q => ?_, fun q => ?_, fun q => ?_, fun q => ?_, fun q => ?_, fun q => ?_, fun q => ?_⟩ <;> subst q
 ·rw [e] at e3; simp at e3
 ·rw [e] at e4; cases e4; cases d4
 ·rw [e] at e5; simp at e5
 ·rw [e2] at e3; cases e3; cases d
 ·rw [e2] at e4; cases e4
  rw [d] at d4
  cases d4
  have := f "_lines"
  have h1 : (Value.str (Str.ofString "_initial_size") tk).isStr (Str.ofString "_lines") = false := by
   show (Str.ofString "_initial_size" == Str.ofString "_lines") = false
   decide
  have h2 : fmM mx cl ws spl ac ll t1 t2 t3 t4 (Str.ofString "_lines") = some (.ref ll) := rfl
  rw [h2] at this
  simp [nsFind, findBy, h1] at this
 ·rw [e2] at e5; cases e5; cases d
 ·rw [e3] at e5; simp at e5
 ·rw [e4] at e5; cases e5; cases d4
theorem FS.acc (X : FS h x fd ac ad ll mx spl lines ps sz) (hb : Big h) (k : KB [ac, ad] h h') (fa : FA h' ac ad ps' sz') : FS h' x fd ac ad ll mx spl lines ps' sz' := by
 have q := X.apart
 refine ⟨X.fm.kb hb k ?_ ?_, fa, vd_lines_kb X.ls k ?_⟩ <;> simp [q.x1, q.x2, q.f1, q.f2, q.l1, q.l2]
theorem LV.acc {h₀ : Heap} {F : Addr → Prop} {env : Env} {σ : List (Str × D)} {O : List Str} (lv : LV h₀ F env σ O h) (X : FA h ac ad ps sz) (hL : env.locals ≠ ad) (k : KB [ac, ad] h h') (hb : Big h') : LV h' (fun _ => False) env σ [] h' := by
 obtain ⟨its, ⟨⟨n, e3⟩, o4, hs, tk, t, m, e4, d4⟩, hp⟩ := X
 have hne : env.locals ≠ ac := fun q => by
  obtain ⟨m, o, es, ep, e, d, r⟩ := lv.ns
  rw [q, e3] at e; cases e; cases d
 refine lv.through k hb (fun c hc => ?_) fun y l a hy ay hc => ?_
 ·rcases List.mem_cons.mp hc with rfl | hc
  ·refine ⟨hne.symm, fun o e => ?_⟩
   rw [e3] at e; cases e
   exact ⟨.inl (by decide : Value.ref 178 ≠ .type "tuple"), (fun _ q => nomatch q), (fun v q => nomatch q)⟩
  ·obtain rfl := List.mem_singleton.mp hc
   refine ⟨hL.symm, fun o e => ?_⟩
   rw [e4] at e; cases e
   exact ⟨.inr fun _ _ q => (by rw [d4] at q; cases q), fun _ q => (by rw [d4] at q; cases q), fun v q => (by rw [d4] at q; cases q)⟩
 ·obtain ⟨vs, k, e⟩ := lv.own_at hy ay
  rcases List.mem_cons.mp hc with rfl | hc
  ·rw [e3] at e; simp at e
  ·obtain rfl := List.mem_singleton.mp hc
   rw [e4] at e; cases e; cases d4
theorem FS.kb (X : FS h x fd ac ad ll mx spl lines ps sz) (hb : Big h) (k : KB T h h') (h1 : ∀ c ∈ [x, fd, ac, ad, ll], c ∉ T) (hT : ∀ c ∈ T, ∀ o, h.get? c = some o → o.cls ≠ .type "tuple" ∨ ∀ vs n, o.data ≠ .seq vs n) : FS h' x fd ac ad ll mx spl lines ps sz :=
 ⟨X.fm.kb hb k (h1 _ (by simp)) (h1 _ (by simp)), X.fa.but hb k (h1 _ (by simp)) (h1 _ (by simp)) hT, vd_lines_kb X.ls k (h1 _ (by simp))⟩
theorem FS.more (X : FS h x fd ac ad ll mx spl lines ps sz) (hb : Big h) (sb : Heap.SameBut ll h h') (hl : VD h' (.ref ll) (.list (TL lines'))) : FS h' x fd ac ad ll mx spl lines' ps sz := by
 have q := X.apart
 have k : KB [ll] h h' := fun c o nc _ e => (sb.2 c (by simpa using nc)).trans e
 refine ⟨X.fm.kb hb k ?_ ?_, X.fa.but hb k ?_ ?_ (fun c hc o e => ?_), hl⟩
 ·simp [q.x3]
 ·simp [q.f3]
 ·simp [q.l1.symm]
 ·simp [q.l2.symm]
 ·obtain rfl := List.mem_singleton.mp hc
  have := X.ls
  obtain ⟨_, _, nt, e5, sl⟩ := VD.listR this
  rw [e] at e5; cases e5
  exact .inl (by show Value.type "list" ≠ .type "tuple"; decide)
noncomputable def FL (env : Env) (h : Heap) : Addr → Prop := fun c => (∃ o, h.get? c = some o) ∧ c ≠ env.locals
theorem LV.fix {h₀ : Heap} {F : Addr → Prop} {env : Env} {σ : List (Str × D)} {O : List Str} (lv : LV h₀ F env σ O h) (hc : ∀ y, env.kindOf y ≠ some .cell) : LV h (FL env h) env σ [] h :=
 LV.rebase (F := F) (h₀ := h₀) (lv.weaken (O' := []) (fun _ _ e => e) (fun _ _ q => nomatch q)) (fun _ _ _ e => e) (fun c f => f.1) (fun f => f.2 rfl) (fun y c q _ => absurd q (hc y)) (fun y a l q => nomatch q)
theorem LV.kbL {h₀ : Heap} {env : Env} {σ : List (Str × D)} {O : List Str} (lv : LV h₀ (FL env h₀) env σ O h) : KB [env.locals] h₀ h := fun c o nc _ e => lv.st c o ⟨⟨o, e⟩, by simpa using nc⟩ e
theorem LV.lo {h₀ : Heap} {F : Addr → Prop} {env : Env} {σ : List (Str × D)} {O : List Str} (lv : LV h₀ F env σ O h) : ∀ c ∈ [env.locals], ∀ o, h.get? c = some o → o.cls ≠ .type "tuple" ∨ ∀ vs n, o.data ≠ .seq vs n := fun c hc o e => by
 obtain rfl := List.mem_singleton.mp hc
 obtain ⟨m, o', es, ep, e', d, r⟩ := lv.ns
 rw [e] at e'; cases e'
 exact .inr fun vs n q => by rw [d] at q; cases q
end
noncomputable def Off (env : Env) (x fd ac ad ll : Addr) : Prop := ∀ c ∈ [x, fd, ac, ad, ll], c ∉ [env.locals]
theorem Off.ad {env : Env} {x fd ac ad ll : Addr} (h : Off env x fd ac ad ll) : env.locals ≠ ad := fun q => h ad (by simp) (by simp [q])
theorem Off.ac {env : Env} {x fd ac ad ll : Addr} (h : Off env x fd ac ad ll) : env.locals ≠ ac := fun q => h ac (by simp) (by simp [q])
theorem Off.ll {env : Env} {x fd ac ad ll : Addr} (h : Off env x fd ac ad ll) : env.locals ≠ ll := fun q => h ll (by simp) (by simp [q])
theorem FS.off {h : Heap} {x fd ac ad ll : Addr} {mx : Int} {spl : List Nat} {lines : List (List Nat)} {ps : List Piece} {sz : Int} {env : Env} (X : FS h x fd ac ad ll mx spl lines ps sz) (hL : env.locals = h.objs.size) : Off env x fd ac ad ll := by
 obtain ⟨⟨e, cl, ws, t1, t2, t3, t4, o, es, ep, e2, d, sk, f⟩, ⟨its, ⟨⟨n, e3⟩, o4, hs, tk, t, m, e4, d4⟩, hp⟩, ls⟩ := X
 obtain ⟨_, _, nt, e5, sl⟩ := VD.listR ls
 intro c hc q
 rw [List.mem_singleton.mp q, hL] at hc
 have no : ∀ {c : Addr} {o : Obj}, h.get? c = some o → h.objs.size ≠ c := fun e q => by rw [← q, fresh_size] at e; cases e
 simp only [List.mem_cons, List.not_mem_nil, or_false] at hc
 rcases hc with hc | hc | hc | hc | hc
 ·exact no e hc
 ·exact no e2 hc
 ·exact no e3 hc
 ·exact no e4 hc
 ·exact no e5 hc
theorem nocell_of {env : Env} (h : ∀ p ∈ env.scope.names, p.2 ≠ .cell) : ∀ y, env.kindOf y ≠ some .cell := fun y q => by
 have q : env.scope.names.lookup y = some .cell := q
 obtain ⟨l1, l2, e, _⟩ := List.lookup_eq_some_iff.mp q
 exact h (y, .cell) (by rw [e]; simp) rfl
theorem LV.clear {h₀ h : Heap} {F : Addr → Prop} {env : Env} {σ : List (Str × D)} {O : List Str} (lv : LV h₀ F env σ O h) : LV h (fun _ => False) env σ [] h :=
 LV.rebase (F := F) (h₀ := h₀) (lv.weaken (O' := []) (fun _ _ e => e) (fun _ _ q => nomatch q)) (fun _ _ f => f.elim) (fun _ f => f.elim) (fun f => f) (fun y c q _ f => f) (fun y a l q => nomatch q)
structure Mid (s s2 : Shared) (env : Env) (x fd ac ad ll : Addr) (mx : Int) (spl : List Nat) (lines : List (List Nat)) (ps : List Piece) (sz : Int) (σ : List (Str × D)) : Prop where
 rx : RX s s2
 kb : KB [ac, ad, ll] s.heap s2.heap
 big : Big s2.heap
 fs : FS s2.heap x fd ac ad ll mx spl lines ps sz
 lv : LV s2.heap (fun _ => False) env σ [] s2.heap
section
variable {s s2 s3 : Shared} {env : Env} {x fd ac ad ll : Addr} {mx : Int} {spl : List Nat} {lines lines' : List (List Nat)} {ps ps' : List Piece} {sz sz' : Int} {σ : List (Str × D)}
theorem Mid.grow (M : Mid s s2 env x fd ac ad ll mx spl lines ps sz σ) {h' : Heap} (tk : Nat) (k : s2.heap.StaysIn h') : Mid s { s2 with heap := h', toks := tk } env x fd ac ad ll mx spl lines ps sz σ :=
 ⟨M.rx.tr (RX.ht _ _ _), M.kb.tr (.of_stays k), M.big.up k, M.fs.keep k, (M.lv.keep k).now⟩
theorem Mid.toks (M : Mid s s2 env x fd ac ad ll mx spl lines ps sz σ) (tk : Nat) : Mid s { s2 with toks := tk } env x fd ac ad ll mx spl lines ps sz σ := M.grow tk (stays_refl _)
theorem Mid.turn (M : Mid s s2 env x fd ac ad ll mx spl lines ps sz σ) (hL : env.locals ≠ ad) (rx : RX s2 s3) (kb : KB [ac, ad] s2.heap s3.heap) (bg : Big s3.heap) (fa : FA s3.heap ac ad ps' sz') : Mid s s3 env x fd ac ad ll mx spl lines ps' sz' σ :=
 ⟨M.rx.tr rx, M.kb.tr (kb.le (by simp)), bg, M.fs.acc M.big kb fa, M.lv.acc M.fs.fa hL kb bg⟩
theorem Mid.weak (M : Mid s s2 env x fd ac ad ll mx spl lines ps sz σ) {σ' : List (Str × D)} (h : Sub σ' σ) : Mid s s2 env x fd ac ad ll mx spl lines ps sz σ' :=
 ⟨M.rx, M.kb, M.big, M.fs, M.lv.weaken h fun _ _ q => nomatch q⟩
theorem Mid.put (M : Mid s s2 env x fd ac ad ll mx spl lines ps sz σ) (hL : env.locals ≠ ll) (hσ : ∀ y l, σ.lookup y = some (.list l) → ¬ At s2.heap env y (.ref ll)) {h' : Heap} (tk : Nat) (sb : Heap.SameBut ll s2.heap h') (hl : VD h' (.ref ll) (.list (TL lines'))) : Mid s { s2 with heap := h', toks := tk } env x fd ac ad ll mx spl lines' ps sz σ := by
 obtain ⟨nn, vs, e5⟩ : ∃ n vs, s2.heap.get? ll = some ⟨.type "list", none, .seq vs n, #[]⟩ := by
  have := M.fs.ls
  obtain ⟨_, _, _, e, _⟩ := VD.listR this; exact ⟨_, _, e⟩
 have kb : KB [ll] s2.heap h' := fun c o nc _ e => (sb.2 c (by simpa using nc)).trans e
 have bg : Big h' := M.big.but (c := ll) (fun a o ne e => (sb.2 a ne).trans e) fun o vs e d => by rw [e5] at e; cases e; cases d
 refine ⟨M.rx.tr (RX.ht _ _ _), M.kb.tr (kb.le (by simp)), bg, M.fs.more M.big sb hl, M.lv.through kb bg (fun c hc => ?_) fun y l a hy ay hc => ?_⟩
 ·obtain rfl := List.mem_singleton.mp hc
  refine ⟨hL.symm, fun o e => ?_⟩
  rw [e5] at e; cases e
  exact ⟨.inl (by show Value.type "list" ≠ .type "tuple"; decide), (fun _ q => nomatch q), (fun v q => nomatch q)⟩
 ·rw [List.mem_singleton.mp hc] at ay
  exact hσ y l hy ay
end
section
variable {w : World} {A : Around} {E : Value → Shared → Prop} {s : Shared} {x fd ac ad ll : Addr} {mx : Int} {spl : List Nat} {lines : List (List Nat)} {ps : List Piece} {sz : Int} {n : Nat} {b : Heap} {env : Env} {h₀ : Heap} {F : Addr → Prop} {σ : List (Str × D)} {O : List Str} {Q : Value → Shared → Prop} {p1 p2 : Pos}
theorem fm_cur {expr : Bool} (K : (hd.heap_1 w.params).In s.heap) (X : Fm s.heap x fd ac ll mx spl) (h : ∀ tk, Q (.ref ac) { s with toks := tk }) : wpAny (model PW w) A (getAttr (.ref x) (Str.ofString "_current_line") expr) Q E s := by
 obtain ⟨e, cl, ws, t1, t2, t3, t4, n⟩ := X
 exact fm_get K e n fmN.2.2.2.2.2 rfl rfl (h _)
theorem fm_lin {expr : Bool} (K : (hd.heap_1 w.params).In s.heap) (X : Fm s.heap x fd ac ll mx spl) (h : ∀ tk, Q (.ref ll) { s with toks := tk }) : wpAny (model PW w) A (getAttr (.ref x) (Str.ofString "_lines") expr) Q E s := by
 obtain ⟨e, cl, ws, t1, t2, t3, t4, n⟩ := X
 exact fm_get K e n fmN.2.2.2.2.1 rfl rfl (h _)
theorem fm_max {expr : Bool} (K : (hd.heap_1 w.params).In s.heap) (X : Fm s.heap x fd ac ll mx spl) (h : ∀ t tk, Q (.int mx t) { s with toks := tk }) : wpAny (model PW w) A (getAttr (.ref x) (Str.ofString "_maxlen") expr) Q E s := by
 obtain ⟨e, cl, ws, t1, t2, t3, t4, n⟩ := X
 exact fm_get K e n fmN.1 rfl rfl (h _ _)
theorem fm_spl {expr : Bool} (K : (hd.heap_1 w.params).In s.heap) (X : Fm s.heap x fd ac ll mx spl) (h : ∀ t tk, Q (.str (S spl) t) { s with toks := tk }) : wpAny (model PW w) A (getAttr (.ref x) (Str.ofString "_splitchars") expr) Q E s := by
 obtain ⟨e, cl, ws, t1, t2, t3, t4, n⟩ := X
 exact fm_get K e n fmN.2.2.2.1 rfl rfl (h _ _)
theorem cur_line (K : (hd.heap_1 w.params).In s.heap) (fe : Fe env) (lv : LV h₀ F env σ O s.heap) (hx : σ.lookup (Str.ofString "self") = some (.con (.ref x))) (X : Fm s.heap x fd ac ll mx spl) (h : ∀ tk, Q (.ref ac) { s with toks := tk }) :
  wpAny (model PW w) A (eval (.Attribute (.Name (Str.ofString "self") p1) (Str.ofString "_current_line") p2) env) Q E s :=
 Attribute_name (name_at fe lv hx (fun v av vd => by obtain rfl := VD.conE vd; exact fm_cur K X h))
theorem the_lines (K : (hd.heap_1 w.params).In s.heap) (fe : Fe env) (lv : LV h₀ F env σ O s.heap) (hx : σ.lookup (Str.ofString "self") = some (.con (.ref x))) (X : Fm s.heap x fd ac ll mx spl) (h : ∀ tk, Q (.ref ll) { s with toks := tk }) :
  wpAny (model PW w) A (eval (.Attribute (.Name (Str.ofString "self") p1) (Str.ofString "_lines") p2) env) Q E s :=
 Attribute_name (name_at fe lv hx (fun v av vd => by obtain rfl := VD.conE vd; exact fm_lin K X h))
theorem cur_call {name : Str} {p3 pos : Pos} {es : List Expr} {f : Addr} (K : (hd.heap_1 w.params).In s.heap) (fe : Fe env) (lv : LV h₀ F env σ O s.heap) (hx : σ.lookup (Str.ofString "self") = some (.con (.ref x))) (X : FS s.heap x fd ac ad ll mx spl lines ps sz)
  (hf : findIn (hd.heap_1 w.params) (.ref 178) name = some (some (.ref f))) (ht : typeIn (hd.heap_1 w.params) (.ref f) = some (.type "function")) (hn : name ≠ "_initial_size")
  (hb : attributeBase (.Attribute (.Name (Str.ofString "self") p1) (Str.ofString "_current_line") p2) name env (eval (.Attribute (.Name (Str.ofString "self") p1) (Str.ofString "_current_line") p2) env) = eval (.Attribute (.Name (Str.ofString "self") p1) (Str.ofString "_current_line") p2) env)
  (he : ∃ pl, eval (.Call (.Attribute (.Attribute (.Name (Str.ofString "self") p1) (Str.ofString "_current_line") p2) name p3) es [] pos) env = (do
   let ov ← attributeBase (.Attribute (.Name (Str.ofString "self") p1) (Str.ofString "_current_line") p2) name env (eval (.Attribute (.Name (Str.ofString "self") p1) (Str.ofString "_current_line") p2) env)
   standAt p3.atName
   let (f, first) ← holding [ov] (getMethod ov name pl)
   callWith pos f first (backTo pos (starEach es env)) []))
  (h : ∀ tk, wpAny (model PW w) A (callWith pos (.ref f) [.ref ac] (backTo pos (starEach es env)) []) Q E { s with toks := tk }) :
  wpAny (model PW w) A (eval (.Call (.Attribute (.Attribute (.Name (Str.ofString "self") p1) (Str.ofString "_current_line") p2) name p3) es [] pos) env) Q E s := by
 obtain ⟨pl, he⟩ := he
 refine wpAny_at0 fun c => ks_wpAt_MethodCall (pl := pl) (PySem.wpAt_of_wpAny ?_) he
 rw [hb]
 refine cur_line K fe lv hx X.fm fun tk => ?_
 obtain ⟨its, XA, hp⟩ := X.fa
 exact acc_method (s := { s with toks := tk }) K XA hf (looks_typeIn K ht) (.inl rfl) hn (h tk)
end
theorem keepF {w : World} : keepIn (hd.heap_1 w.params) (.ref 122) = true ∧ keepIn (hd.heap_1 w.params) (.ref 130) = true ∧ keepIn (hd.heap_1 w.params) (.ref 138) = true ∧ keepIn (hd.heap_1 w.params) (.ref 160) = true ∧ keepIn (hd.heap_1 w.params) (.ref 167) = true ∧ keepIn (hd.heap_1 w.params) (.ref 175) = true
  ∧ keepIn (hd.heap_1 w.params) (.ref 56) = true ∧ keepIn (hd.heap_1 w.params) (.ref 91) = true ∧ keepIn (hd.heap_1 w.params) (.ref 42) = true := by
 have hh := Eq.refl (PySem.Challenge.rw_xl0021_01, hd.heap_1)
 revert hh
 k_fill
 intro _
 have e1 : keepIn (hd.heap_1 w.params) (.ref 122) = true := by k_is
 have e2 : keepIn (hd.heap_1 w.params) (.ref 130) = true := by k_is
 have e3 : keepIn (hd.heap_1 w.params) (.ref 138) = true := by k_is
 have e4 : keepIn (hd.heap_1 w.params) (.ref 160) = true := by k_is
 have e5 : keepIn (hd.heap_1 w.params) (.ref 167) = true := by k_is
 have e6 : keepIn (hd.heap_1 w.params) (.ref 175) = true := by k_is
 have e7 : keepIn (hd.heap_1 w.params) (.ref 56) = true := by k_is
 have e8 : keepIn (hd.heap_1 w.params) (.ref 91) = true := by k_is
 have e9 : keepIn (hd.heap_1 w.params) (.ref 42) = true := by k_is
 exact ⟨e1, e2, e3, e4, e5, e6, e7, e8, e9⟩
mutual
inductive PL : D → Prop where
 | none : PL .none
 | bool (b : Bool) : PL (.bool b)
 | int (i : Int) : PL (.int i)
 | str (x : Str) : PL (.str x)
 | list {l : List D} : PLs l → PL (.list l)
 | tuple {l : List D} : PLs l → PL (.tuple l)
inductive PLs : List D → Prop where
 | nil : PLs []
 | cons {d : D} {l : List D} : PL d → PLs l → PLs (d :: l)
end
mutual
noncomputable def toP : D → PyData
 | .none => .none
 | .bool b => .bool b
 | .int i => .int i
 | .str x => .str x
 | .list l => .list (toPs l)
 | .tuple l => .tuple (toPs l)
 | .con _ => .none
 | .range _ _ _ => .none
noncomputable def toPs : List D → List PyData
 | [] => []
 | d :: l => toP d :: toPs l
end
theorem reads_vd {h : Heap} {v : Value} {d : D} (x : VD h v d) : PL d → ∃ as, Reads h v (toP d) as :=
 VD.rec (motive_1 := fun v d _ => PL d → ∃ as, Reads h v (toP d) as) (motive_2 := fun vs ds _ => PLs ds → ∃ as, ReadsAll h vs (toPs ds) as) (fun _ => ⟨_, .none⟩) (fun b _ => ⟨_, .bool b⟩) (fun i t _ => ⟨_, .int i t⟩) (fun x t _ => ⟨_, .str x t⟩) (fun _ p => nomatch p) (fun _ _ p => nomatch p)
  (fun _ e _ ih p => by obtain ⟨as, r⟩ := ih (by cases p; assumption); exact ⟨_, .list e rfl rfl (by simpa using r)⟩)
  (fun _ e _ ih p => by obtain ⟨as, r⟩ := ih (by cases p; assumption); exact ⟨_, .tuple e rfl rfl (by simpa using r)⟩) (fun _ => ⟨_, .nil⟩)
  (fun _ _ ia ir p => by
   cases p with
   | cons b c =>
    obtain ⟨as, x⟩ := ia b
    obtain ⟨bs, y⟩ := ir c
    exact ⟨_, .cons x y⟩) x
theorem cmp_neD {w : World} {n : Nat} {h : Heap} {a b : D} (pa : PL a) (pb : PL b) (sa : SeqAt.shaped (toP a) = true) (sb : SeqAt.shaped (toP b) = true) : Cmp w n h .NotEq a b (!PyData.eqv (toP a) (toP b)) := fun A E s Q u v ok st hu hv hQ => by
 obtain ⟨as, ra⟩ := reads_vd hu pa
 obtain ⟨bs, rb⟩ := reads_vd hv pb
 have := ok.un
 exact ne_dataH ra rb sa sb (by show A.units + 64 < 9900; omega) (hQ _ _ (stays_refl _))
theorem cmp_eqD {w : World} {n : Nat} {h : Heap} {a b : D} (pa : PL a) (pb : PL b) (sa : SeqAt.shaped (toP a) = true) (sb : SeqAt.shaped (toP b) = true) : Cmp w n h .Eq a b (PyData.eqv (toP a) (toP b)) := fun A E s Q u v ok st hu hv hQ => by
 obtain ⟨as, ra⟩ := reads_vd hu pa
 obtain ⟨bs, rb⟩ := reads_vd hv pb
 have := ok.un
 exact eq_dataH ra rb sa sb (by show A.units + 64 < 9900; omega) (hQ _ _ (stays_refl _))
theorem toPs_texts : ∀ l : List (List Nat), toPs (TL l) = l.map fun x => PyData.str (S x)
 | [] => rfl
 | x :: l => by show toP _ :: toPs (TL l) = _; rw [toPs_texts l]; rfl
theorem pls_texts : ∀ l : List (List Nat), PLs (TL l)
 | [] => .nil
 | x :: l => .cons (.str _) (pls_texts l)
theorem eqv_texts : ∀ l m : List (List Nat), PyData.eqvAll (toPs (TL l)) (toPs (TL m)) = decide (l = m)
 | [], [] => rfl
 | [], _ :: _ => rfl
 | _ :: _, [] => rfl
 | x :: l, y :: m => by
  have e : PyData.eqvAll (toPs (TL (x :: l))) (toPs (TL (y :: m))) = (S x == S y && PyData.eqvAll (toPs (TL l)) (toPs (TL m))) := rfl
  rw [e, eqv_texts l m, S_beq]
  by_cases h1 : x = y <;> by_cases h2 : l = m <;> simp [h1, h2]
noncomputable def Asc (x : List Nat) : Prop := ∀ c ∈ x, c < 1000
theorem strOk_of {x : List Nat} (h : Asc x) : PyData.strOk (S x) = true := by
 show (x.toArray).all _ = true
 rw [Array.all_eq_true']
 intro c hc
 have := h c (by simpa using hc)
 simp; omega
theorem shaped_texts {l : List (List Nat)} (h : ∀ x ∈ l, Asc x) : SeqAt.shaped (toP (.list (TL l))) = true := by
 have key : ∀ l : List (List Nat), (∀ x ∈ l, Asc x) → PyData.canLayAll0 (toPs (TL l)) = true ∧ PyData.depthAll (toPs (TL l)) = 0 := by
  intro l
  induction l with
  | nil => intro _; exact ⟨rfl, rfl⟩
  | cons x l ih =>
   intro h
   have ih := ih fun y hy => h y (.tail _ hy)
   constructor
   ·show PyData.canLayAll0 (toP (.str (S x)) :: toPs (TL l)) = true
    simp [toP, PyData.canLayAll0, PyData.canLay0, ih.1, strOk_of (h x (.head _))]
   ·show PyData.depthAll (toP (.str (S x)) :: toPs (TL l)) = 0
    simp [toP, PyData.depthAll, PyData.depth, ih.2]
 show SeqAt.shaped (.list (toPs (TL l))) = true
 simp [SeqAt.shaped, PyData.canLay0, PyData.depth, key l h]
theorem star_tuple {w : World} {A : Around} {E : Value → Shared → Prop} {s : Shared} {a : Addr} {n : Nat} {vs : List Value} {Q : List Value → Shared → Prop} (e : s.heap.get? a = some ⟨.type "tuple", none, .seq vs.toArray n, #[]⟩) (hz : vs.length < 1000)
  (h : ∀ h', s.heap.StaysIn h' → Q vs { s with heap := h' }) : StarOf (model PW w) A E (.ref a) Q s := by
 have hT : s.TypeIs (.ref a) "tuple" := ⟨_, e, rfl⟩
 unfold StarOf notIterableAtAll
 refine wpAny_bind (wpAny_specialOf hT PySem.F.slot_tuple_iter.lookup (wpAny_pure ⟨rfl, ?_⟩))
 have z := sizeLine_eq
 exact wpAny_collect_seq a (.inr rfl) e rfl rfl (fun h' hk => h h' hk) (by rw [List.size_toArray]; omega)
end Mine
-- MF25
namespace Mine
noncomputable def nlP (ps : List Piece) : List Piece := if ps.getLast?.getD ([], []) = ([32], []) then ps.dropLast else ps.dropLast ++ [ps.getLast?.getD ([], [])]
noncomputable def SP (ps : List Piece) : Prop := ps.length < 800 ∧ ∀ p ∈ ps, p.1.length + p.2.length < 900 ∧ Asc p.1 ∧ Asc p.2
theorem SP.drop {ps : List Piece} (h : SP ps) : SP ps.dropLast := ⟨by rw [List.length_dropLast]; have := h.1; omega, fun p hp => h.2 p (List.dropLast_subset _ hp)⟩
theorem SP.last {ps : List Piece} (h : SP ps) : (ps.getLast?.getD ([], [])).1.length + (ps.getLast?.getD ([], [])).2.length < 900 ∧ Asc (ps.getLast?.getD ([], [])).1 ∧ Asc (ps.getLast?.getD ([], [])).2 := by
 cases e : ps.getLast? with
 | none => exact ⟨by decide, (fun c hc => nomatch hc), (fun c hc => nomatch hc)⟩
 | some p => exact h.2 p (List.mem_of_getLast? e)
theorem SP.nl {ps : List Piece} (h : SP ps) : (nlP ps).length < 801 ∧ ∀ p ∈ nlP ps, p.1.length + p.2.length < 900 ∧ Asc p.1 ∧ Asc p.2 := by
 unfold nlP
 split
 ·exact ⟨by have := h.drop.1; omega, h.drop.2⟩
 ·refine ⟨by rw [List.length_append]; have := h.drop.1; simp only [List.length_singleton]; omega, fun p hp => ?_⟩
  rcases List.mem_append.mp hp with hp | hp
  ·exact h.drop.2 p hp
  ·rw [List.mem_singleton.mp hp]; exact h.last
theorem pl_PD (p : Piece) : PL (PD p) := .tuple (.cons (.str _) (.cons (.str _) .nil))
theorem shaped_PD {p : Piece} (h1 : Asc p.1) (h2 : Asc p.2) : SeqAt.shaped (toP (PD p)) = true := by
 show SeqAt.shaped (.tuple [.str (S p.1), .str (S p.2)]) = true
 simp [SeqAt.shaped, PyData.canLay0, PyData.canLayAll0, PyData.depth, PyData.depthAll, strOk_of h1, strOk_of h2]
theorem eqv_PD (p q : Piece) : PyData.eqv (toP (PD p)) (toP (PD q)) = decide (p = q) := by
 obtain ⟨a, b⟩ := p
 obtain ⟨c, d⟩ := q
 show (S a == S c && (S b == S d && true)) = _
 rw [S_beq, S_beq]
 by_cases h1 : a = c <;> by_cases h2 : b = d <;> simp [h1, h2]
theorem asc_nil : Asc [] := fun c hc => nomatch hc
theorem asc_one {c : Nat} (h : c < 1000) : Asc [c] := fun d hd => by rw [List.mem_singleton.mp hd]; exact h
theorem txt_blank : (Str.ofString " ").cps.toList = [32] := by decide +kernel
theorem txt_none : (Str.ofString "").cps.toList = [] := by decide +kernel
theorem pushB {w : World} : hasDictIn (hd.heap_1 w.params) 178 = true ∧ specialIn (hd.heap_1 w.params) (.ref 122) "__get__" = some (some (.builtin "function.__get__")) ∧ takesIn (hd.heap_1 w.params) (.ref 122) = some false ∧ fnIn (hd.heap_1 w.params) 122 = true := by
 have hh := Eq.refl (PySem.Challenge.rw_xl0021_01, hd.heap_1)
 revert hh
 k_fill
 intro _
 have e1 : hasDictIn (hd.heap_1 w.params) 178 = true := by k_is
 have e2 : specialIn (hd.heap_1 w.params) (.ref 122) "__get__" = some (some (.builtin "function.__get__")) := by k_is
 have e3 : takesIn (hd.heap_1 w.params) (.ref 122) = some false := by k_is
 have e4 : fnIn (hd.heap_1 w.params) 122 = true := by k_is
 exact ⟨e1, e2, e3, e4⟩
section
variable {w : World} {A : Around} {E : Value → Shared → Prop} {s : Shared} {ac ad : Addr} {its : Array Value} {sz : Int}
theorem acc_bound {expr : Bool} {Q : Value → Shared → Prop} (K : (hd.heap_1 w.params).In s.heap) (X : Acc s.heap ac ad its sz) (h : ∀ q h' tk, s.heap.StaysIn h' → h'.get? q = some (methodObj (.ref 122) (.ref ac)) → Q (.ref q) { s with heap := h', toks := tk }) : wpAny (model PW w) A (getAttr (.ref ac) (Str.ofString "push") expr) Q E s := by
 obtain ⟨ox, od, I, hd', t, hl⟩ := acc_inst X
 have hf := findObj_fn (K := hd.heap_1 w.params) (g := .builtin "function.__get__") (pushB (w := w)).1 accF.1.1 pushB.2.1 pushB.2.2.1 (by decide +kernel) (hl "push")
 refine wpAny_bind (wpAny_mkText (wpAny_holding (wpAny_bind ((acc_type X) _ _ _ _ (fun _ _ e => e) (wpAny_bind (looks_findIn K accK.1 _ _ _ _ (fun _ _ e => e) ?_))))))
 dsimp only
 rw [show (onTheHeap (Value.ref 178) && Value.builtin "list.__getattribute__" == Value.builtin "object.__getattribute__") = false from by rw [show (Value.builtin "list.__getattribute__" == Value.builtin "object.__getattribute__") = false from by decide +kernel, Bool.and_false], if_neg (by decide)]
 refine wpAny_bind ((looks_hook (mc := .ref 178) (r := none) K (by rw [show onTheHeap (Value.ref 178) = true from rfl, if_pos rfl]; exact accK.2.1)) _ _ _ _ (fun _ _ e => e) (wpAny_bind (wpAny_attempt (wpAny_holding ?_))))
 unfold callGetattribute
 rw [show (expr && onTheHeap (Value.builtin "list.__getattribute__")) = false from Bool.and_false _, if_neg (by decide)]
 unfold boundAndCalled
 rw [PySem.F.slot_list_getattribute.bind]
 refine wpAny_bind (wpAny_pure ?_)
 show wpAny _ _ (call (.builtin "list.__getattribute__") [.ref ac, .str (Str.ofString "push") s.toks]) _ _ _
 refine acc_call (s := { s with toks := s.toks + 1 }) (nm := "__getattribute__") K X (.inr (by decide +kernel)) (by decide +kernel) PySem.F.slot_list_getattribute.plain PySem.am_entry_list_getattribute (PySem.F.args_list_getattribute_2 _ _) ?_
 refine wpAny_bind (wpAny_pure (wpAny_bind (wpAny_pure (wpAny_bind ((acc_type X) _ _ _ _ (fun _ _ e => e) (wpAny_bind ((looks_find K I hf) _ _ _ _ (fun _ _ e => e) ?_)))))))
 dsimp only
 unfold Builtin.ObjectAttr.bindTo
 refine wpAny_bind (wpAny_holding (wpAny_call (fn_get (s := { s with toks := s.toks + 1 }) K accF.2.1 ?_)))
 refine wpAny_pure ⟨_, rfl, ?_⟩
 show wpAny _ _ (handedOut _) _ _ _
 rw [handedOut_of rfl]
 exact wpAny_pure (h _ _ _ (stays_push _ _) (get_push _ _))
theorem push_star {x fd ll : Addr} {mx : Int} {spl : List Nat} {lines : List (List Nat)} {ps : List Piece} {env : Env} {h₀ : Heap} {F : Addr → Prop} {σ : List (Str × D)} {O : List Str} {Q : Value → Shared → Prop} {p1 p2 p3 p4 pos : Pos} {e : Expr}
  (K : (hd.heap_1 w.params).In s.heap) (fe : Fe env) (lv : LV h₀ F env σ O s.heap) (hx : σ.lookup (Str.ofString "self") = some (.con (.ref x))) (X : FS s.heap x fd ac ad ll mx spl lines ps sz)
  (h : ∀ q h' tk, s.heap.StaysIn h' → h'.get? q = some (methodObj (.ref 122) (.ref ac)) → wpAny (model PW w) A (eval e env) (fun v s₁ => StarOf (model PW w) A E v (fun vs s₂ => MethP (hd.heap_1 w.params) q 122 (.ref ac) s₂.heap ∧ codeAny (model PW w) A (.call (.ref 122) ⟨.ref ac :: vs, []⟩) (fun r s' => match r with | .ok (.ret v) => Q v s' | .ok _ => False | .error e => E e s') s₂) s₁) E { s with heap := h', toks := tk }) :
  wpAny (model PW w) A (eval (.Call (.Attribute (.Attribute (.Name (Str.ofString "self") p1) (Str.ofString "_current_line") p2) (Str.ofString "push") p3) [.Starred e p4] [] pos) env) Q E s := by
 rw [arm_eval_Call]
 refine wpAny_bind (cur_line K fe lv hx X.fm fun tk => wpAny_bind (wpAny_standAt ?_))
 unfold methodCall
 have hf : methodCallForm ([.Starred e p4] : List Expr).length (backTo pos (starEach [.Starred e p4] env)) (backToKw pos (keywordEach [] env)) = false := rfl
 show wpAny _ _ (holding [.ref ac] (calleeOf (methodCallForm ([.Starred e p4] : List Expr).length (backTo pos (starEach [.Starred e p4] env)) (backToKw pos (keywordEach [] env))) _ _ _ _) >>= _) _ _ _
 rw [hf]
 obtain ⟨its, XA, hp⟩ := X.fa
 refine wpAny_bind (wpAny_holding (wpAny_bind (acc_bound (s := { s with toks := tk }) K XA fun q h' tk' k hq => wpAny_pure ?_)))
 refine wpAny_bind ?_
 unfold methodCallPos
 show wpAny _ _ (if (!false || _) = true then pure pos else _) _ _ _
 rw [if_pos (by simp)]
 refine wpAny_pure ?_
 have z := h q h' tk' k hq
 refine ks_call (P := fun h => MethP (hd.heap_1 w.params) q 122 (.ref ac) h) rfl (keeps_M pushB.2.2.2) (ks_lone (wpAny_mono z (fun v s₁ z₁ => ?_) fun _ _ e => e))
 unfold StarOf at z₁ ⊢
 refine wpAny_mono z₁ (fun bb s₂ z₂ => ⟨z₂.1, wpAny_mono z₂.2 (fun vs s₃ z₃ => ⟨z₃.1, ?_⟩) fun _ _ e => e⟩) fun _ _ e => e
 exact wpAny_call (method_call z₃.1.1 z₃.2)
end
section
variable {w : World} {A : Around} {E : Value → Shared → Prop} {s : Shared} {x fd ac ad ll : Addr} {mx : Int} {spl : List Nat} {lines : List (List Nat)} {ps : List Piece} {sz : Int} {n : Nat} {b : Heap}
end
namespace Kfmnewline
noncomputable def Claim0 (w : World) (A : Around) (E : Value → Shared → Prop) (s : Shared) (x : Addr) (fd : Addr) (ac : Addr) (ad : Addr) (ll : Addr) (mx : Int) (spl : List Nat) (lines : List (List Nat)) (ps : List Piece) (sz : Int) (b : Heap) (Q : Value → Shared → Prop) : Prop :=
 ∀ (G : Gr w b) (bs : b.StaysIn s.heap) (hb0 : b.get? 140 = none ∧ b.get? 147 = none) (hbT : ∀ c ∈ [ac, ad, ll], b.get? c = none) (hbig : Big s.heap) (ok : Ok 12 A) (X : FS s.heap x fd ac ad ll mx spl lines ps sz) (hac : ac ≠ 178) (hsz : 0 ≤ sz) (hsz' : sz < 100000) (hp : SP ps) (hl : lines.length < 1000) (hno : sz = 0 → lenP (nlP ps) ≠ 0 → Txt.isspace (S (textP (nlP ps))) = false) (hQ : ∀ s', RX s s' → KB [ac, ad, ll] s.heap s'.heap → Big s'.heap → FS s'.heap x fd ac ad ll mx spl (if 0 < sz + lenP (nlP ps) then lines ++ [textP (nlP ps)] else lines) [] 0 → Q .none s'), wpAny (model PW w) A (call (.ref 56) [.ref x]) Q E s
noncomputable abbrev Ty0 := (World) × (Around) × (Value → Shared → Prop) × (Shared) × (Addr) × (Addr) × (Addr) × (Addr) × (Addr) × (Int) × (List Nat) × (List (List Nat)) × (List Piece) × (Int) × (Heap) × (Value → Shared → Prop)
noncomputable def C0 (p : Ty0) : Prop := Claim0 p.1 p.2.1 p.2.2.1 p.2.2.2.1 p.2.2.2.2.1 p.2.2.2.2.2.1 p.2.2.2.2.2.2.1 p.2.2.2.2.2.2.2.1 p.2.2.2.2.2.2.2.2.1 p.2.2.2.2.2.2.2.2.2.1 p.2.2.2.2.2.2.2.2.2.2.1 p.2.2.2.2.2.2.2.2.2.2.2.1 p.2.2.2.2.2.2.2.2.2.2.2.2.1 p.2.2.2.2.2.2.2.2.2.2.2.2.2.1 p.2.2.2.2.2.2.2.2.2.2.2.2.2.2.1 p.2.2.2.2.2.2.2.2.2.2.2.2.2.2.2
noncomputable def eps0 : Ty0 := @Classical.epsilon Ty0 ⟨(aWorld 1, ({} : Around), (fun _ _ => True), ({} : Shared), (default : Addr), (default : Addr), (default : Addr), (default : Addr), (default : Addr), (default : Int), (default : List Nat), (default : List (List Nat)), (default : List Piece), (default : Int), (default : Heap), (fun _ _ => True))⟩ (fun p => ¬ C0 p)
noncomputable def w := eps0.1
noncomputable def A := eps0.2.1
noncomputable def E := eps0.2.2.1
noncomputable def s := eps0.2.2.2.1
noncomputable def x := eps0.2.2.2.2.1
noncomputable def fd := eps0.2.2.2.2.2.1
noncomputable def ac := eps0.2.2.2.2.2.2.1
noncomputable def ad := eps0.2.2.2.2.2.2.2.1
noncomputable def ll := eps0.2.2.2.2.2.2.2.2.1
noncomputable def mx := eps0.2.2.2.2.2.2.2.2.2.1
noncomputable def spl := eps0.2.2.2.2.2.2.2.2.2.2.1
noncomputable def lines := eps0.2.2.2.2.2.2.2.2.2.2.2.1
noncomputable def ps := eps0.2.2.2.2.2.2.2.2.2.2.2.2.1
noncomputable def sz := eps0.2.2.2.2.2.2.2.2.2.2.2.2.2.1
noncomputable def b := eps0.2.2.2.2.2.2.2.2.2.2.2.2.2.2.1
noncomputable def Q := eps0.2.2.2.2.2.2.2.2.2.2.2.2.2.2.2
set_option maxHeartbeats 8000000 in
theorem main0 : Claim0 w A E s x fd ac ad ll mx spl lines ps sz b Q := by
 intro G bs hb0 hbT hbig ok X hac hsz hsz' hp hl hno hQ
 have hh := Eq.refl (PySem.Challenge.rw_xl0021_01, hd.heap_1)
 revert hh
 k_fill
 intro _
 refine' wpAny_call (enter (n := 11) (names := [Str.ofString "self"]) (vs := [.ref x]) (ds := [.con (.ref x)]) _ G bs hbig ok ?k1 ?k2 ?k3 rfl (.cons (.con _) .nil) (by decide) ?k4 ?k5 ?k6 ?k7 ?k8 ?k9 ?k10 ?k11)
 case k1 => k_is
 case k2 => k_is
 case k3 => exact BindsTo.of_eq rfl
 case k4 => decide
 case k5 => intro d hd; simp at hd; subst hd; exact .inr ⟨_, rfl⟩
 case k6 => exact one_none (by intro d hd l q; subst q; simp at hd)
 case k7 => decide
 case k9 => rfl
 case k10 => rfl
 case k11 => rfl
 case k8 =>
  intro h₁ tk fe kp lv
  refine PySem.wpAt_of_wpAny ?_
  generalize hEnv : envX (Str.ofString "_ValueFormatter.newline") _ _ _ _ _ = env at *
  have nc : ∀ y, env.kindOf y ≠ some .cell := nocell_of (by rw [← hEnv]; dsimp only [envX]; decide)
  have off : Off env x fd ac ad ll := X.off (by rw [← hEnv])
  have ks : env.kindOf (Str.ofString "end_of_line") = some .local := by rw [← hEnv]; rfl
  obtain ⟨ve, hve⟩ : ∃ p : Piece, p = ps.getLast?.getD ([], []) := ⟨_, rfl⟩
  have bsK : ∀ {s' : Shared}, KB [ac, ad, ll] s.heap s'.heap → b.StaysIn s'.heap := fun k => base_kb hb0 hbT bs k
  have KK : ∀ {s' : Shared}, KB [ac, ad, ll] s.heap s'.heap → (hd.heap_1 w.params).In s'.heap := fun k a o e => bsK k a o (G.k a o e)
  have tac : ∀ c ∈ [ac], c ∈ [ac, ad] := by simp
  have tad : ∀ c ∈ [ac, ad], c ∈ [ac, ad, ll] := by simp
  refine wpAny_execs_cons (wpAny_mono (Q := fun f s2 => f = .next ∧ Mid s s2 env x fd ac ad ll mx spl lines ps.dropLast sz [(Str.ofString "end_of_line", PD ve), (Str.ofString "self", .con (.ref x))]) ?_ (fun f s2 h2 => ?_) fun _ _ e => e)
  ·refine wpAny_Assign_Name ?_ rfl
   refine cur_call (s := { s with heap := h₁, toks := tk }) (KK (.of_stays kp)) fe lv rfl (X.keep kp) accF.1.2.2.1 accF.2.2.2.1 (by decide) rfl ⟨_, rfl⟩ fun tk1 => ?_
   refine callWith_K0 (s := { s with heap := h₁, toks := tk1 }) (KK (s' := { s with heap := h₁ }) (.of_stays kp)) keepF.2.2.1 ?_
   refine acc_pop (s := { s with heap := h₁, toks := tk1 }) G (bsK (s' := { s with heap := h₁ }) (.of_stays kp)) lv.big (ok.deeper.le (by omega)) (X.keep kp).fa hac (by have := hp.1; omega) fun v h2 t2 kx bg fa hv => ?_
   have k2 : KB [ac, ad] h₁ h2 := (KB.of_x kx).le tac
   have lv2 := (lv.acc (X.keep kp).fa (off.ad) k2 bg).fix nc
   have X2 := (X.keep kp).acc lv.big k2 fa
   refine store_low (s := { s with heap := h2, toks := t2 }) fe lv2 (.inl ks) hv (.tuple (.cons (.str _) (.cons (.str _) .nil))) fun h3 t3 kv lv3 => ?_
   have kl := lv3.kbL
   have kk : KB [ac, ad, ll] s.heap h3 := fun c o nc' nt e => by
    have e2 := ((KB.of_stays (T := [ac, ad, ll]) kp).tr (k2.le tad)) c o nc' nt e
    exact kl c o (fun q => by
     have := Heap.lt_size e
     rw [List.mem_singleton.mp q, ← hEnv] at this
     exact Nat.lt_irrefl _ this) nt e2
   refine ⟨rfl, RX.ht _ _ _, kk, lv3.big, X2.kb lv2.big kl off lv2.lo, ?_⟩
   rw [hve]
   exact (lv3.now).clear
  obtain ⟨rfl, M⟩ := h2
  clear lv kp
  have hla := hp.last
  refine wpAny_execs_cons (wpAny_mono (Q := fun f s3 => f = .next ∧ Mid s s3 env x fd ac ad ll mx spl lines (nlP ps) sz [(Str.ofString "self", .con (.ref x))]) ?_ (fun f s3 h3 => ?_) fun _ _ e => e)
  ·have okd : Ok 11 (A.deeper env) := ok.deeper
   refine wpAny_If (bv_cmp (ev_name fe M.lv rfl) (ev_eq (d' := PD ([32], [])) (ev_tuple (k := 0) M.big (av_two ev_strS ev_strS) (by rw [sizeLine_eq]; exact Nat.le_of_ble_eq_true rfl)) (by rw [txt_blank, txt_none])) (cmp_neD (pl_PD _) (pl_PD _) (shaped_PD (by rw [hve]; exact hla.2.1) (by rw [hve]; exact hla.2.2)) (shaped_PD (asc_one (by decide)) asc_nil)) (by with_unfolding_all rfl) _ _ _ _ okd (stays_refl _) fun h3 t3 k3 => ?_)
   rw [eqv_PD]
   have M3 := M.grow t3 k3
   by_cases q : ve = ([32], [])
   ·rw [decide_eq_true q, if_neg (by decide)]
    refine wpAny_execs_nil ⟨rfl, ?_⟩
    have e : nlP ps = ps.dropLast := by unfold nlP; rw [← hve, if_pos q]
    rw [e]
    exact M3.weak (sub_cons rfl sub_nil)
   ·rw [decide_eq_false q, if_pos (by decide)]
    have e : nlP ps = ps.dropLast ++ [ve] := by unfold nlP; rw [← hve, if_neg q]
    rw [e]
    refine wpAny_execs_cons (wpAny_Expr_any ?_ (by rw [← hEnv]; rfl) rfl)
    refine push_star (KK M3.kb) fe M3.lv rfl M3.fs fun qm h4 t4 k4 hqm => ?_
    have M4 := M3.grow t4 k4
    refine name_at fe M4.lv rfl fun v av hv => ?_
    obtain ⟨a, m, vs, rfl, nt, ea, sl⟩ := VD.tupleE hv
    have hsl := sl.length
    refine star_tuple ea (by rw [hsl]; simp) fun h5 k5 => ⟨⟨k5 _ _ hqm, KK (M4.grow t4 k5).kb⟩, ?_⟩
    have M5 := M4.grow t4 k5
    obtain ⟨_, _, rfl, a1, sl⟩ := VDs.consE sl
    obtain ⟨_, _, rfl, a2, sl⟩ := VDs.consE sl
    obtain rfl := VDs.nilE sl; obtain ⟨_, rfl⟩ := VD.strE a1; obtain ⟨_, rfl⟩ := VD.strE a2
    refine acc_pushC G (bsK M5.kb) M5.big (okd.le (by omega)) M5.fs.fa (by have := hp.drop.1; omega) fun h6 t6 kx bg fa => ?_
    refine wpAny_execs_nil ⟨rfl, ?_⟩
    exact (M5.turn off.ad (RX.ht _ _ _) ((KB.of_x kx).le tac) bg fa).weak (sub_cons rfl sub_nil)
  obtain ⟨rfl, M'⟩ := h3
  clear M
  have hnl := hp.nl
  have hpb : ∀ p ∈ nlP ps, p.1.length + p.2.length < 1000 := fun p h => Nat.lt_trans (hnl.2 p h).1 (by decide)
  have okd : Ok 11 (A.deeper env) := ok.deeper
  have glen : env.kindOf (Str.ofString "len") = some .globalImplicit := by rw [← hEnv]; rfl
  have gstr : env.kindOf (Str.ofString "str") = some .globalImplicit := by rw [← hEnv]; rfl
  refine wpAny_execs_cons (wpAny_mono (Q := fun f s4 => f = .next ∧ Mid s s4 env x fd ac ad ll mx spl (if 0 < sz + lenP (nlP ps) then lines ++ [textP (nlP ps)] else lines) (nlP ps) sz [(Str.ofString "self", .con (.ref x))]) ?_ (fun f s4 h4 => ?_) fun _ _ e => e)
  ·refine wpAny_If (PySem.wpAny_isTrue_Compare1 (wpAny_Call_Name_kw ?_) (by with_unfolding_all rfl))
   refine ev_builtin fe G (bsK M'.kb) g_len b_len (by decide) glen (by decide) _ _ s3 _ okd (stays_refl _) fun v h5 t5 k5 hv => ?_
   obtain rfl := VD.conE hv
   have M5 := M'.grow t5 k5
   refine callWith_builtin rfl (evalArgs_plain (spliced_cons (cur_line (KK M5.kb) fe M5.lv rfl M5.fs.fm fun tk6 => spliced_nil ?_)))
   have M6 := M5.toks tk6
   refine acc_lenB G (bsK M6.kb) hb0.1 M6.big (okd.le (by omega)) M6.fs.fa hsz hsz' (by have := hnl.1; omega) hpb fun t7 s7 x7 kt7 bg7 => ?_
   have M7 := M6.turn off.ad x7 (.of_t kt7) bg7 (M6.fs.fa.keepT M6.big kt7)
   refine wpAny_Constant_int (gt_int (wpAny_truthy_bool ?_))
   by_cases q : 0 < sz + lenP (nlP ps)
   ·rw [if_pos (decide_eq_true q), if_pos q]
    have M8 := M7.toks (s7.toks + 1)
    have how : onlyws (nlP ps) sz = false := by
     unfold onlyws
     by_cases q0 : sz = 0
     ·have q1 : lenP (nlP ps) ≠ 0 := by omega
      rw [hno q0 q1]
      simp [q0, q1]
     ·simp [q0]
    refine wpAny_execs_cons (wpAny_If (isTrue_and (isTrue_plain (cur_call (KK M8.kb) fe M8.lv rfl M8.fs accF.1.2.2.2.2.1 accF.2.2.2.2.2.1 (by decide) rfl ⟨_, rfl⟩ fun tk9 => ?_) (by with_unfolding_all rfl))))
    have M9 := M8.toks tk9
    refine callWith_K0 (KK M9.kb) keepF.2.2.2.2.1 ?_
    refine acc_onlyws G (bsK M9.kb) hb0 M9.big (okd.le (by omega)) M9.fs.fa hsz hsz' (by have := hnl.1; omega) hpb fun s10 x10 kt10 bg10 => wpAny_truthy_bool ?_
    rw [how, if_neg (by decide), if_neg (by decide)]
    have M10 := M9.turn off.ad x10 (.of_t kt10) bg10 (M9.fs.fa.keepT M9.big kt10)
    refine wpAny_execs_cons (wpAny_Expr_any (wpAny_Call_method rfl rfl rfl PySem.F.plainAttrs_list PySem.F.slot_list_append PySem.F.type_list_append (the_lines (KK M10.kb) fe M10.lv rfl M10.fs.fm fun tk11 => ?_)) (by rw [← hEnv]; rfl) rfl)
    have M11 := M10.toks tk11
    obtain ⟨nn, vs, ell, hvs⟩ : ∃ n vs, s10.heap.get? ll = some ⟨.type "list", none, .seq vs.toArray n, #[]⟩ ∧ VDs s10.heap vs (TL lines) := by
     have := M10.fs.ls
     obtain ⟨_, _, _, e, sl⟩ := VD.listR this; exact ⟨_, _, e, sl⟩
    refine ⟨⟨_, ell, rfl⟩, fun a q => by cases q; exact ⟨_, ell, rfl⟩, P.append_list ?_⟩
    refine call_type fe G (bsK M11.kb) g_str b_str (by decide) gstr rfl rfl fun h12 t12 k12 => ?_
    have M12 := M11.grow t12 k12
    refine cur_line (KK M12.kb) fe M12.lv rfl M12.fs.fm fun tk13 => ?_
    have M13 := M12.toks tk13
    refine acc_strB G (bsK M13.kb) hb0.2 M13.big (okd.le (by omega)) M13.fs.fa (by have := hnl.1; omega) hpb fun t14 s14 x14 kt14 bg14 => ?_
    have M14 := M13.turn off.ad x14 (.of_t kt14) bg14 (M13.fs.fa.keepT M13.big kt14)
    have ell14 : s14.heap.get? ll = some ⟨.type "list", none, .seq vs.toArray nn, #[]⟩ := kt14 _ _ (M13.big.ntOf (k12 _ _ ell) fun vs q => nomatch q) (k12 _ _ ell)
    have hvl : vs.length = lines.length := by rw [hvs.length, List.length_map]
    refine ⟨vs.toArray, nn, by rw [List.size_toArray, sizeLine_eq]; omega, ell14, ?_⟩
    obtain ⟨m', eu⟩ := upd_list ell14 (fun xs => xs.push (.str (S (textP (nlP ps))) t14))
    rw [show (vs.toArray.push (Value.str (S (textP (nlP ps))) t14)).toList = vs ++ [.str (S (textP (nlP ps))) t14] from by simp] at eu
    refine wpAny_execs_nil (wpAny_execs_nil ⟨rfl, ?_⟩)
    have hnl14 : NT ll := M13.big.ntOf (k12 _ _ ell) fun vs q => nomatch q
    have hl' : VD (s14.heap.update ll (Obj.mapSeq fun xs => xs.push (.str (S (textP (nlP ps))) t14))) (.ref ll) (.list (TL (lines ++ [textP (nlP ps)]))) := by
     refine .list hnl14 eu ?_
     obtain ⟨q, rfl, e2⟩ := vds_texts hvs
     show VDs _ _ (TL (lines ++ [textP (nlP ps)]))
     have : strValues q ++ [.str (S (textP (nlP ps))) t14] = strValues (q ++ [(S (textP (nlP ps)), t14)]) := by simp [strValues]
     rw [this]
     exact vds_of_values (by simp [e2])
    exact M14.put off.ll (fun y l hy => by
     rw [List.lookup_cons] at hy
     split at hy
     ·cases hy
     ·cases hy) _ (Heap.SameBut.update ..) hl'
   ·rw [if_neg (by simpa using q), if_neg q]
    exact wpAny_execs_nil ⟨rfl, M7.toks _⟩
  obtain ⟨rfl, M9⟩ := h4
  refine wpAny_execs_cons (wpAny_Expr_any ?_ (by rw [← hEnv]; rfl) rfl)
  refine cur_call (KK M9.kb) fe M9.lv rfl M9.fs accF.1.2.2.2.1 accF.2.2.2.2.1 (by decide) rfl ⟨_, rfl⟩ fun tk1 => ?_
  have M10 := M9.toks tk1
  refine callWith_K0 (KK M10.kb) keepF.2.2.2.1 ?_
  refine acc_reset0 G (bsK M10.kb) M10.big (okd.le (by omega)) M10.fs.fa (by have := hnl.1; omega) (hbT _ (by simp)) fun h11 t11 kx bg fa => wpAny_execs_nil ?_
  have M11 := M10.turn off.ad (RX.ht _ h11 t11) (.of_x kx) bg fa
  exact hQ _ M11.rx M11.kb M11.big M11.fs
end Kfmnewline
section
variable {w : World} {A : Around} {E : Value → Shared → Prop} {s : Shared} {x fd ac ad ll : Addr} {mx : Int} {spl : List Nat} {lines : List (List Nat)} {ps : List Piece} {sz : Int} {n : Nat} {b : Heap}
theorem fm_newline {Q : Value → Shared → Prop} (G : Gr w b) (bs : b.StaysIn s.heap) (hb0 : b.get? 140 = none ∧ b.get? 147 = none) (hbT : ∀ c ∈ [ac, ad, ll], b.get? c = none) (hbig : Big s.heap) (ok : Ok 12 A) (X : FS s.heap x fd ac ad ll mx spl lines ps sz)
  (hac : ac ≠ 178) (hsz : 0 ≤ sz) (hsz' : sz < 100000) (hp : SP ps) (hl : lines.length < 1000) (hno : sz = 0 → lenP (nlP ps) ≠ 0 → Txt.isspace (S (textP (nlP ps))) = false)
  (hQ : ∀ s', RX s s' → KB [ac, ad, ll] s.heap s'.heap → Big s'.heap → FS s'.heap x fd ac ad ll mx spl (if 0 < sz + lenP (nlP ps) then lines ++ [textP (nlP ps)] else lines) [] 0 → Q .none s') :
  wpAny (model PW w) A (call (.ref 56) [.ref x]) Q E s :=
 by_eps (C := Kfmnewline.C0) _ Kfmnewline.main0 (w, A, E, s, x, fd, ac, ad, ll, mx, spl, lines, ps, sz, b, Q) G bs hb0 hbT hbig ok X hac hsz hsz' hp hl hno hQ
end
end Mine
-- MF26
namespace Mine
inductive ImD : D → Prop where
 | none : ImD .none
 | bool (b : Bool) : ImD (.bool b)
 | int (i : Int) : ImD (.int i)
 | str (x : Str) : ImD (.str x)
 | con (v : Value) : ImD (.con v)
theorem ImD.vd {d : D} (x : ImD d) {h h' : Heap} {v : Value} (hv : VD h v d) : VD h' v d := by
 cases x <;> cases hv
 ·exact .none
 ·exact .bool _
 ·exact .int _ _
 ·exact .str _ _
 ·exact .con _
theorem im_lookup {σ : List (Str × D)} (h : ∀ p ∈ σ, ImD p.2) {y : Str} {d : D} (e : σ.lookup y = some d) : ImD d := by
 obtain ⟨l1, l2, e, _⟩ := List.lookup_eq_some_iff.mp e
 exact h (y, d) (by rw [e]; simp)
section
variable {h₀ h h' : Heap} {F : Addr → Prop} {env : Env} {σ : List (Str × D)} {O : List Str}
theorem LV.easy (lv : LV h₀ F env σ O h) (hi : ∀ p ∈ σ, ImD p.2) (nc : ∀ y, env.kindOf y ≠ some .cell) (k : ∀ o, h.get? env.locals = some o → h'.get? env.locals = some o) (hb : Big h') : LV h' (FL env h') env σ [] h' := by
 have on : ∀ {y v}, At h env y v → At h' env y v := fun {y v} a => by
  rcases a with ⟨q, m, ⟨o, es, ep, e, r⟩, em⟩ | ⟨q, _⟩
  ·exact .inl ⟨q, m, ⟨o, es, ep, k _ e, r⟩, em⟩
  ·exact absurd q (nc y)
 refine ⟨fun c o _ e => e, fun c f => f.1, hb, ?_, fun f => f.2 rfl, fun y c q _ => absurd q (nc y), lv.inj, ?_, lv.fl, ?_, fun y a l q => nomatch q⟩
 ·obtain ⟨m, o, es, ep, e, r⟩ := lv.ns
  exact ⟨m, o, es, ep, k _ e, r⟩
 ·intro y d e
  obtain ⟨v, a, hv⟩ := lv.rd y d e
  exact ⟨v, on a, (im_lookup hi e).vd hv⟩
 ·intro y z a l m ne hy _ _ _
  have := im_lookup hi hy
  cases this
end
structure Bd (env : Env) (h : Heap) : Prop where
 big : Big h
 dc : ∃ o es ep, h.get? env.locals = some o ∧ o.data = .dict es ep
theorem LV.bd {h₀ h : Heap} {F : Addr → Prop} {env : Env} {σ : List (Str × D)} {O : List Str} (lv : LV h₀ F env σ O h) : Bd env h :=
 ⟨lv.big, let ⟨m, o, es, ep, e, d, r⟩ := lv.ns; ⟨o, es, ep, e, d⟩⟩
theorem Bd.lo {env : Env} {h : Heap} (x : Bd env h) : ∀ c ∈ [env.locals], ∀ o, h.get? c = some o → o.cls ≠ .type "tuple" ∨ ∀ vs n, o.data ≠ .seq vs n := fun c hc o e => by
 obtain rfl := List.mem_singleton.mp hc
 obtain ⟨o', es, ep, e', d⟩ := x.dc
 rw [e] at e'; cases e'
 exact .inr fun vs n q => by rw [d] at q; cases q
section
variable {X : XRel} {w : World} {n : Nat} {env : Env} {h₀ h₁ : Heap} {F F' : Addr → Prop} {σ σ' : List (Str × D)} {O O' : List Str} {o : Out}
theorem Post.base {s : Shared} {Q : Flow → Shared → Prop} (p : Post X env h₀ F o s Q) (hF : ∀ c, F c → F' c) (hs : ∀ c o, F c → h₀.get? c = some o → h₁.get? c = some o) (hd : ∀ c, F c → ∃ o, h₀.get? c = some o) (hfr : ¬ F env.locals) (nc : ∀ y, env.kindOf y ≠ some .cell) : Post X env h₁ F' o s Q := by
 have lvb : ∀ {h σ O}, LV h₁ F' env σ O h → LV h₀ F env σ O h := fun {h σ O} l =>
  l.rebase (fun c o f e => l.st c o (hF c f) (hs c o f e)) hd hfr (fun y c q _ => absurd q (nc y)) fun y a m hy hl ay f => l.ow y a m hy hl ay (hF a f)
 cases o with
 | next σ O => exact fun s' x l => p s' x (lvb l)
 | brk σ O => exact fun s' x l => p s' x (lvb l)
 | cont σ O => exact fun s' x l => p s' x (lvb l)
 | ret d fr => exact fun v s' x st bg hv hf => p v s' x (fun c o f e => st c o (hF c f) (hs c o f e)) bg hv fun q a e f => hf q a e (hF a f)
end
namespace Kforwp
noncomputable def Claim0 (X : XRel) (w : World) (n : Nat) (env : Env) (h₀ : Heap) (F : Addr → Prop) (σ : List (Str × D)) (O : List Str) (x : Str) (px : Pos) (pos : Pos) (iter : Expr) (body : List Stmt) (orelse : List Stmt) (ds : List D) (fr : Bool) (kn : Bool) (inv : Nat → List (Str × D)) (k : Nat) (σb : List (Str × D)) (A : Around) (E : Value → Shared → Prop) (s : Shared) (Q : Flow → Shared → Prop) : Prop :=
 ∀ (fe : Fe env) (nc : ∀ y, env.kindOf y ≠ some .cell) (hk : env.kindOf x = some .local) (ok : Ok n A ∧ X.a A) (lv : LV h₀ F env σ O s.heap) (hi : ∀ h, LV h₀ F env σ O h → EI w n env h iter ds fr kn) (h0 : Sub (inv 0) σ) (him : ∀ i, ∀ p ∈ inv i, ImD p.2) (hds : ∀ (i : Nat) d, ds[i]? = some d → Low d ∧ ImD d) (hkl : k ≤ ds.length) (turn : ∀ h₁, Bd env h₁ → (∀ c o, F c → h₀.get? c = some o → h₁.get? c = some o) → ∀ (i : Nat) d, i < k → ds[i]? = some d → SX X w n env h₁ (FL env h₁) (execs body env) ((x, d) :: inv i) [] (.next (inv (i + 1)) []) ∨ SX X w n env h₁ (FL env h₁) (execs body env) ((x, d) :: inv i) [] (.cont (inv (i + 1)) [])) (brk : k < ds.length → ∀ h₁, Bd env h₁ → (∀ c o, F c → h₀.get? c = some o → h₁.get? c = some o) → ∀ d, ds[k]? = some d → SX X w n env h₁ (FL env h₁) (execs body env) ((x, d) :: inv k) [] (.brk σb [])) (out : k < ds.length → ∀ s', X.r s s' → LV h₀ F env σb [] s'.heap → Q .next s') (els : k = ds.length → ∀ s' E', X.r s s' → LV h₀ F env (inv k) [] s'.heap → wpAny (model PW w) A (execs orelse env) Q E' s') (hs : ∀ x, foldedSetIterable iter env x = pure x), wpAny (model PW w) A (exec (.For (.Name x px) iter body orelse pos) env) Q E s
noncomputable abbrev Ty0 := (XRel) × (World) × (Nat) × (Env) × (Heap) × (Addr → Prop) × (List (Str × D)) × (List Str) × (Str) × (Pos) × (Pos) × (Expr) × (List Stmt) × (List Stmt) × (List D) × (Bool) × (Bool) × (Nat → List (Str × D)) × (Nat) × (List (Str × D)) × (Around) × (Value → Shared → Prop) × (Shared) × (Flow → Shared → Prop)
noncomputable def C0 (p : Ty0) : Prop := Claim0 p.1 p.2.1 p.2.2.1 p.2.2.2.1 p.2.2.2.2.1 p.2.2.2.2.2.1 p.2.2.2.2.2.2.1 p.2.2.2.2.2.2.2.1 p.2.2.2.2.2.2.2.2.1 p.2.2.2.2.2.2.2.2.2.1 p.2.2.2.2.2.2.2.2.2.2.1 p.2.2.2.2.2.2.2.2.2.2.2.1 p.2.2.2.2.2.2.2.2.2.2.2.2.1 p.2.2.2.2.2.2.2.2.2.2.2.2.2.1 p.2.2.2.2.2.2.2.2.2.2.2.2.2.2.1 p.2.2.2.2.2.2.2.2.2.2.2.2.2.2.2.1 p.2.2.2.2.2.2.2.2.2.2.2.2.2.2.2.2.1 p.2.2.2.2.2.2.2.2.2.2.2.2.2.2.2.2.2.1 p.2.2.2.2.2.2.2.2.2.2.2.2.2.2.2.2.2.2.1 p.2.2.2.2.2.2.2.2.2.2.2.2.2.2.2.2.2.2.2.1 p.2.2.2.2.2.2.2.2.2.2.2.2.2.2.2.2.2.2.2.2.1 p.2.2.2.2.2.2.2.2.2.2.2.2.2.2.2.2.2.2.2.2.2.1 p.2.2.2.2.2.2.2.2.2.2.2.2.2.2.2.2.2.2.2.2.2.2.1 p.2.2.2.2.2.2.2.2.2.2.2.2.2.2.2.2.2.2.2.2.2.2.2
noncomputable def eps0 : Ty0 := @Classical.epsilon Ty0 ⟨(XF, aWorld 1, (default : Nat), (default : Env), (default : Heap), (fun _ => True), (default : List (Str × D)), (default : List Str), (default : Str), (default : Pos), (default : Pos), (default : Expr), (default : List Stmt), (default : List Stmt), (default : List D), (default : Bool), (default : Bool), (default : Nat → List (Str × D)), (default : Nat), (default : List (Str × D)), ({} : Around), (fun _ _ => True), ({} : Shared), (fun _ _ => True))⟩ (fun p => ¬ C0 p)
noncomputable def X := eps0.1
noncomputable def w := eps0.2.1
noncomputable def n := eps0.2.2.1
noncomputable def env := eps0.2.2.2.1
noncomputable def h₀ := eps0.2.2.2.2.1
noncomputable def F := eps0.2.2.2.2.2.1
noncomputable def σ := eps0.2.2.2.2.2.2.1
noncomputable def O := eps0.2.2.2.2.2.2.2.1
noncomputable def x := eps0.2.2.2.2.2.2.2.2.1
noncomputable def px := eps0.2.2.2.2.2.2.2.2.2.1
noncomputable def pos := eps0.2.2.2.2.2.2.2.2.2.2.1
noncomputable def iter := eps0.2.2.2.2.2.2.2.2.2.2.2.1
noncomputable def body := eps0.2.2.2.2.2.2.2.2.2.2.2.2.1
noncomputable def orelse := eps0.2.2.2.2.2.2.2.2.2.2.2.2.2.1
noncomputable def ds := eps0.2.2.2.2.2.2.2.2.2.2.2.2.2.2.1
noncomputable def fr := eps0.2.2.2.2.2.2.2.2.2.2.2.2.2.2.2.1
noncomputable def kn := eps0.2.2.2.2.2.2.2.2.2.2.2.2.2.2.2.2.1
noncomputable def inv := eps0.2.2.2.2.2.2.2.2.2.2.2.2.2.2.2.2.2.1
noncomputable def k := eps0.2.2.2.2.2.2.2.2.2.2.2.2.2.2.2.2.2.2.1
noncomputable def σb := eps0.2.2.2.2.2.2.2.2.2.2.2.2.2.2.2.2.2.2.2.1
noncomputable def A := eps0.2.2.2.2.2.2.2.2.2.2.2.2.2.2.2.2.2.2.2.2.1
noncomputable def E := eps0.2.2.2.2.2.2.2.2.2.2.2.2.2.2.2.2.2.2.2.2.2.1
noncomputable def s := eps0.2.2.2.2.2.2.2.2.2.2.2.2.2.2.2.2.2.2.2.2.2.2.1
noncomputable def Q := eps0.2.2.2.2.2.2.2.2.2.2.2.2.2.2.2.2.2.2.2.2.2.2.2
set_option maxHeartbeats 1000000 in
theorem main0 : Claim0 X w n env h₀ F σ O x px pos iter body orelse ds fr kn inv k σb A E s Q := by
 intro fe nc hk ok lv hi h0 him hds hkl turn brk out els hs
 refine wpAny_For (hi _ lv A E s _ ok.1 (stays_refl _) fun I h1 tk fp P St W hS hfp hI hI2 kp hP hfp2 _ => ?_) hs
 obtain ⟨mL, oL, esL, epL, eL, dL, rL⟩ := lv.ns
 have hIL : I ≠ env.locals := fun q => by rw [q, eL] at hI; cases hI
 have hLfp : env.locals ∉ fp := fun q => by
  obtain ⟨_, _, o, its, kk, e, d⟩ := hfp2 _ q hIL.symm
  rw [kp _ _ eL] at e; cases e; rw [dL] at d; cases d
 have lv1 := lv.keep kp
 let K : Heap → Prop := fun h => ∀ c o, c ≠ env.locals → s.heap.get? c = some o → h.get? c = some o
 let J : Nat → Shared → Prop := fun i s' => i ≤ k ∧ X.r s s' ∧ LV s'.heap (FL env s'.heap) env (inv i) [] s'.heap ∧ K s'.heap ∧ St i s'.heap
 have start : J 0 { s with heap := h1, toks := tk } := by
  refine ⟨Nat.zero_le _, X.st _ _ _, ?_, fun c o _ e => kp _ _ e, hS⟩
  exact (lv1.weaken (O' := []) h0 (fun _ _ q => nomatch q)).easy (him 0) nc (fun _ e => e) lv1.big
 have toF : ∀ h' : Heap, K h' → ∀ c o, F c → h₀.get? c = some o → h'.get? c = some o := fun h' kh c o f e => kh c o (fun q => lv.fr (q ▸ f)) (lv.st c o f e)
 have sub : ∀ h' : Heap, K h' → ∀ c, F c → FL env h' c := fun h' kh c f => by
  obtain ⟨o, e⟩ := lv.dom f
  exact ⟨⟨o, kh c o (fun q => lv.fr (q ▸ f)) e⟩, fun q => lv.fr (q ▸ f)⟩
 refine codeAny_forLoop_any (fun m s' => ∃ i, m = ds.length - i ∧ J i s') (fun m s' hJ => ?_) ds.length ⟨0, rfl, start⟩
 obtain ⟨i, rfl, hik, hXr, lvi, kh, hSi⟩ := hJ
 have keepI : ∀ {h' : Heap}, (∀ b o, b ∉ [I] → s'.heap.get? b = some o → h'.get? b = some o) → K h' ∧ (∀ oo, s'.heap.get? env.locals = some oo → h'.get? env.locals = some oo) := fun {h'} hk' =>
  ⟨fun c o ne e => hk' c o (fun q => by rw [List.mem_singleton.mp q, hI] at e; cases e) (kh c o ne e), fun oo e => hk' _ _ (fun q => hIL (List.mem_singleton.mp q).symm) e⟩
 have bigI : ∀ {h' : Heap}, (∀ b o, b ∉ [I] → s'.heap.get? b = some o → h'.get? b = some o) → Big h' := fun {h'} hk' => by
  have key : ∀ {c T ps}, IsCodeM s.heap c T ps → IsCodeM s'.heap c T ps → IsCodeM h' c T ps := fun {c T ps} e0 e => by
   obtain ⟨⟨o1, v1, a1, _⟩, ⟨o2, v2, a2, _⟩⟩ := IsCode_at e0
   have n1 : c ≠ I := fun q => by rw [q, hI] at a1; cases a1
   have n2 : T ≠ I := fun q => by rw [q, hI] at a2; cases a2
   exact e.mv (fun o _ a _ => hk' _ o (by simpa using n1) a) (fun o _ a _ => hk' _ o (by simpa using n2) a)
  have keyK : ∀ {c T ps}, IsCodeM s.heap c T ps → IsCodeM h' c T ps := fun {c T ps} e => by
   have kk := (keepI hk').1
   exact e.mv (fun o vs a d => kk _ o (fun q => by rw [q, eL] at a; cases a; rw [dL] at d; cases d) a) (fun o vs a d => kk _ o (fun q => by rw [q, eL] at a; cases a; rw [dL] at d; cases d) a)
  obtain ⟨⟨ps, e⟩, ⟨qs, f⟩⟩ := lv.big
  exact ⟨⟨ps, keyK e⟩, ⟨qs, keyK f⟩⟩
 by_cases hid : i < ds.length
 ·refine (W A ok.1.hd).item i s' _ _ hid hSi fun v h' tk' hPv hS' hk' => ?_
  obtain ⟨kh', kL'⟩ := keepI hk'
  have big' := bigI hk'
  have lv' := lvi.easy (him i) nc kL' big'
  obtain ⟨d, hd, hvd⟩ := hP i v hid hPv
  obtain ⟨lowd, imd⟩ := hds i d hd
  refine wpAny_pure ?_
  refine wpAny_assign_Name (store_low fe lv' (.inl hk) (imd.vd hvd) lowd fun h2 tk2 _ l3 => ?_)
  rw [show less [] x = [] from rfl] at l3
  have stepJ : ∀ s3 : Shared, X.r { s' with heap := h2, toks := tk2 } s3 → LV h' (FL env h') env (inv (i + 1)) [] s3.heap → i < k → ∃ m, m < ds.length - i ∧ ∃ j, m = ds.length - j ∧ J j s3 := fun s3 x3 l4 hik => by
   refine ⟨ds.length - (i + 1), by omega, i + 1, rfl, by omega, X.tr (X.tr hXr (X.st _ _ _)) x3, ?_, fun c o ne e => l4.st c o ⟨⟨o, kh' c o ne e⟩, ne⟩ (kh' c o ne e), ?_⟩
   ·exact l4.easy (him _) nc (fun _ e => e) l4.big
   ·exact (W A ok.1.hd).frame _ _ _ hS' fun bb hbb o e => l4.st bb o ⟨⟨o, e⟩, fun q => hLfp (q ▸ hbb)⟩ e
  by_cases hik' : i < k
  ·rcases turn h' lv'.bd (toF h' kh') i d hik' hd with t | t
   ·exact t A _ _ _ ok l3 fun s3 x3 l4 => stepJ s3 x3 l4 hik'
   ·exact t A _ _ _ ok l3 fun s3 x3 l4 => stepJ s3 x3 l4 hik'
  ·have hik2 : i = k := by omega
   subst hik2
   refine brk hid h' lv'.bd (toF h' kh') d hd A _ _ _ ok l3 fun s3 x3 l4 => ?_
   exact out hid s3 (X.tr (X.tr hXr (X.st _ _ _)) x3) (l4.rebase (fun c o f e => l4.st c o (sub h' kh' c f) (toF h' kh' c o f e)) lv.fd lv.fr (fun y c q _ => absurd q (nc y)) fun y a m q => nomatch q)
 ·have hi2 : i = ds.length := by omega
  have hik2 : i = k := by omega
  subst hi2
  refine (W A ok.1.hd).done s' _ _ hSi fun h' tk' hk' => ?_
  obtain ⟨kh', kL'⟩ := keepI hk'
  have big' := bigI hk'
  have lv' := lvi.easy (him _) nc kL' big'
  rw [hik2] at lv'
  refine els hik2.symm _ _ (X.tr hXr (X.st _ _ _)) ?_
  exact lv'.rebase (fun c o f e => lv'.st c o (sub h' kh' c f) (toF h' kh' c o f e)) lv.fd lv.fr (fun y c q _ => absurd q (nc y)) fun y a m q => nomatch q
end Kforwp
section
variable {X : XRel} {w : World} {n : Nat} {env : Env} {h₀ h₁ : Heap} {F F' : Addr → Prop} {σ σ' : List (Str × D)} {O O' : List Str} {o : Out}
theorem for_wp {x : Str} {px pos : Pos} {iter : Expr} {body orelse : List Stmt} {ds : List D} {fr kn : Bool} (inv : Nat → List (Str × D)) (k : Nat) (σb : List (Str × D)) (fe : Fe env) (nc : ∀ y, env.kindOf y ≠ some .cell) (hk : env.kindOf x = some .local)
  {A : Around} {E : Value → Shared → Prop} {s : Shared} {Q : Flow → Shared → Prop} (ok : Ok n A ∧ X.a A) (lv : LV h₀ F env σ O s.heap)
  (hi : ∀ h, LV h₀ F env σ O h → EI w n env h iter ds fr kn) (h0 : Sub (inv 0) σ) (him : ∀ i, ∀ p ∈ inv i, ImD p.2) (hds : ∀ (i : Nat) d, ds[i]? = some d → Low d ∧ ImD d) (hkl : k ≤ ds.length)
  (turn : ∀ h₁, Bd env h₁ → (∀ c o, F c → h₀.get? c = some o → h₁.get? c = some o) → ∀ (i : Nat) d, i < k → ds[i]? = some d → SX X w n env h₁ (FL env h₁) (execs body env) ((x, d) :: inv i) [] (.next (inv (i + 1)) []) ∨ SX X w n env h₁ (FL env h₁) (execs body env) ((x, d) :: inv i) [] (.cont (inv (i + 1)) []))
  (brk : k < ds.length → ∀ h₁, Bd env h₁ → (∀ c o, F c → h₀.get? c = some o → h₁.get? c = some o) → ∀ d, ds[k]? = some d → SX X w n env h₁ (FL env h₁) (execs body env) ((x, d) :: inv k) [] (.brk σb []))
  (out : k < ds.length → ∀ s', X.r s s' → LV h₀ F env σb [] s'.heap → Q .next s')
  (els : k = ds.length → ∀ s' E', X.r s s' → LV h₀ F env (inv k) [] s'.heap → wpAny (model PW w) A (execs orelse env) Q E' s')
  (hs : ∀ x, foldedSetIterable iter env x = pure x := by intro _; rfl) :
  wpAny (model PW w) A (exec (.For (.Name x px) iter body orelse pos) env) Q E s :=
 by_eps (C := Kforwp.C0) _ Kforwp.main0 (X, w, n, env, h₀, F, σ, O, x, px, pos, iter, body, orelse, ds, fr, kn, inv, k, σb, A, E, s, Q) fe nc hk ok lv hi h0 him hds hkl turn brk out els hs
theorem sx_forE {x : Str} {px pos : Pos} {iter : Expr} {body orelse : List Stmt} {ds : List D} {fr kn : Bool} (inv : Nat → List (Str × D)) (k : Nat) (σb : List (Str × D)) (o : Out) (fe : Fe env) (nc : ∀ y, env.kindOf y ≠ some .cell) (hk : env.kindOf x = some .local)
  (hi : ∀ h, LV h₀ F env σ O h → EI w n env h iter ds fr kn) (h0 : Sub (inv 0) σ) (him : ∀ i, ∀ p ∈ inv i, ImD p.2) (hds : ∀ (i : Nat) d, ds[i]? = some d → Low d ∧ ImD d) (hkl : k ≤ ds.length)
  (turn : ∀ h₁, Bd env h₁ → (∀ c o, F c → h₀.get? c = some o → h₁.get? c = some o) → ∀ (i : Nat) d, i < k → ds[i]? = some d → SX X w n env h₁ (FL env h₁) (execs body env) ((x, d) :: inv i) [] (.next (inv (i + 1)) []) ∨ SX X w n env h₁ (FL env h₁) (execs body env) ((x, d) :: inv i) [] (.cont (inv (i + 1)) []))
  (brk : k < ds.length → ∀ h₁, Bd env h₁ → (∀ c o, F c → h₀.get? c = some o → h₁.get? c = some o) → ∀ d, ds[k]? = some d → SX X w n env h₁ (FL env h₁) (execs body env) ((x, d) :: inv k) [] (.brk σb []))
  (els : k = ds.length → SX X w n env h₀ F (execs orelse env) (inv k) [] o)
  (hs : ∀ x, foldedSetIterable iter env x = pure x := by intro _; rfl) :
  SX X w n env h₀ F (exec (.For (.Name x px) iter body orelse pos) env) σ O (if k < ds.length then .next σb [] else o) := fun A E s Q ok lv p => by
 refine for_wp inv k σb fe nc hk ok lv hi h0 him hds hkl turn brk (fun q s' x' l' => ?_) (fun q s' E' x' l' => ?_) hs
 ·rw [if_pos q] at p
  exact p s' x' l'
 ·rw [if_neg (by omega)] at p
  exact els q A E' s' Q ok l' (p.tr x')
end
end Mine
-- MF27
namespace Mine
noncomputable def isWs (ch : Nat) : Bool := Txt.isspace (S [ch])
noncomputable def hitA (ch : Nat) (ps : List Piece) (i : Nat) : Bool := isWs ch && (!(ps.getD i ([], [])).1.isEmpty && (ps.getD i ([], [])).1.head? == some ch)
noncomputable def hitB (ch : Nat) (ps : List Piece) (i : Nat) : Bool := !(ps.getD (i - 1) ([], [])).2.isEmpty && (ps.getD (i - 1) ([], [])).2.getLast? == some ch
noncomputable def hit (ch : Nat) (ps : List Piece) (i : Nat) : Bool := hitA ch ps i || hitB ch ps i
noncomputable def at1 (ch : Nat) (ps : List Piece) : Nat := (List.range (ps.length - 1)).findIdx fun t => hit ch ps (ps.length - 1 - t)
noncomputable def found (ps : List Piece) (ch : Nat) : Bool := decide (at1 ch ps < ps.length - 1)
section
variable {w : World} {n : Nat} {env : Env} {h b : Heap} {x fd ac ad ll : Addr} {mx : Int} {spl : List Nat} {lines : List (List Nat)} {ps : List Piece} {sz : Int} {h₀ : Heap} {F : Addr → Prop} {σ : List (Str × D)} {O : List Str} {p1 p2 pos : Pos}
theorem ev_cur (G : Gr w b) (bs : b.StaysIn h) (fe : Fe env) (lv : LV h₀ F env σ O h) (hx : σ.lookup (Str.ofString "self") = some (.con (.ref x))) (X : FS h x fd ac ad ll mx spl lines ps sz) :
  EV w n env h (.Attribute (.Name (Str.ofString "self") p1) (Str.ofString "_current_line") p2) (.con (.ref ac)) := fun A E s Q ok st hQ =>
 cur_line (fun a o e => st _ _ (bs _ _ (G.k a o e))) fe (lv.keep st) hx (X.keep st).fm fun tk => hQ _ _ _ (stays_refl _) (.con _)
theorem ev_spl (G : Gr w b) (bs : b.StaysIn h) (fe : Fe env) (lv : LV h₀ F env σ O h) (hx : σ.lookup (Str.ofString "self") = some (.con (.ref x))) (X : FS h x fd ac ad ll mx spl lines ps sz) :
  EV w n env h (.Attribute (.Name (Str.ofString "self") p1) (Str.ofString "_splitchars") p2) (.str (S spl)) := fun A E s Q ok st hQ =>
 Attribute_name (name_at fe (lv.keep st) hx (fun v av vd => by obtain rfl := VD.conE vd; exact fm_spl (fun a o e => st _ _ (bs _ _ (G.k a o e))) (X.keep st).fm fun t tk => hQ _ _ _ (stays_refl _) (.str _ _)))
theorem ev_mxl (G : Gr w b) (bs : b.StaysIn h) (fe : Fe env) (lv : LV h₀ F env σ O h) (hx : σ.lookup (Str.ofString "self") = some (.con (.ref x))) (X : FS h x fd ac ad ll mx spl lines ps sz) :
  EV w n env h (.Attribute (.Name (Str.ofString "self") p1) (Str.ofString "_maxlen") p2) (.int mx) := fun A E s Q ok st hQ =>
 Attribute_name (name_at fe (lv.keep st) hx (fun v av vd => by obtain rfl := VD.conE vd; exact fm_max (fun a o e => st _ _ (bs _ _ (G.k a o e))) (X.keep st).fm fun t tk => hQ _ _ _ (stays_refl _) (.int _ _)))
theorem ev_lns (G : Gr w b) (bs : b.StaysIn h) (fe : Fe env) (lv : LV h₀ F env σ O h) (hx : σ.lookup (Str.ofString "self") = some (.con (.ref x))) (X : FS h x fd ac ad ll mx spl lines ps sz) :
  EV w n env h (.Attribute (.Name (Str.ofString "self") p1) (Str.ofString "_lines") p2) (.list (TL lines)) := fun A E s Q ok st hQ =>
 the_lines (fun a o e => st _ _ (bs _ _ (G.k a o e))) fe (lv.keep st) hx (X.keep st).fm fun tk => hQ _ _ _ (stays_refl _) (X.keep st).ls
theorem ev_piece {e : Expr} {i : Nat} {p : Piece} (G : Gr w b) (bs : b.StaysIn h) (fe : Fe env) (lv : LV h₀ F env σ O h) (hx : σ.lookup (Str.ofString "self") = some (.con (.ref x))) (X : FS h x fd ac ad ll mx spl lines ps sz) (he : EV w n env h e (.int i)) (hi : i < 1000) (hp : ps[i]? = some p) :
  EV w n env h (.Subscript (.Attribute (.Name (Str.ofString "self") p1) (Str.ofString "_current_line") p2) e pos) (PD p) := fun A E s Q ok st hQ => by
 refine Subscript_ (ev_cur G bs fe lv hx X A E s _ ok st fun u h1 t1 k1 v1 => he A E _ _ ok (stays_trans st k1) fun v h2 t2 k2 v2 => ?_)
 obtain rfl := VD.conE v1; obtain ⟨_, rfl⟩ := VD.intE v2
 obtain ⟨ops, eo⟩ := subscripted_ops e (.ref ac) (.int i _)
 have st2 := stays_trans st (stays_trans k1 k2)
 have X2 := X.keep st2
 obtain ⟨its, XA, hps⟩ := X2.fa
 obtain ⟨v, e1, e2⟩ := VDs.get hps (i := i) (d := PD p) (by rw [List.getElem?_map, hp]; rfl)
 refine acc_tail (s := { s with heap := h2, toks := t2 }) (fun a o e => st2 _ _ (bs _ _ (G.k a o e))) XA (acc_item (s := { s with heap := h2, toks := t2 }) (fun a o e => st2 _ _ (bs _ _ (G.k a o e))) XA (by omega) (by omega) (x := v) (by simpa using e1) ?_) eo
 exact hQ _ _ _ (stays_trans k1 k2) e2
theorem ev_count {p3 : Pos} (G : Gr w b) (bs : b.StaysIn h) (fe : Fe env) (lv : LV h₀ F env σ O h) (hx : σ.lookup (Str.ofString "self") = some (.con (.ref x))) (X : FS h x fd ac ad ll mx spl lines ps sz) (hac : ac ≠ 178)
  (hb : attributeBase (.Attribute (.Name (Str.ofString "self") p1) (Str.ofString "_current_line") p2) (Str.ofString "part_count") env (eval (.Attribute (.Name (Str.ofString "self") p1) (Str.ofString "_current_line") p2) env) = eval (.Attribute (.Name (Str.ofString "self") p1) (Str.ofString "_current_line") p2) env := by rfl)
  (he : ∃ pl, eval (.Call (.Attribute (.Attribute (.Name (Str.ofString "self") p1) (Str.ofString "_current_line") p2) (Str.ofString "part_count") p3) [] [] pos) env = (do
   let ov ← attributeBase (.Attribute (.Name (Str.ofString "self") p1) (Str.ofString "_current_line") p2) (Str.ofString "part_count") env (eval (.Attribute (.Name (Str.ofString "self") p1) (Str.ofString "_current_line") p2) env)
   standAt p3.atName
   let (f, first) ← holding [ov] (getMethod ov (Str.ofString "part_count") pl)
   callWith pos f first (backTo pos (starEach [] env)) []) := by exact ⟨_, rfl⟩) :
  EV w (n + 4) env h (.Call (.Attribute (.Attribute (.Name (Str.ofString "self") p1) (Str.ofString "_current_line") p2) (Str.ofString "part_count") p3) [] [] pos) (.int ps.length) := fun A E s Q ok st hQ => by
 have K : (hd.heap_1 w.params).In s.heap := fun a o e => st _ _ (bs _ _ (G.k a o e))
 refine cur_call K fe (lv.keep st) hx (X.keep st) accF.1.2.2.2.2.2 accF.2.2.2.2.2.2 (by decide) hb he fun tk => ?_
 refine callWith_K0 (s := { s with toks := tk }) K keepF.2.2.2.2.2.1 ?_
 refine acc_count (s := { s with toks := tk }) G (stays_trans bs st) ((lv.keep st).big) (ok.le (by omega)) (X.keep st).fa hac fun t h' tk' k => hQ _ _ _ k (.int _ _)
theorem ev_isz (G : Gr w b) (bs : b.StaysIn h) (fe : Fe env) (lv : LV h₀ F env σ O h) (hx : σ.lookup (Str.ofString "self") = some (.con (.ref x))) (X : FS h x fd ac ad ll mx spl lines ps sz)
  (hb : attributeBase (.Attribute (.Name (Str.ofString "self") p1) (Str.ofString "_current_line") p2) (Str.ofString "_initial_size") env (eval (.Attribute (.Name (Str.ofString "self") p1) (Str.ofString "_current_line") p2) env) = eval (.Attribute (.Name (Str.ofString "self") p1) (Str.ofString "_current_line") p2) env := by rfl) :
  EV w n env h (.Attribute (.Attribute (.Name (Str.ofString "self") p1) (Str.ofString "_current_line") p2) (Str.ofString "_initial_size") pos) (.int sz) := fun A E s Q ok st hQ => by
 have K : (hd.heap_1 w.params).In s.heap := fun a o e => st _ _ (bs _ _ (G.k a o e))
 refine Attribute_any_ (ev_cur G bs fe lv hx X A E s _ ok st fun u h1 t1 k1 v1 => ?_)
 obtain rfl := VD.conE v1
 have st1 := stays_trans st k1
 obtain ⟨its, XA, hps⟩ := (X.keep st1).fa
 exact acc_get (s := { s with heap := h1, toks := t1 }) (fun a o e => st1 _ _ (bs _ _ (G.k a o e))) XA fun t tk _ => hQ _ _ _ k1 (.int _ _)
theorem bv_head {y z : Str} {q1 q2 q3 q4 q5 q6 : Pos} {k : Nat} {f : List Nat} {c : Nat} (fe : Fe env) (lv : LV h₀ F env σ O h) (hy : σ.lookup y = some (.str (S f))) (hz : σ.lookup z = some (.str (S [c]))) (hf : f.length < 1000) (hd1 : (y == ("__debug__" : Str)) = false := by decide) (hd2 : (z == ("__debug__" : Str)) = false := by decide) :
  BV w n env h (.BoolOp .And [.Name y q1, .Compare (.Subscript (.Name y q2) (.Constant (.int 0) k q3) q4) [.Eq] [.Name z q5] q6] pos) (!f.isEmpty && f.head? == some c) := by
 have e : (!f.isEmpty && f.head? == some c) = ((!f.isEmpty) && (([f.headD 0] : List Nat) == [c])) := by cases f <;> simp
 rw [e]
 refine bv_and2 (bv_pos (ev_name fe lv hy hd1) hf) fun q => ?_
 have q := not_isE q
 refine bv_cmp (ev_idx_str (c := f.headD 0) (k := 0) (ev_name fe lv hy hd1) ev_int (seq_at q (.inl rfl)) ?_ (by decide) (by decide)) (ev_name fe lv hz hd2) cmp_eqs
 cases f with
 | nil => simp at q
 | cons a r => rfl
theorem ev_neg1 {k : Nat} {q1 : Pos} : EV w n env h (.UnaryOp .USub (.Constant (.int 1) k q1) pos) (.int (-1)) := fun A E s Q ok st hQ => by
 rw [arm_eval_UnaryOp]
 exact wpAny_bind (wpAny_Constant_int (wpAny_bind (wpAny_standAt (wpAny_holding (PyProof.Rows.neg_int (hQ _ _ _ (stays_refl _) (.int _ _)))))))
theorem bv_lastc {y z : Str} {q1 q2 q3 q4 q5 q6 q7 : Pos} {k : Nat} {f : List Nat} {c : Nat} (fe : Fe env) (lv : LV h₀ F env σ O h) (hy : σ.lookup y = some (.str (S f))) (hz : σ.lookup z = some (.str (S [c]))) (hf : f.length < 1000) (hd1 : (y == ("__debug__" : Str)) = false := by decide) (hd2 : (z == ("__debug__" : Str)) = false := by decide) :
  BV w n env h (.BoolOp .And [.Name y q1, .Compare (.Subscript (.Name y q2) (.UnaryOp .USub (.Constant (.int 1) k q7) q3) q4) [.Eq] [.Name z q5] q6] pos) (!f.isEmpty && f.getLast? == some c) := by
 have e : (!f.isEmpty && f.getLast? == some c) = ((!f.isEmpty) && (([f.getLastD 0] : List Nat) == [c])) := by
  cases f with
  | nil => rfl
  | cons a r => rw [List.getLast?_eq_some_getLast (by simp), List.getLastD_eq_getLast?, List.getLast?_eq_some_getLast (by simp)]; simp
 rw [e]
 refine bv_and2 (bv_pos (ev_name fe lv hy hd1) hf) fun q => ?_
 have q := not_isE q
 refine bv_cmp (ev_idx_str (c := f.getLastD 0) (k := f.length - 1) (ev_name fe lv hy hd1) ev_neg1 (seq_at (by omega) (.inr (by omega))) ?_ (by decide) (by decide)) (ev_name fe lv hz hd2) cmp_eqs
 rw [← List.getLast?_eq_getElem?, List.getLastD_eq_getLast?]
 cases f with
 | nil => simp at q
 | cons a r => rw [List.getLast?_eq_some_getLast (by simp)]; rfl
end
structure Srch (b : Heap) (env : Env) (x fd ac ad ll : Addr) (mx : Int) (spl : List Nat) (lines : List (List Nat)) (ps : List Piece) (sz : Int) (h : Heap) : Prop where
 bs : b.StaysIn h
 fs : FS h x fd ac ad ll mx spl lines ps sz
 bd : Bd env h
 off : Off env x fd ac ad ll
 fr : b.get? env.locals = none
section
variable {w : World} {n : Nat} {env : Env} {h b : Heap} {x fd ac ad ll : Addr} {mx : Int} {spl : List Nat} {lines : List (List Nat)} {ps : List Piece} {sz : Int} {h₀ h₁ : Heap} {F : Addr → Prop} {σ : List (Str × D)} {O : List Str} {p1 p2 pos : Pos}
theorem Srch.lv (X : Srch b env x fd ac ad ll mx spl lines ps sz h₀) (lv : LV h₀ (FL env h₀) env σ O h) : Srch b env x fd ac ad ll mx spl lines ps sz h :=
 ⟨fun c o e => lv.st c o ⟨⟨o, X.bs _ _ e⟩, fun q => by rw [q, X.fr] at e; cases e⟩ (X.bs _ _ e), X.fs.kb X.bd.big lv.kbL X.off X.bd.lo, lv.bd, X.off, X.fr⟩
theorem Srch.on (X : Srch b env x fd ac ad ll mx spl lines ps sz h₀) (bd : Bd env h₁) (k : ∀ c o, FL env h₀ c → h₀.get? c = some o → h₁.get? c = some o) : Srch b env x fd ac ad ll mx spl lines ps sz h₁ :=
 ⟨fun c o e => k c o ⟨⟨o, X.bs _ _ e⟩, fun q => by rw [q, X.fr] at e; cases e⟩ (X.bs _ _ e), X.fs.kb X.bd.big (fun c o nc _ e => k c o ⟨⟨o, e⟩, by simpa using nc⟩ e) X.off X.bd.lo, bd, X.off, X.fr⟩
theorem turn_sx {X : XRel} {c i k1 k2 k3 k4 k5 : Nat} {q1 q2 q3 q4 q5 q6 q7 q8 q9 q10 q11 q12 q13 q14 q15 q16 q17 q18 q19 q20 q21 q22 q23 q24 q25 q26 q27 q28 q29 q30 q31 q32 q33 q34 q35 q36 q37 q38 q39 q40 : Pos} (G : Gr w b) (fe : Fe env) (Y : Srch b env x fd ac ad ll mx spl lines ps sz h₁) (hi : 1 ≤ i) (hip : i < ps.length) (hp : ps.length < 900) (hsm : ∀ p ∈ ps, p.1.length + p.2.length < 1000)
  (kf : env.kindOf (Str.ofString "fws") = some .local) (kq : env.kindOf (Str.ofString "prevpart") = some .local) (hap : (q1.endLine == q2.line) = true)
  (hs1 : swapsWith (.Subscript (.Subscript (.Attribute (.Name (Str.ofString "self") q4) (Str.ofString "_current_line") q5) (.Name (Str.ofString "i") q6) q7) (.Constant (.int 0) k1 q8) q9) (some (.Name (Str.ofString "fws") q10)) q11.line env = pure false)
  (hs2 : swapsWith (.Subscript (.Subscript (.Attribute (.Name (Str.ofString "self") q22) (Str.ofString "_current_line") q23) (.BinOp (.Name (Str.ofString "i") q24) .Sub (.Constant (.int 1) k3 q25) q26) q27) (.Constant (.int 1) k4 q28) q29) (some (.Name (Str.ofString "prevpart") q30)) q31.line env = pure false) :
  SX X w n env h₁ (FL env h₁) (execs [.If (.Call (.Attribute (.Name (Str.ofString "ch") q3) (Str.ofString "isspace") q1) [] [] q2)
    [.Assign [.Name (Str.ofString "fws") q10] (.Subscript (.Subscript (.Attribute (.Name (Str.ofString "self") q4) (Str.ofString "_current_line") q5) (.Name (Str.ofString "i") q6) q7) (.Constant (.int 0) k1 q8) q9) q11,
     .If (.BoolOp .And [.Name (Str.ofString "fws") q12, .Compare (.Subscript (.Name (Str.ofString "fws") q13) (.Constant (.int 0) k2 q14) q15) [.Eq] [.Name (Str.ofString "ch") q16] q17] q18) [.Break q19] [] q20] [] q21,
    .Assign [.Name (Str.ofString "prevpart") q30] (.Subscript (.Subscript (.Attribute (.Name (Str.ofString "self") q22) (Str.ofString "_current_line") q23) (.BinOp (.Name (Str.ofString "i") q24) .Sub (.Constant (.int 1) k3 q25) q26) q27) (.Constant (.int 1) k4 q28) q29) q31,
    .If (.BoolOp .And [.Name (Str.ofString "prevpart") q32, .Compare (.Subscript (.Name (Str.ofString "prevpart") q33) (.UnaryOp .USub (.Constant (.int 1) k5 q34) q35) q36) [.Eq] [.Name (Str.ofString "ch") q37] q38] q39) [.Break q40] [] pos] env)
   [(Str.ofString "i", .int i), (Str.ofString "ch", .str (S [c])), (Str.ofString "self", .con (.ref x))] []
   (if hit c ps i then .brk [(Str.ofString "i", .int i), (Str.ofString "ch", .str (S [c])), (Str.ofString "self", .con (.ref x))] [] else .next [(Str.ofString "ch", .str (S [c])), (Str.ofString "self", .con (.ref x))] []) := by
 have hpi : ps[i]? = some (ps.getD i ([], [])) := by rw [List.getD_eq_getElem?_getD, List.getElem?_eq_getElem hip]; rfl
 have hpj : ps[i - 1]? = some (ps.getD (i - 1) ([], [])) := by rw [List.getD_eq_getElem?_getD, List.getElem?_eq_getElem (by omega)]; rfl
 have l1 := hsm _ (List.mem_of_getElem? hpi)
 have l2 := hsm _ (List.mem_of_getElem? hpj)
 have bws : ∀ {σ : List (Str × D)} {h : Heap}, LV h₁ (FL env h₁) env σ [] h → σ.lookup (Str.ofString "ch") = some (.str (S [c])) → BV w n env h (.Call (.Attribute (.Name (Str.ofString "ch") q3) (Str.ofString "isspace") q1) [] [] q2) (isWs c) := fun lv e =>
  bv_plain (ev_method_str0 (ev_name fe lv e) PySem.F.plainAttrs_str PySem.F.slot_str_isspace PySem.F.type_str_isspace cv_isspace rfl hap) tru_bool
 unfold hit
 have rest : hitA c ps i = false → ∀ {σ : List (Str × D)}, Sub [(Str.ofString "i", .int i), (Str.ofString "ch", .str (S [c])), (Str.ofString "self", .con (.ref x))] σ → SX X w n env h₁ (FL env h₁) (execs [.Assign [.Name (Str.ofString "prevpart") q30] (.Subscript (.Subscript (.Attribute (.Name (Str.ofString "self") q22) (Str.ofString "_current_line") q23) (.BinOp (.Name (Str.ofString "i") q24) .Sub (.Constant (.int 1) k3 q25) q26) q27) (.Constant (.int 1) k4 q28) q29) q31,
    .If (.BoolOp .And [.Name (Str.ofString "prevpart") q32, .Compare (.Subscript (.Name (Str.ofString "prevpart") q33) (.UnaryOp .USub (.Constant (.int 1) k5 q34) q35) q36) [.Eq] [.Name (Str.ofString "ch") q37] q38] q39) [.Break q40] [] pos] env) σ [] (if (hitA c ps i || hitB c ps i) = true then .brk [(Str.ofString "i", .int i), (Str.ofString "ch", .str (S [c])), (Str.ofString "self", .con (.ref x))] [] else .next [(Str.ofString "ch", .str (S [c])), (Str.ofString "self", .con (.ref x))] []) := fun hA σ hσ => by
  rw [hA, Bool.false_or]
  refine sx_weak (σ' := [(Str.ofString "i", .int i), (Str.ofString "ch", .str (S [c])), (Str.ofString "self", .con (.ref x))]) (O' := []) ?_ hσ (fun _ _ q => nomatch q)
  refine sx_cons (sx_assign fe (.inl kq) (fun h lv => ev_idx_tuple (ev_piece G (Y.lv lv).bs fe lv rfl (Y.lv lv).fs (ev_eq (ev_sub (ev_name fe lv rfl) ev_int) (by rw [show (i : Int) - 1 = ((i - 1 : Nat) : Int) from by omega])) (by omega) hpj) ev_int (k := 1) rfl rfl (by decide) (by decide)) (.str _) hs2) ?_
  by_cases q : hitB c ps i = true
  ·rw [q, if_pos rfl]
   refine sx_one (sx_if_true (fun h lv => bv_eq (bv_lastc fe lv rfl rfl (by omega)) q) (sx_one ?_))
   exact sx_weak sx_break (sub_cons rfl (sub_cons rfl (sub_cons rfl sub_nil))) (fun _ _ q => nomatch q)
  ·have q : hitB c ps i = false := by simpa using q
   rw [q, if_neg (by decide)]
   refine sx_one (sx_if_false (fun h lv => bv_eq (bv_lastc fe lv rfl rfl (by omega)) q) ?_)
   exact sx_weak sx_nil (sub_cons rfl (sub_cons rfl sub_nil)) (fun _ _ q => nomatch q)
 by_cases hw : isWs c = true
 ·by_cases q : hitA c ps i = true
  ·rw [q, Bool.true_or, if_pos rfl]
   have q' : (!(ps.getD i ([], [])).1.isEmpty && (ps.getD i ([], [])).1.head? == some c) = true := by unfold hitA at q; rw [hw, Bool.true_and] at q; exact q
   refine sx_cons_brk (sx_if_true (fun h lv => bv_eq (bws lv rfl) hw) ?_)
   refine sx_cons (sx_assign fe (.inl kf) (fun h lv => ev_idx_tuple (ev_piece G (Y.lv lv).bs fe lv rfl (Y.lv lv).fs (ev_name fe lv rfl) (by omega) hpi) ev_int (k := 0) rfl rfl (by decide) (by decide)) (.str _) hs1) ?_
   refine sx_one (sx_if_true (fun h lv => bv_eq (bv_head fe lv rfl rfl (by omega)) q') (sx_one ?_))
   exact sx_weak sx_break (sub_cons rfl (sub_cons rfl (sub_cons rfl sub_nil))) (fun _ _ q => nomatch q)
  ·have q : hitA c ps i = false := by simpa using q
   have q' : (!(ps.getD i ([], [])).1.isEmpty && (ps.getD i ([], [])).1.head? == some c) = false := by unfold hitA at q; rw [hw, Bool.true_and] at q; exact q
   refine sx_cons (σ' := [(Str.ofString "i", .int i), (Str.ofString "ch", .str (S [c])), (Str.ofString "self", .con (.ref x))]) (O' := []) (sx_if_true (fun h lv => bv_eq (bws lv rfl) hw) ?_) (rest q (Sub.refl _))
   refine sx_cons (sx_assign fe (.inl kf) (fun h lv => ev_idx_tuple (ev_piece G (Y.lv lv).bs fe lv rfl (Y.lv lv).fs (ev_name fe lv rfl) (by omega) hpi) ev_int (k := 0) rfl rfl (by decide) (by decide)) (.str _) hs1) ?_
   refine sx_one (sx_if_false (fun h lv => bv_eq (bv_head fe lv rfl rfl (by omega)) q') ?_)
   exact sx_weak sx_nil (sub_cons rfl (sub_cons rfl (sub_cons rfl sub_nil))) (fun _ _ q => nomatch q)
 ·have hw : isWs c = false := by simpa using hw
  have q : hitA c ps i = false := by unfold hitA; rw [hw]; rfl
  exact sx_cons (sx_if_false (fun h lv => bv_eq (bws lv rfl) hw) sx_nil) (rest q (Sub.refl _))
end
end Mine
-- MF28
namespace Mine
noncomputable def seek (spl : List Nat) (ps : List Piece) : Option Nat := (spl.find? (found ps)).map fun ch => ps.length - 1 - at1 ch ps
structure FSt where
 lines : List (List Nat)
 ps : List Piece
 sz : Int
noncomputable def nlL (lines : List (List Nat)) (ps : List Piece) (sz : Int) : List (List Nat) := if 0 < sz + lenP (nlP ps) then lines ++ [textP (nlP ps)] else lines
noncomputable def chunk (mx : Int) (spl : List Nat) (s : FSt) (p : Piece) : FSt :=
 if mx < s.sz + lenP (s.ps ++ [p]) then
  match seek spl (s.ps ++ [p]) with
  | some i => ⟨s.lines ++ [textP ((s.ps ++ [p]).take i)], (s.ps ++ [p]).drop i, 0⟩
  | none => if 0 < s.sz then ⟨nlL s.lines s.ps s.sz, [(if p.1 = [] then [32] else p.1, p.2)], 0⟩ else ⟨s.lines, s.ps ++ [p], s.sz⟩
 else ⟨s.lines, s.ps ++ [p], s.sz⟩
section
variable {w : World} {A : Around} {E : Value → Shared → Prop} {s s2 s3 : Shared} {x fd ac ad ll : Addr} {mx : Int} {spl : List Nat} {lines : List (List Nat)} {ps : List Piece} {sz : Int} {n : Nat} {b : Heap} {env : Env} {σ σ' : List (Str × D)} {O : List Str}
theorem Mid.of_lv (M : Mid s s2 env x fd ac ad ll mx spl lines ps sz σ) (rx : RX s2 s3) (lv : LV s2.heap (FL env s2.heap) env σ' O s3.heap) (off : Off env x fd ac ad ll) (hn : s.heap.get? env.locals = none) : Mid s s3 env x fd ac ad ll mx spl lines ps sz σ' :=
 ⟨M.rx.tr rx, fun c o nc nt e => lv.kbL c o (fun q => by rw [List.mem_singleton.mp q, hn] at e; cases e) nt (M.kb c o nc nt e), lv.big, M.fs.kb M.big lv.kbL off (LV.bd M.lv).lo, lv.clear.now⟩
theorem app_line {Q : Flow → Shared → Prop} {p1 p2 p3 p4 p5 p6 p7 pos q : Pos} (G : Gr w b) (hb0 : b.get? 140 = none ∧ b.get? 147 = none) (bsK : ∀ {s' : Shared}, KB [ac, ad, ll] s.heap s'.heap → b.StaysIn s'.heap) (fe : Fe env) (off : Off env x fd ac ad ll) (gstr : env.kindOf (Str.ofString "str") = some .globalImplicit) (ok : Ok 8 A)
  (M : Mid s s2 env x fd ac ad ll mx spl lines ps sz σ) (hself : σ.lookup (Str.ofString "self") = some (.con (.ref x))) (hl : lines.length < 1000) (hpl : ps.length < 900) (hpb : ∀ p ∈ ps, p.1.length + p.2.length < 1000) (hσ : ∀ {h' : Heap}, LV h' (fun _ => False) env σ [] h' → VD h' (.ref ll) (.list (TL lines)) → ∀ y l, σ.lookup y = some (.list l) → ¬ At h' env y (.ref ll))
  (hap : (p3.endLine == pos.line) = true) (hit : interactive env = false) (hsw : swapsWith (.Call (.Attribute (.Attribute (.Name (Str.ofString "self") p1) (Str.ofString "_lines") p2) (Str.ofString "append") p3) [.Call (.Name (Str.ofString "str") p4) [.Attribute (.Name (Str.ofString "self") p5) (Str.ofString "_current_line") p6] [] p7] [] pos) none q.line env = pure false)
  (h : ∀ s3, Mid s s3 env x fd ac ad ll mx spl (lines ++ [textP ps]) ps sz σ → Q .next s3) :
  wpAny (model PW w) A (exec (.Expr (.Call (.Attribute (.Attribute (.Name (Str.ofString "self") p1) (Str.ofString "_lines") p2) (Str.ofString "append") p3) [.Call (.Name (Str.ofString "str") p4) [.Attribute (.Name (Str.ofString "self") p5) (Str.ofString "_current_line") p6] [] p7] [] pos) q) env) Q E s2 := by
 have KK : ∀ {s' : Shared}, KB [ac, ad, ll] s.heap s'.heap → (hd.heap_1 w.params).In s'.heap := fun k a o e => bsK k a o (G.k a o e)
 refine wpAny_Expr_any (wpAny_Call_method rfl rfl hap PySem.F.plainAttrs_list PySem.F.slot_list_append PySem.F.type_list_append (the_lines (KK M.kb) fe M.lv hself M.fs.fm fun tk11 => ?_)) hit hsw
 have M11 := M.toks tk11
 obtain ⟨nn, vs, ell, hvs⟩ : ∃ n vs, s2.heap.get? ll = some ⟨.type "list", none, .seq vs.toArray n, #[]⟩ ∧ VDs s2.heap vs (TL lines) := by
  have := M.fs.ls
  obtain ⟨_, _, _, e, sl⟩ := VD.listR this; exact ⟨_, _, e, sl⟩
 refine ⟨⟨_, ell, rfl⟩, fun a q => by cases q; exact ⟨_, ell, rfl⟩, P.append_list ?_⟩
 refine call_type fe G (bsK M11.kb) g_str b_str (by decide) gstr rfl rfl fun h12 t12 k12 => ?_
 have M12 := M11.grow t12 k12
 refine cur_line (KK M12.kb) fe M12.lv hself M12.fs.fm fun tk13 => ?_
 have M13 := M12.toks tk13
 refine acc_strB G (bsK M13.kb) hb0.2 M13.big (ok.le (by omega)) M13.fs.fa hpl hpb fun t14 s14 x14 kt14 bg14 => ?_
 have M14 := M13.turn off.ad x14 (.of_t kt14) bg14 (M13.fs.fa.keepT M13.big kt14)
 have ell14 : s14.heap.get? ll = some ⟨.type "list", none, .seq vs.toArray nn, #[]⟩ := kt14 _ _ (M13.big.ntOf (k12 _ _ ell) fun vs q => nomatch q) (k12 _ _ ell)
 have hvl : vs.length = lines.length := by rw [hvs.length, List.length_map]
 refine ⟨vs.toArray, nn, by rw [List.size_toArray, sizeLine_eq]; omega, ell14, ?_⟩
 obtain ⟨m', eu⟩ := upd_list ell14 (fun xs => xs.push (.str (S (textP ps)) t14))
 rw [show (vs.toArray.push (Value.str (S (textP ps)) t14)).toList = vs ++ [.str (S (textP ps)) t14] from by simp] at eu
 have hnl14 : NT ll := M13.big.ntOf (k12 _ _ ell) fun vs q => nomatch q
 have hl' : VD (s14.heap.update ll (Obj.mapSeq fun xs => xs.push (.str (S (textP ps)) t14))) (.ref ll) (.list (TL (lines ++ [textP ps]))) := by
  refine .list hnl14 eu ?_
  obtain ⟨q, rfl, e2⟩ := vds_texts hvs
  have : strValues q ++ [.str (S (textP ps)) t14] = strValues (q ++ [(S (textP ps), t14)]) := by simp [strValues]
  rw [this]
  exact vds_of_values (by simp [e2])
 exact h _ (M14.put off.ll (hσ M14.lv M14.fs.ls) _ (Heap.SameBut.update ..) hl')
theorem fmt_call {y name : Str} {p1 p3 pos : Pos} {es : List Expr} {f : Addr} {h₀ : Heap} {F : Addr → Prop} {Q : Value → Shared → Prop} (K : (hd.heap_1 w.params).In s.heap) (fe : Fe env) (lv : LV h₀ F env σ O s.heap) (hx : σ.lookup y = some (.con (.ref x))) (X : Fm s.heap x fd ac ll mx spl)
  (hf : findIn (hd.heap_1 w.params) (.ref 94) name = some (some (.ref f))) (ht : typeIn (hd.heap_1 w.params) (.ref f) = some (.type "function")) (hm : ∀ cl ws t1 t2 t3 t4, fmM mx cl ws spl ac ll t1 t2 t3 t4 name = none)
  (hb : attributeBase (.Name y p1) name env (eval (.Name y p1) env) = eval (.Name y p1) env) (hd' : (y == ("__debug__" : Str)) = false)
  (he : ∃ pl, eval (.Call (.Attribute (.Name y p1) name p3) es [] pos) env = (do
   let ov ← attributeBase (.Name y p1) name env (eval (.Name y p1) env)
   standAt p3.atName
   let (f, first) ← holding [ov] (getMethod ov name pl)
   callWith pos f first (backTo pos (starEach es env)) []))
  (h : wpAny (model PW w) A (callWith pos (.ref f) [.ref x] (backTo pos (starEach es env)) []) Q E s) :
  wpAny (model PW w) A (eval (.Call (.Attribute (.Name y p1) name p3) es [] pos) env) Q E s := by
 obtain ⟨pl, he⟩ := he
 refine wpAny_at0 fun c => ks_wpAt_MethodCall (pl := pl) (PySem.wpAt_of_wpAny ?_) he
 rw [hb]
 refine name_at fe lv hx (fun v av vd => ?_) hd'
 obtain rfl := VD.conE vd
 obtain ⟨e, cl, ws, t1, t2, t3, t4, n⟩ := X
 exact fm_method K e n hf ht (hm _ _ _ _ _ _) h
theorem SP.snoc {ps : List Piece} {p : Piece} (h : SP ps) (hl : ps.length < 799) (hp : p.1.length + p.2.length < 900 ∧ Asc p.1 ∧ Asc p.2) : SP (ps ++ [p]) :=
 ⟨by rw [List.length_append]; simp only [List.length_singleton]; omega, fun q hq => by
  rcases List.mem_append.mp hq with hq | hq
  ·exact h.2 q hq
  ·rw [List.mem_singleton.mp hq]; exact hp⟩
theorem find_at {p : Nat → Bool} : ∀ {l : List Nat}, l.findIdx p < l.length → l.find? p = some (l.getD (l.findIdx p) 0)
 | [], h => by simp at h
 | a :: r, h => by
  rw [List.findIdx_cons] at h ⊢
  cases q : p a with
  | true => simp [q]
  | false =>
   rw [q] at h
   simp only [cond_false, List.length_cons] at h ⊢
   rw [List.find?_cons, q]
   have := find_at (p := p) (l := r) (by omega)
   rw [this]; simp
theorem find_no {p : Nat → Bool} {l : List Nat} (h : l.findIdx p = l.length) : l.find? p = none := by
 rw [List.find?_eq_none]
 intro a ha q
 have := List.findIdx_lt_length_of_exists ⟨a, ha, q⟩
 omega
theorem Mid.sub (M : Mid s s2 env x fd ac ad ll mx spl lines ps sz σ) {lines' : List (List Nat)} {ps' : List Piece} {sz' : Int} (rx : RX s2 s3) (kb : KB [ac, ad, ll] s2.heap s3.heap) (bg : Big s3.heap) (fs : FS s3.heap x fd ac ad ll mx spl lines' ps' sz') (him : ∀ p ∈ σ, ImD p.2) (nc : ∀ y, env.kindOf y ≠ some .cell) (off : Off env x fd ac ad ll) : Mid s s3 env x fd ac ad ll mx spl lines' ps' sz' σ := by
 refine ⟨M.rx.tr rx, M.kb.tr kb, bg, fs, (M.lv.easy him nc (fun o e => ?_) bg).clear.now⟩
 obtain ⟨m, o', es, ep, e', d, r⟩ := M.lv.ns
 refine kb _ _ (fun q => ?_) (M.big.ntOf e' fun vs q => by rw [d] at q; cases q) e
 simp only [List.mem_cons, List.not_mem_nil, or_false] at q
 rcases q with q | q | q
 ·exact off.ac q
 ·exact off.ad q
 ·exact off.ll q
theorem no_same {h : Heap} {a : Addr} {lines : List (List Nat)} {p : Piece} {qs : List Piece} (x : VD h (.ref a) (.list (TL lines))) (y : VD h (.ref a) (.list ((p :: qs).map PD))) : False := by
 obtain ⟨_, _, _, e, sl⟩ := VD.listR x
 obtain ⟨_, _, _, e', sl'⟩ := VD.listR y
 rw [e] at e'
 cases e'
 obtain ⟨_, _, rfl, a1, _⟩ := VDs.consE sl'
 cases lines with
 | nil => cases sl
 | cons t r =>
  cases sl with
  | cons a2 _ => obtain ⟨_, rfl⟩ := VD.strE a2; cases a1
theorem two_store {y z : Str} {d e : D} {elts : List Expr} {k : Nat} {tpos pos p1 p2 : Pos} {value : Expr} {Q : Flow → Shared → Prop} (hh : A.handled = none) (fe : Fe env) (hy : Stored env y) (hz : Stored env z) (hd : Low d) (he : Low e)
  (hE : (assignEach elts env).map (·.2) = [assign (.Name y p1) env, assign (.Name z p2) env]) (hn : (assignEach elts env).length = 2) (hstar : (assignEach elts env).findIdx? (·.1) = none)
  (hs : swapsWithSole [.Tuple elts k tpos] value pos.line env = pure false) (hw : swappedStores [.Tuple elts k tpos] value env = pure none)
  (h : wpAny (model PW w) A (eval value env) (fun v s1 => ∃ h₀ F σ O, LV h₀ F env σ O s1.heap ∧ VD s1.heap v (.tuple [d, e]) ∧ ∀ h' tk, LV h₀ F env ((z, e) :: (y, d) :: σ) (less (less O y) z) h' → Q .next { s1 with heap := h', toks := tk }) E s) :
  wpAny (model PW w) A (exec (.Assign [.Tuple elts k tpos] value pos) env) Q E s := by
 refine Assign_Tuple (wpAny_mono h (fun v s1 z1 => ?_) fun _ _ e => e) hs hw
 obtain ⟨h₀, F, σ, O, lv, v1, hq⟩ := z1
 obtain ⟨a, m, vs, rfl, na, ea, sl⟩ := VD.tupleE v1
 refine assign_Tuple_tuple hh ⟨_, ea, rfl, _, rfl⟩ (by rw [hn, List.size_toArray, sl.length]; rfl) hstar fun h2 x2 => ?_
 rw [hE]
 have k2 := stays_ext x2
 obtain ⟨_, _, rfl, a1, sl⟩ := VDs.consE sl
 obtain ⟨_, _, rfl, a2, sl⟩ := VDs.consE sl
 obtain rfl := VDs.nilE sl
 refine PySem.wpAny_assignInOrder_more (wpAny_assign_Name (store_low fe (lv.keep k2) hy (a1.keep k2) hd fun h3 t3 kv l3 => ?_))
 refine PySem.wpAny_assignInOrder_more (wpAny_assign_Name (store_low fe l3 hz (kv _ _ (a2.keep k2)) he fun h4 t4 kv l4 => PySem.wpAny_assignInOrder_none ?_))
 exact hq _ _ l4
theorem sx_outE {X : XRel} {h₀ : Heap} {F : Addr → Prop} {t : Sem Flow} {o o' : Out} (h : SX X w n env h₀ F t σ O o') (e : o' = o) : SX X w n env h₀ F t σ O o := e ▸ h
theorem small_down {L : Nat} (h : L < 1000) : Builtin.Range.small (L : Int) 0 (-1) = true := by
 unfold Builtin.Range.small
 simp only [Builtin.Range.rangeSize, Builtin.Range.rangeFitsLong, Bool.and_eq_true, Bool.or_eq_true, decide_eq_true_eq, beq_iff_eq]
 simp
 omega
theorem size_down (L : Nat) : Builtin.Range.rangeSize (L : Int) 0 (-1) = L := by
 unfold Builtin.Range.rangeSize
 simp
 omega
theorem rg_down {L i : Nat} {d : D} (e : (RG (L : Int) (-1) L)[i]? = some d) : i < L ∧ d = .int ((L - i : Nat) : Int) := by
 rw [List.getElem?_map] at e
 obtain ⟨j, e1, rfl⟩ := Option.map_eq_some_iff.mp e
 rw [List.getElem?_eq_some_iff] at e1
 obtain ⟨h1, h2⟩ := e1
 simp at h1 h2
 subst h2
 exact ⟨h1, by congr 1; omega⟩
theorem at1_le (c : Nat) (ps : List Piece) : at1 c ps ≤ ps.length - 1 := by
 have := List.findIdx_le_length (p := fun t => hit c ps (ps.length - 1 - t)) (xs := List.range (ps.length - 1))
 simpa [at1] using this
theorem at1_no {c : Nat} {ps : List Piece} {t : Nat} (h : t < at1 c ps) : hit c ps (ps.length - 1 - t) = false := by
 have := List.not_of_lt_findIdx h
 simpa using this
theorem at1_yes {c : Nat} {ps : List Piece} (h : at1 c ps < ps.length - 1) : hit c ps (ps.length - 1 - at1 c ps) = true := by
 have := List.findIdx_getElem (p := fun t => hit c ps (ps.length - 1 - t)) (xs := List.range (ps.length - 1)) (w := by simpa [at1] using h)
 simpa [at1] using this
end
namespace Kfmchunk
noncomputable def Claim0 (w : World) (A : Around) (E : Value → Shared → Prop) (s : Shared) (x : Addr) (fd : Addr) (ac : Addr) (ad : Addr) (ll : Addr) (mx : Int) (spl : List Nat) (lines : List (List Nat)) (ps : List Piece) (sz : Int) (b : Heap) (f : List Nat) (g : List Nat) (t1 : Tok) (t2 : Tok) (Q : Value → Shared → Prop) : Prop :=
 ∀ (G : Gr w b) (bs : b.StaysIn s.heap) (hb0 : b.get? 140 = none ∧ b.get? 147 = none) (hbT : ∀ c ∈ [ac, ad, ll], b.get? c = none) (hbig : Big s.heap) (ok : Ok 24 A) (X : FS s.heap x fd ac ad ll mx spl lines ps sz) (hac : ac ≠ 178) (hsz : 0 ≤ sz) (hsz' : sz < 100000) (hp : SP ps) (hpl : ps.length < 790) (hl : lines.length < 900) (hpc : f.length + g.length < 900 ∧ Asc f ∧ Asc g) (hspl : spl.length < 1000) (hQ : ∀ s', RX s s' → KB [ac, ad, ll] s.heap s'.heap → Big s'.heap → FS s'.heap x fd ac ad ll mx spl (chunk mx spl ⟨lines, ps, sz⟩ (f, g)).lines (chunk mx spl ⟨lines, ps, sz⟩ (f, g)).ps (chunk mx spl ⟨lines, ps, sz⟩ (f, g)).sz → Q .none s'), wpAny (model PW w) A (call (.ref 91) [.ref x, .str (S f) t1, .str (S g) t2]) Q E s
noncomputable abbrev Ty0 := (World) × (Around) × (Value → Shared → Prop) × (Shared) × (Addr) × (Addr) × (Addr) × (Addr) × (Addr) × (Int) × (List Nat) × (List (List Nat)) × (List Piece) × (Int) × (Heap) × (List Nat) × (List Nat) × (Tok) × (Tok) × (Value → Shared → Prop)
noncomputable def C0 (p : Ty0) : Prop := Claim0 p.1 p.2.1 p.2.2.1 p.2.2.2.1 p.2.2.2.2.1 p.2.2.2.2.2.1 p.2.2.2.2.2.2.1 p.2.2.2.2.2.2.2.1 p.2.2.2.2.2.2.2.2.1 p.2.2.2.2.2.2.2.2.2.1 p.2.2.2.2.2.2.2.2.2.2.1 p.2.2.2.2.2.2.2.2.2.2.2.1 p.2.2.2.2.2.2.2.2.2.2.2.2.1 p.2.2.2.2.2.2.2.2.2.2.2.2.2.1 p.2.2.2.2.2.2.2.2.2.2.2.2.2.2.1 p.2.2.2.2.2.2.2.2.2.2.2.2.2.2.2.1 p.2.2.2.2.2.2.2.2.2.2.2.2.2.2.2.2.1 p.2.2.2.2.2.2.2.2.2.2.2.2.2.2.2.2.2.1 p.2.2.2.2.2.2.2.2.2.2.2.2.2.2.2.2.2.2.1 p.2.2.2.2.2.2.2.2.2.2.2.2.2.2.2.2.2.2.2
noncomputable def eps0 : Ty0 := @Classical.epsilon Ty0 ⟨(aWorld 1, ({} : Around), (fun _ _ => True), ({} : Shared), (default : Addr), (default : Addr), (default : Addr), (default : Addr), (default : Addr), (default : Int), (default : List Nat), (default : List (List Nat)), (default : List Piece), (default : Int), (default : Heap), (default : List Nat), (default : List Nat), (default : Tok), (default : Tok), (fun _ _ => True))⟩ (fun p => ¬ C0 p)
noncomputable def w := eps0.1
noncomputable def A := eps0.2.1
noncomputable def E := eps0.2.2.1
noncomputable def s := eps0.2.2.2.1
noncomputable def x := eps0.2.2.2.2.1
noncomputable def fd := eps0.2.2.2.2.2.1
noncomputable def ac := eps0.2.2.2.2.2.2.1
noncomputable def ad := eps0.2.2.2.2.2.2.2.1
noncomputable def ll := eps0.2.2.2.2.2.2.2.2.1
noncomputable def mx := eps0.2.2.2.2.2.2.2.2.2.1
noncomputable def spl := eps0.2.2.2.2.2.2.2.2.2.2.1
noncomputable def lines := eps0.2.2.2.2.2.2.2.2.2.2.2.1
noncomputable def ps := eps0.2.2.2.2.2.2.2.2.2.2.2.2.1
noncomputable def sz := eps0.2.2.2.2.2.2.2.2.2.2.2.2.2.1
noncomputable def b := eps0.2.2.2.2.2.2.2.2.2.2.2.2.2.2.1
noncomputable def f := eps0.2.2.2.2.2.2.2.2.2.2.2.2.2.2.2.1
noncomputable def g := eps0.2.2.2.2.2.2.2.2.2.2.2.2.2.2.2.2.1
noncomputable def t1 := eps0.2.2.2.2.2.2.2.2.2.2.2.2.2.2.2.2.2.1
noncomputable def t2 := eps0.2.2.2.2.2.2.2.2.2.2.2.2.2.2.2.2.2.2.1
noncomputable def Q := eps0.2.2.2.2.2.2.2.2.2.2.2.2.2.2.2.2.2.2.2
set_option maxHeartbeats 8000000 in
set_option tactic.hygienic true in
theorem main0 : Claim0 w A E s x fd ac ad ll mx spl lines ps sz b f g t1 t2 Q := by
 intro G bs hb0 hbT hbig ok X hac hsz hsz' hp hpl hl hpc hspl hQ
 have hh := Eq.refl (PySem.Challenge.rw_xl0021_01, hd.heap_1)
 revert hh
 k_fill
 intro _
 refine' wpAny_call (enter (n := 23) (names := [Str.ofString "self", Str.ofString "fws", Str.ofString "string"]) (vs := [.ref x, .str (S f) t1, .str (S g) t2]) (ds := [.con (.ref x), .str (S f), .str (S g)]) _ G bs hbig ok ?k1 ?k2 ?k3 rfl (.cons (.con _) (.cons (.str _ _) (.cons (.str _ _) .nil))) (by decide) ?k4 ?k5 ?k6 ?k7 ?k8 ?k9 ?k10 ?k11)
 case k1 => k_is
 case k2 => k_is
 case k3 => exact BindsTo.of_eq rfl
 case k4 => decide
 case k5 => intro d hd; simp at hd; rcases hd with rfl | rfl | rfl; exact .inr ⟨_, rfl⟩; exact .inl (.inl (.str _)); exact .inl (.inl (.str _))
 case k6 => exact one_none (by intro d hd l q; subst q; simp at hd)
 case k7 => decide
 case k9 => rfl
 case k10 => rfl
 case k11 => rfl
 case k8 =>
  intro h₁ tk fe kp lv
  refine PySem.wpAt_of_wpAny ?_
  generalize hEnv : envX (Str.ofString "_ValueFormatter._append_chunk") _ _ _ _ _ = env at *
  have nc : ∀ y, env.kindOf y ≠ some .cell := nocell_of (by rw [← hEnv]; dsimp only [envX]; decide)
  have off : Off env x fd ac ad ll := X.off (by rw [← hEnv])
  have hn : s.heap.get? env.locals = none := by rw [← hEnv]; exact fresh_size s.heap
  have bsK : ∀ {s' : Shared}, KB [ac, ad, ll] s.heap s'.heap → b.StaysIn s'.heap := fun k => base_kb hb0 hbT bs k
  have KK : ∀ {s' : Shared}, KB [ac, ad, ll] s.heap s'.heap → (hd.heap_1 w.params).In s'.heap := fun k a o e => bsK k a o (G.k a o e)
  have tac : ∀ c ∈ [ac], c ∈ [ac, ad] := by simp
  have okd : Ok 23 (A.deeper env) := ok.deeper
  have hbr : b.get? env.locals = none := by
   cases q : b.get? env.locals with
   | none => rfl
   | some o => rw [bs _ _ q] at hn; cases hn
  have glen : env.kindOf (Str.ofString "len") = some .globalImplicit := by rw [← hEnv]; rfl
  have gstr : env.kindOf (Str.ofString "str") = some .globalImplicit := by rw [← hEnv]; rfl
  have grng : env.kindOf (Str.ofString "range") = some .globalImplicit := by rw [← hEnv]; rfl
  have kch : env.kindOf (Str.ofString "ch") = some .local := by rw [← hEnv]; rfl
  have ki : env.kindOf (Str.ofString "i") = some .local := by rw [← hEnv]; rfl
  have kf : env.kindOf (Str.ofString "fws") = some .local := by rw [← hEnv]; rfl
  have kq : env.kindOf (Str.ofString "prevpart") = some .local := by rw [← hEnv]; rfl
  have kpt : env.kindOf (Str.ofString "part") = some .local := by rw [← hEnv]; rfl
  have kr : env.kindOf (Str.ofString "remainder") = some .local := by rw [← hEnv]; rfl
  have M1 : Mid s { s with heap := h₁, toks := tk } env x fd ac ad ll mx spl lines ps sz [(Str.ofString "self", .con (.ref x)), (Str.ofString "fws", .str (S f)), (Str.ofString "string", .str (S g))] :=
   ⟨RX.ht _ _ _, .of_stays kp, lv.big, X.keep kp, lv.clear.now⟩
  clear lv
  have hp1 : SP (ps ++ [(f, g)]) := hp.snoc (by omega) hpc
  have hpb1 : ∀ p ∈ ps ++ [(f, g)], p.1.length + p.2.length < 1000 := fun p h => Nat.lt_trans (hp1.2 p h).1 (by decide)
  have hl1 : (ps ++ [(f, g)]).length = ps.length + 1 := by simp
  refine wpAny_execs_cons (wpAny_mono (Q := fun fl s2 => fl = .next ∧ Mid s s2 env x fd ac ad ll mx spl lines (ps ++ [(f, g)]) sz [(Str.ofString "self", .con (.ref x)), (Str.ofString "fws", .str (S f)), (Str.ofString "string", .str (S g))]) ?_ (fun fl s2 h2 => ?_) fun _ _ e => e)
  ·refine wpAny_Expr_any (cur_call (KK M1.kb) fe M1.lv rfl M1.fs accF.1.1 accF.2.1 (by decide) rfl ⟨_, rfl⟩ fun tk1 => ?_) (by rw [← hEnv]; rfl) rfl
   have M2 := M1.toks tk1
   refine callWith_K (K := hd.heap_1 w.params) (h₀ := h₁) (KK M2.kb) keepF.1 (spliced_cons (name_at fe M2.lv rfl fun v1 _ hv1 => spliced_cons (name_at fe M2.lv rfl fun v2 _ hv2 => spliced_nil ⟨KK M2.kb, ?_⟩))) rfl rfl
   obtain ⟨_, rfl⟩ := VD.strE hv1; obtain ⟨_, rfl⟩ := VD.strE hv2
   refine acc_push G (bsK M2.kb) M2.big (okd.le (by omega)) M2.fs.fa (by omega) fun h6 t6 kx bg fa => ⟨rfl, ?_⟩
   exact M2.turn off.ad (RX.ht _ _ _) ((KB.of_x kx).le tac) bg fa
  obtain ⟨rfl, M⟩ := h2
  clear M1
  have fin : ∀ {s' : Shared} {l' : List (List Nat)} {ps' : List Piece} {sz' : Int} {σ'}, Mid s s' env x fd ac ad ll mx spl l' ps' sz' σ' → chunk mx spl ⟨lines, ps, sz⟩ (f, g) = ⟨l', ps', sz'⟩ → Q .none s' := fun M e => by
   refine hQ _ M.rx M.kb M.big ?_
   rw [e]; exact M.fs
  refine wpAny_execs_cons (wpAny_If (PySem.wpAny_isTrue_Compare1 (wpAny_Call_Name_kw ?_) (by with_unfolding_all rfl)))
  refine ev_builtin fe G (bsK M.kb) g_len b_len (by decide) glen (by decide) _ _ s2 _ okd (stays_refl _) fun v h5 t5 k5 hv => ?_
  obtain rfl := VD.conE hv
  have M5 := M.grow t5 k5
  refine callWith_builtin rfl (evalArgs_plain (spliced_cons (cur_line (KK M5.kb) fe M5.lv rfl M5.fs.fm fun tk6 => spliced_nil ?_)))
  have M6 := M5.toks tk6
  refine acc_lenB G (bsK M6.kb) hb0.1 M6.big (okd.le (by omega)) M6.fs.fa hsz hsz' (by omega) hpb1 fun t7 s7 x7 kt7 bg7 => ?_
  have M7 := M6.turn off.ad x7 (.of_t kt7) bg7 (M6.fs.fa.keepT M6.big kt7)
  refine ev_mxl G (bsK M7.kb) fe M7.lv rfl M7.fs _ _ _ _ okd (stays_refl _) fun v8 h8 t8 k8 hv8 => ?_
  obtain ⟨_, rfl⟩ := VD.intE hv8
  have M8 := M7.grow t8 k8
  refine gt_int (wpAny_truthy_bool ?_)
  by_cases q : mx < sz + lenP (ps ++ [(f, g)])
  case neg =>
   rw [if_neg (by simpa using q)]
   refine wpAny_execs_nil (wpAny_execs_nil (fin M8 ?_))
   unfold chunk
   rw [if_neg q]
  rw [if_pos (decide_eq_true q)]
  obtain ⟨sb, hsb⟩ : ∃ sb, sb = ({ s7 with heap := h8, toks := t8 } : Shared) := ⟨_, rfl⟩
  have Mb : Mid s sb env x fd ac ad ll mx spl lines (ps ++ [(f, g)]) sz [(Str.ofString "self", .con (.ref x)), (Str.ofString "fws", .str (S f)), (Str.ofString "string", .str (S g))] := by rw [hsb]; exact M8
  show wpAny _ _ _ _ _ ({ s7 with heap := h8, toks := t8 } : Shared)
  rw [← hsb]
  clear M8 M7 M6 M5 M hsb
  have Y : Srch b env x fd ac ad ll mx spl lines (ps ++ [(f, g)]) sz sb.heap := ⟨bsK Mb.kb, Mb.fs, Mb.lv.bd, off, hbr⟩
  have lvb := Mb.lv.fix nc
  have hL0 : ((ps ++ [(f, g)]).length : Int) - 1 = (((ps ++ [(f, g)]).length - 1 : Nat) : Int) := by omega
  refine wpAny_execs_cons (for_wp (X := XL fun _ => True) (n := 23) (ds := SG spl) (fun _ => [(Str.ofString "self", .con (.ref x))]) (spl.findIdx (found (ps ++ [(f, g)]))) [(Str.ofString "i", .int (((ps ++ [(f, g)]).length - 1 - at1 (spl.getD (spl.findIdx (found (ps ++ [(f, g)]))) 0) (ps ++ [(f, g)]) : Nat) : Int)), (Str.ofString "self", .con (.ref x))] fe nc kch ⟨okd, trivial⟩ lvb
   (fun h lv => ei_str lv.big (ev_spl G (Y.lv lv).bs fe lv rfl (Y.lv lv).fs)) (sub_cons rfl sub_nil) (fun _ p hp => by rw [List.mem_singleton.mp hp]; exact .con _) (fun i d e => ?ds) ?kl ?turn ?brk ?out ?els)
  case ds =>
   rw [List.getElem?_map] at e
   obtain ⟨c, _, rfl⟩ := Option.map_eq_some_iff.mp e
   exact ⟨.str _, .str _⟩
  case kl =>
   rw [List.length_map]; exact List.findIdx_le_length
  case turn =>
   intro h₂ bd k i d hi hd
   rw [List.getElem?_map] at hd
   obtain ⟨c, hc, rfl⟩ := Option.map_eq_some_iff.mp hd
   have hnf : found (ps ++ [(f, g)]) c = false := by
    have := List.not_of_lt_findIdx hi
    rw [List.getElem?_eq_some_iff] at hc
    obtain ⟨h1, h2⟩ := hc
    rw [h2] at this
    simpa using this
   have Y2 := Y.on bd k
   refine .inr (sx_cons_cont (sx_outE (sx_forE (n := 23) (ds := RG (((ps ++ [(f, g)]).length - 1 : Nat) : Int) (-1) ((ps ++ [(f, g)]).length - 1)) (fun _ => [(Str.ofString "ch", .str (S [c])), (Str.ofString "self", .con (.ref x))]) (at1 c (ps ++ [(f, g)])) [(Str.ofString "i", .int (((ps ++ [(f, g)]).length - 1 - at1 c (ps ++ [(f, g)]) : Nat) : Int)), (Str.ofString "ch", .str (S [c])), (Str.ofString "self", .con (.ref x))] (.cont [(Str.ofString "self", .con (.ref x))] []) fe nc ki
    (fun h lv => ei_range lv.big (ev_range3 fe G (Y2.lv lv).bs lv.big (ev_eq (ev_sub (ev_count (n := 19) G (Y2.lv lv).bs fe lv rfl (Y2.lv lv).fs hac) ev_int) (congrArg D.int hL0)) ev_int ev_neg1 (by decide) (by decide) grng rfl rfl rfl rfl) (small_down (by omega)) (size_down _)) (sub_cons rfl (sub_cons rfl sub_nil)) (fun _ p hp => by
     rcases List.mem_cons.mp hp with rfl | hp
     ·exact .str _
     ·rw [List.mem_singleton.mp hp]; exact .con _) (fun i d e => by rw [(rg_down e).2]; exact ⟨.int _, .int _⟩) (by simp only [List.length_map, List.length_range]; exact at1_le c _)
    (fun h₃ bd3 k3 i3 d3 hi3 hd3 => by
     obtain ⟨hi4, rfl⟩ := rg_down hd3
     have Y3 := Y2.on bd3 k3
     exact .inl (sx_outE (turn_sx (c := c) (i := (ps ++ [(f, g)]).length - 1 - i3) G fe Y3 (by omega) (by omega) (by omega) hpb1 kf kq rfl (by rw [← hEnv]; rfl) (by rw [← hEnv]; rfl)) (by rw [at1_no hi3, if_neg (by decide)])))
    (fun hk3 h₃ bd3 k3 d3 hd3 => by
     obtain ⟨hi4, rfl⟩ := rg_down hd3
     have Y3 := Y2.on bd3 k3
     exact sx_outE (turn_sx (c := c) (i := (ps ++ [(f, g)]).length - 1 - at1 c (ps ++ [(f, g)])) G fe Y3 (by omega) (by omega) (by omega) hpb1 kf kq rfl (by rw [← hEnv]; rfl) (by rw [← hEnv]; rfl)) (by rw [at1_yes hi4, if_pos rfl]))
    (fun _ => sx_one (sx_weak sx_continue (sub_cons rfl sub_nil) (fun _ _ q => nomatch q)))) ?_))
   rw [List.length_map, List.length_range, if_neg (by simpa [found] using hnf)]
  case brk =>
   intro hk h₂ bd k d hd
   rw [List.getElem?_map] at hd
   obtain ⟨c, hc, rfl⟩ := Option.map_eq_some_iff.mp hd
   rw [List.length_map] at hk
   have hcc : spl.getD (spl.findIdx (found (ps ++ [(f, g)]))) 0 = c := by rw [List.getD_eq_getElem?_getD, hc]; rfl
   have hf : found (ps ++ [(f, g)]) c = true := by
    have := List.findIdx_getElem (p := found (ps ++ [(f, g)])) (xs := spl) (w := hk)
    rw [List.getElem?_eq_some_iff] at hc
    obtain ⟨h1, h2⟩ := hc
    rwa [h2] at this
   have Y2 := Y.on bd k
   rw [hcc]
   refine sx_cons (σ' := [(Str.ofString "i", .int (((ps ++ [(f, g)]).length - 1 - at1 c (ps ++ [(f, g)]) : Nat) : Int)), (Str.ofString "ch", .str (S [c])), (Str.ofString "self", .con (.ref x))]) (O' := []) (sx_outE (sx_forE (n := 23) (ds := RG (((ps ++ [(f, g)]).length - 1 : Nat) : Int) (-1) ((ps ++ [(f, g)]).length - 1)) (fun _ => [(Str.ofString "ch", .str (S [c])), (Str.ofString "self", .con (.ref x))]) (at1 c (ps ++ [(f, g)])) [(Str.ofString "i", .int (((ps ++ [(f, g)]).length - 1 - at1 c (ps ++ [(f, g)]) : Nat) : Int)), (Str.ofString "ch", .str (S [c])), (Str.ofString "self", .con (.ref x))] (.cont [(Str.ofString "self", .con (.ref x))] []) fe nc ki
    (fun h lv => ei_range lv.big (ev_range3 fe G (Y2.lv lv).bs lv.big (ev_eq (ev_sub (ev_count (n := 19) G (Y2.lv lv).bs fe lv rfl (Y2.lv lv).fs hac) ev_int) (congrArg D.int hL0)) ev_int ev_neg1 (by decide) (by decide) grng rfl rfl rfl rfl) (small_down (by omega)) (size_down _)) (sub_cons rfl (sub_cons rfl sub_nil)) (fun _ p hp => by
     rcases List.mem_cons.mp hp with rfl | hp
     ·exact .str _
     ·rw [List.mem_singleton.mp hp]; exact .con _) (fun i d e => by rw [(rg_down e).2]; exact ⟨.int _, .int _⟩) (by simp only [List.length_map, List.length_range]; exact at1_le c _)
    (fun h₃ bd3 k3 i3 d3 hi3 hd3 => by
     obtain ⟨hi4, rfl⟩ := rg_down hd3
     have Y3 := Y2.on bd3 k3
     exact .inl (sx_outE (turn_sx (c := c) (i := (ps ++ [(f, g)]).length - 1 - i3) G fe Y3 (by omega) (by omega) (by omega) hpb1 kf kq rfl (by rw [← hEnv]; rfl) (by rw [← hEnv]; rfl)) (by rw [at1_no hi3, if_neg (by decide)])))
    (fun hk3 h₃ bd3 k3 d3 hd3 => by
     obtain ⟨hi4, rfl⟩ := rg_down hd3
     have Y3 := Y2.on bd3 k3
     exact sx_outE (turn_sx (c := c) (i := (ps ++ [(f, g)]).length - 1 - at1 c (ps ++ [(f, g)])) G fe Y3 (by omega) (by omega) (by omega) hpb1 kf kq rfl (by rw [← hEnv]; rfl) (by rw [← hEnv]; rfl)) (by rw [at1_yes hi4, if_pos rfl]))
    (fun _ => sx_one (sx_weak sx_continue (sub_cons rfl sub_nil) (fun _ _ q => nomatch q)))) ?_) (sx_one (sx_weak sx_break (sub_cons rfl (sub_cons rfl sub_nil)) (fun _ _ q => nomatch q)))
   rw [List.length_map, List.length_range, if_pos (by simpa [found] using hf)]
  case out =>
   intro hk s' rx lv'
   rw [List.length_map] at hk
   generalize hc : spl.getD (spl.findIdx (found (ps ++ [(f, g)]))) 0 = c at lv'
   have hsk : seek spl (ps ++ [(f, g)]) = some ((ps ++ [(f, g)]).length - 1 - at1 c (ps ++ [(f, g)])) := by
    unfold seek
    rw [find_at hk, hc]; rfl
   have hfc : found (ps ++ [(f, g)]) c = true := by
    have := List.find?_some (find_at hk)
    rwa [hc] at this
   have hat : at1 c (ps ++ [(f, g)]) < (ps ++ [(f, g)]).length - 1 := by simpa [found] using hfc
   generalize hi0 : (ps ++ [(f, g)]).length - 1 - at1 c (ps ++ [(f, g)]) = i0 at *
   have hi1 : i0 < (ps ++ [(f, g)]).length := by omega
   have M1 := Mb.of_lv rx lv' off hn
   have hch : chunk mx spl ⟨lines, ps, sz⟩ (f, g) = ⟨lines ++ [textP ((ps ++ [(f, g)]).take i0)], (ps ++ [(f, g)]).drop i0, 0⟩ := by
    unfold chunk
    rw [if_pos q, hsk]
   have hcons : ∃ p qs, (ps ++ [(f, g)]).drop i0 = p :: qs := by
    cases e : (ps ++ [(f, g)]).drop i0 with
    | nil => rw [List.drop_eq_nil_iff] at e; omega
    | cons p qs => exact ⟨p, qs, rfl⟩
   obtain ⟨p0, qs0, hpq⟩ := hcons
   refine wpAny_execs_cons (wpAny_Assign_Name ?_ rfl)
   refine cur_call (KK M1.kb) fe M1.lv rfl M1.fs accF.1.2.1 accF.2.2.1 (by decide) rfl ⟨_, rfl⟩ fun tk1 => ?_
   have M2 := M1.toks tk1
   refine callWith_K (K := hd.heap_1 w.params) (h₀ := s'.heap) (KK M2.kb) keepF.2.1 (spliced_cons (name_at fe M2.lv rfl fun v1 _ hv1 => spliced_nil ⟨KK M2.kb, ?_⟩)) rfl rfl
   obtain ⟨_, rfl⟩ := VD.intE hv1
   refine acc_pop_from G (bsK M2.kb) M2.big (okd.le (by omega)) M2.fs.fa (by omega) (by omega) fun v h3 t3 kx bg fa hv nw => ?_
   have M3 := M2.turn off.ad (RX.ht _ h3 t3) ((KB.of_x kx).le tac) bg fa
   have lv3 := M3.lv.fix nc
   refine store_name (s := { s' with heap := h3, toks := t3 }) (d := .list (((ps ++ [(f, g)]).drop i0).map PD)) (O' := []) fe lv3 (.inl kr) hv (.inl (.inr ⟨_, rfl, lows_PD _⟩)) (fun a' l' _ _ z m hz hl _ => ?_) (fun z hz => nomatch hz) fun h4 t4 kv4 lv4 => ?_
   ·rw [List.lookup_cons] at hl
    split at hl
    ·cases hl
    ·rw [List.lookup_cons] at hl
     split at hl <;> cases hl
   have M4 := M3.of_lv (RX.ht _ h4 t4) lv4 off hn
   have hps4 : ((ps ++ [(f, g)]).take i0).length < 900 := by rw [List.length_take]; omega
   have hpb4 : ∀ p ∈ (ps ++ [(f, g)]).take i0, p.1.length + p.2.length < 1000 := fun p hp => hpb1 p (List.mem_of_mem_take hp)
   refine wpAny_execs_cons (app_line G hb0 bsK fe off gstr (okd.le (by omega)) M4 rfl (by omega) hps4 hpb4 (fun {h'} lv' hll y l hy hat' => ?_) rfl (by rw [← hEnv]; rfl) rfl fun s5 M5 => ?_)
   ·rw [List.lookup_cons] at hy
    by_cases qy : (y == Str.ofString "remainder") = true
    ·rw [qy] at hy
     cases hy
     have e : y = Str.ofString "remainder" := by simpa using qy
     subst e
     obtain ⟨v', a', hv'⟩ := lv'.rd (Str.ofString "remainder") _ rfl
     have := a'.uniq hat'
     subst this
     rw [hpq] at hv'
     exact no_same hll hv'
    ·rw [Bool.eq_false_iff.mpr qy, List.lookup_cons] at hy
     dsimp only at hy
     split at hy
     ·cases hy
     ·rw [List.lookup_cons] at hy
      split at hy <;> cases hy
   refine wpAny_execs_cons (wpAny_Expr_any ?_ (by rw [← hEnv]; rfl) rfl)
   refine cur_call (KK M5.kb) fe M5.lv rfl M5.fs accF.1.2.2.2.1 accF.2.2.2.2.1 (by decide) rfl ⟨_, rfl⟩ fun tk6 => ?_
   have M6 := M5.toks tk6
   refine callWith_K (K := hd.heap_1 w.params) (h₀ := s5.heap) (KK M6.kb) keepF.2.2.2.1 (spliced_cons (name_at fe M6.lv rfl fun v7 _ hv7 => spliced_nil ⟨KK M6.kb, ?_⟩)) rfl rfl
   refine acc_reset G (bsK M6.kb) M6.big (okd.le (by omega)) M6.fs.fa hps4 (by rw [List.length_drop]; omega) (hbT _ (by simp)) hv7 fun h8 t8 kx bg fa => ?_
   have M8 := M6.turn off.ad (RX.ht _ h8 t8) (.of_x kx) bg fa
   exact wpAny_execs_nil (wpAny_execs_nil (fin M8 hch))
  case els =>
   intro hk s' E' rx lv'
   rw [List.length_map] at hk
   have hsk : seek spl (ps ++ [(f, g)]) = none := by
    unfold seek
    rw [find_no hk]; rfl
   have M1 := Mb.of_lv rx lv' off hn
   have hlast : (ps ++ [(f, g)]).getLast?.getD ([], []) = (f, g) := by simp
   have hdl : (ps ++ [(f, g)]).dropLast = ps := by simp
   refine wpAny_execs_cons (wpAny_mono (Q := fun fl s2 => fl = .next ∧ Mid s s2 env x fd ac ad ll mx spl lines ps sz [(Str.ofString "part", .str (S g)), (Str.ofString "fws", .str (S f)), (Str.ofString "self", .con (.ref x))]) ?_ (fun fl s2 h2 => ?_) fun _ _ e => e)
   ·refine two_store (d := .str (S f)) (e := .str (S g)) okd.hd fe (.inl kf) (.inl kpt) (.str _) (.str _) rfl rfl rfl rfl rfl ?_
    refine cur_call (KK M1.kb) fe M1.lv rfl M1.fs accF.1.2.2.1 accF.2.2.2.1 (by decide) rfl ⟨_, rfl⟩ fun tk1 => ?_
    have M2 := M1.toks tk1
    refine callWith_K0 (KK M2.kb) keepF.2.2.1 ?_
    refine acc_pop G (bsK M2.kb) M2.big (okd.le (by omega)) M2.fs.fa hac (by omega) fun v h3 t3 kx bg fa hv => ?_
    rw [hlast] at hv
    rw [hdl] at fa
    have M3 := M2.turn off.ad (RX.ht _ h3 t3) ((KB.of_x kx).le tac) bg fa
    refine ⟨_, _, _, _, M3.lv.fix nc, hv, fun h4 t4 lv4 => ⟨rfl, ?_⟩⟩
    exact (M3.of_lv (RX.ht _ h4 t4) lv4 off hn).weak (sub_cons rfl (sub_cons rfl (sub_cons rfl sub_nil)))
   obtain ⟨rfl, M2⟩ := h2
   clear M1
   have hasc := hpc.2
   refine wpAny_execs_cons (wpAny_mono (Q := fun fl s3 => fl = .next ∧ Mid s s3 env x fd ac ad ll mx spl (if 0 < sz then nlL lines ps sz else lines) (if 0 < sz then [] else ps) (if 0 < sz then 0 else sz) [(Str.ofString "part", .str (S g)), (Str.ofString "fws", .str (S (if 0 < sz ∧ f = [] then [32] else f))), (Str.ofString "self", .con (.ref x))]) ?_ (fun fl s3 h3 => ?_) fun _ _ e => e)
   ·refine wpAny_If (bv_cmp (ev_isz G (bsK M2.kb) fe M2.lv rfl M2.fs) ev_int cmp_gt (by with_unfolding_all rfl) _ _ _ _ okd (stays_refl _) fun h3 t3 k3 => ?_)
    have M3 := M2.grow t3 k3
    by_cases q0 : 0 < sz
    ·rw [if_pos (decide_eq_true q0)]
     simp only [q0, if_true, true_and]
     refine wpAny_execs_cons (wpAny_Expr_any ?_ (by rw [← hEnv]; rfl) rfl)
     refine fmt_call (KK M3.kb) fe M3.lv rfl M3.fs.fm fmF.1.1 fmF.2.1 (fun _ _ _ _ _ _ => rfl) rfl (by decide) ⟨_, rfl⟩ ?_
     refine callWith_K0 (KK M3.kb) keepF.2.2.2.2.2.2.1 ?_
     refine fm_newline G (bsK M3.kb) hb0 hbT M3.big (okd.le (by omega)) M3.fs hac hsz hsz' hp (by omega) (fun q1 => by omega) fun s4 rx4 kb4 bg4 fs4 => ?_
     have M4 := M3.sub rx4 kb4 bg4 fs4 (fun p hp => by
      simp only [List.mem_cons, List.not_mem_nil, or_false] at hp
      rcases hp with rfl | rfl | rfl
      ·exact .str _
      ·exact .str _
      ·exact .con _) nc off
     by_cases qf : f = []
     ·rw [qf] at M4 ⊢
      refine wpAny_execs_cons (wpAny_If (isTrue_not (bv_pos (ev_name fe M4.lv rfl) (by decide) (by with_unfolding_all rfl) _ _ _ _ okd (stays_refl _) fun h5 t5 k5 => ?_)))
      have M5 := M4.grow t5 k5
      rw [if_pos (by rfl)]
      refine wpAny_execs_cons (wpAny_Assign_Name (ev_strS _ _ _ _ okd (stays_refl _) fun v6 h6 t6 k6 hv6 => ?_) rfl)
      have M6 := M5.grow t6 k6
      refine store_low (s := { s4 with heap := h6, toks := t6 }) fe (M6.lv.fix nc) (.inl kf) hv6 (.str _) fun h7 t7 kv7 lv7 => ?_
      have M7 := M6.of_lv (RX.ht _ h7 t7) lv7 off hn
      refine wpAny_execs_nil (wpAny_execs_nil ⟨rfl, ?_⟩)
      rw [txt_blank] at M7
      exact M7.weak (sub_cons rfl (sub_cons rfl (sub_cons rfl sub_nil)))
     ·refine wpAny_execs_cons (wpAny_If (isTrue_not (bv_pos (ev_name fe M4.lv rfl) (by omega) (by with_unfolding_all rfl) _ _ _ _ okd (stays_refl _) fun h5 t5 k5 => ?_)))
      have M5 := M4.grow t5 k5
      have hfe : f.isEmpty = false := List.isEmpty_eq_false_iff.mpr qf
      rw [hfe, if_neg (by decide)]
      refine wpAny_execs_nil (wpAny_execs_nil ⟨rfl, ?_⟩)
      rw [if_neg qf]
      exact M5
    ·rw [if_neg (by simpa using q0)]
     simp only [q0, if_false, false_and]
     exact wpAny_execs_nil ⟨rfl, M3⟩
   obtain ⟨rfl, M3⟩ := h3
   clear M2
   have hch : chunk mx spl ⟨lines, ps, sz⟩ (f, g) = ⟨if 0 < sz then nlL lines ps sz else lines, (if 0 < sz then [] else ps) ++ [((if 0 < sz ∧ f = [] then [32] else f), g)], if 0 < sz then 0 else sz⟩ := by
    unfold chunk
    rw [if_pos q, hsk]
    by_cases q0 : 0 < sz
    ·simp [q0]
    ·simp [q0]
   refine wpAny_execs_cons (wpAny_Expr_any (cur_call (KK M3.kb) fe M3.lv rfl M3.fs accF.1.1 accF.2.1 (by decide) rfl ⟨_, rfl⟩ fun tk1 => ?_) (by rw [← hEnv]; rfl) rfl)
   have M4 := M3.toks tk1
   refine callWith_K (K := hd.heap_1 w.params) (h₀ := s3.heap) (KK M4.kb) keepF.1 (spliced_cons (name_at fe M4.lv rfl fun v1 _ hv1 => spliced_cons (name_at fe M4.lv rfl fun v2 _ hv2 => spliced_nil ⟨KK M4.kb, ?_⟩))) rfl rfl
   obtain ⟨_, rfl⟩ := VD.strE hv1; obtain ⟨_, rfl⟩ := VD.strE hv2
   refine acc_push G (bsK M4.kb) M4.big (okd.le (by omega)) M4.fs.fa (by split <;> first | omega | simp) fun h6 t6 kx bg fa => ?_
   have M5 := M4.turn off.ad (RX.ht _ h6 t6) ((KB.of_x kx).le tac) bg fa
   exact wpAny_execs_cons (wpAny_Return_none (fin M5 hch))
end Kfmchunk
section
variable {w : World} {A : Around} {E : Value → Shared → Prop} {s s2 s3 : Shared} {x fd ac ad ll : Addr} {mx : Int} {spl : List Nat} {lines : List (List Nat)} {ps : List Piece} {sz : Int} {n : Nat} {b : Heap} {env : Env} {σ σ' : List (Str × D)} {O : List Str}
theorem fm_chunk {f g : List Nat} {t1 t2 : Tok} {Q : Value → Shared → Prop} (G : Gr w b) (bs : b.StaysIn s.heap) (hb0 : b.get? 140 = none ∧ b.get? 147 = none) (hbT : ∀ c ∈ [ac, ad, ll], b.get? c = none) (hbig : Big s.heap) (ok : Ok 24 A) (X : FS s.heap x fd ac ad ll mx spl lines ps sz)
  (hac : ac ≠ 178) (hsz : 0 ≤ sz) (hsz' : sz < 100000) (hp : SP ps) (hpl : ps.length < 790) (hl : lines.length < 900) (hpc : f.length + g.length < 900 ∧ Asc f ∧ Asc g) (hspl : spl.length < 1000)
  (hQ : ∀ s', RX s s' → KB [ac, ad, ll] s.heap s'.heap → Big s'.heap → FS s'.heap x fd ac ad ll mx spl (chunk mx spl ⟨lines, ps, sz⟩ (f, g)).lines (chunk mx spl ⟨lines, ps, sz⟩ (f, g)).ps (chunk mx spl ⟨lines, ps, sz⟩ (f, g)).sz → Q .none s') :
  wpAny (model PW w) A (call (.ref 91) [.ref x, .str (S f) t1, .str (S g) t2]) Q E s :=
 by_eps (C := Kfmchunk.C0) _ Kfmchunk.main0 (w, A, E, s, x, fd, ac, ad, ll, mx, spl, lines, ps, sz, b, f, g, t1, t2, Q) G bs hb0 hbT hbig ok X hac hsz hsz' hp hpl hl hpc hspl hQ
end
end Mine
-- MF29
namespace Mine
section
variable {w : World} {A : Around} {E : Value → Shared → Prop} {s s2 s3 : Shared} {x fd ac ad ll : Addr} {mx : Int} {spl : List Nat} {lines : List (List Nat)} {ps : List Piece} {sz : Int} {n : Nat} {b : Heap} {env : Env} {σ σ' : List (Str × D)} {O : List Str}
theorem join_ok {sep : List Nat} {l : List (List Nat)} (hs : sep.length < 1000) (hl : l.length < 2000) (hb : ∀ x ∈ l, x.length < 5000) : JoinOk (S sep) (l.map S) = true := by
 refine joinOk_of ?_
 have hb2 : ∀ m : List (List Nat), (∀ x ∈ m, x.length < 5000) → ((m.map S).map (·.length)).sum ≤ 5000 * m.length := by
  intro m
  induction m with
  | nil => intro _; simp
  | cons x m ih =>
   intro h
   have := ih fun y hy => h y (.tail _ hy)
   have := h x (.head _)
   simp only [List.map_cons, List.sum_cons, List.length_cons, S_len] at *
   omega
 have := hb2 l hb
 simp only [S_len, List.length_map] at this ⊢
 have h2 : l.length * sep.length ≤ 2000 * 1000 := Nat.mul_le_mul (by omega) (by omega)
 have h3 : (l.length - 1) * sep.length ≤ 2000 * 1000 := Nat.mul_le_mul (by omega) (by omega)
 have h4 : sep.length * (l.length - 1) ≤ 1000 * 2000 := Nat.mul_le_mul (by omega) (by omega)
 have z := sizeLine_eq
 omega
end
namespace Kfmstr
noncomputable def Claim0 (w : World) (A : Around) (E : Value → Shared → Prop) (s : Shared) (x : Addr) (fd : Addr) (ac : Addr) (ad : Addr) (ll : Addr) (mx : Int) (spl : List Nat) (lines : List (List Nat)) (ps : List Piece) (sz : Int) (b : Heap) (sep : List Nat) (t1 : Tok) (Q : Value → Shared → Prop) : Prop :=
 ∀ (G : Gr w b) (bs : b.StaysIn s.heap) (hb0 : b.get? 140 = none ∧ b.get? 147 = none) (hbT : ∀ c ∈ [ac, ad, ll], b.get? c = none) (hbig : Big s.heap) (ok : Ok 24 A) (X : FS s.heap x fd ac ad ll mx spl lines ps sz) (hac : ac ≠ 178) (hsz : 0 ≤ sz) (hsz' : sz < 100000) (hp : SP ps) (hl : lines.length < 900) (hno : sz = 0 → lenP (nlP ps) ≠ 0 → Txt.isspace (S (textP (nlP ps))) = false) (hsep : sep.length < 1000) (hll : ∀ l ∈ nlL lines ps sz, l.length < 5000) (hQ : ∀ t s', RX s s' → KB [ac, ad, ll] s.heap s'.heap → Big s'.heap → Q (.str (S (joinL sep (nlL lines ps sz))) t) s'), wpAny (model PW w) A (call (.ref 42) [.ref x, .str (S sep) t1]) Q E s
noncomputable abbrev Ty0 := (World) × (Around) × (Value → Shared → Prop) × (Shared) × (Addr) × (Addr) × (Addr) × (Addr) × (Addr) × (Int) × (List Nat) × (List (List Nat)) × (List Piece) × (Int) × (Heap) × (List Nat) × (Tok) × (Value → Shared → Prop)
noncomputable def C0 (p : Ty0) : Prop := Claim0 p.1 p.2.1 p.2.2.1 p.2.2.2.1 p.2.2.2.2.1 p.2.2.2.2.2.1 p.2.2.2.2.2.2.1 p.2.2.2.2.2.2.2.1 p.2.2.2.2.2.2.2.2.1 p.2.2.2.2.2.2.2.2.2.1 p.2.2.2.2.2.2.2.2.2.2.1 p.2.2.2.2.2.2.2.2.2.2.2.1 p.2.2.2.2.2.2.2.2.2.2.2.2.1 p.2.2.2.2.2.2.2.2.2.2.2.2.2.1 p.2.2.2.2.2.2.2.2.2.2.2.2.2.2.1 p.2.2.2.2.2.2.2.2.2.2.2.2.2.2.2.1 p.2.2.2.2.2.2.2.2.2.2.2.2.2.2.2.2.1 p.2.2.2.2.2.2.2.2.2.2.2.2.2.2.2.2.2
noncomputable def eps0 : Ty0 := @Classical.epsilon Ty0 ⟨(aWorld 1, ({} : Around), (fun _ _ => True), ({} : Shared), (default : Addr), (default : Addr), (default : Addr), (default : Addr), (default : Addr), (default : Int), (default : List Nat), (default : List (List Nat)), (default : List Piece), (default : Int), (default : Heap), (default : List Nat), (default : Tok), (fun _ _ => True))⟩ (fun p => ¬ C0 p)
noncomputable def w := eps0.1
noncomputable def A := eps0.2.1
noncomputable def E := eps0.2.2.1
noncomputable def s := eps0.2.2.2.1
noncomputable def x := eps0.2.2.2.2.1
noncomputable def fd := eps0.2.2.2.2.2.1
noncomputable def ac := eps0.2.2.2.2.2.2.1
noncomputable def ad := eps0.2.2.2.2.2.2.2.1
noncomputable def ll := eps0.2.2.2.2.2.2.2.2.1
noncomputable def mx := eps0.2.2.2.2.2.2.2.2.2.1
noncomputable def spl := eps0.2.2.2.2.2.2.2.2.2.2.1
noncomputable def lines := eps0.2.2.2.2.2.2.2.2.2.2.2.1
noncomputable def ps := eps0.2.2.2.2.2.2.2.2.2.2.2.2.1
noncomputable def sz := eps0.2.2.2.2.2.2.2.2.2.2.2.2.2.1
noncomputable def b := eps0.2.2.2.2.2.2.2.2.2.2.2.2.2.2.1
noncomputable def sep := eps0.2.2.2.2.2.2.2.2.2.2.2.2.2.2.2.1
noncomputable def t1 := eps0.2.2.2.2.2.2.2.2.2.2.2.2.2.2.2.2.1
noncomputable def Q := eps0.2.2.2.2.2.2.2.2.2.2.2.2.2.2.2.2.2
set_option maxHeartbeats 8000000 in
theorem main0 : Claim0 w A E s x fd ac ad ll mx spl lines ps sz b sep t1 Q := by
 intro G bs hb0 hbT hbig ok X hac hsz hsz' hp hl hno hsep hll hQ
 have hh := Eq.refl (PySem.Challenge.rw_xl0021_01, hd.heap_1)
 revert hh
 k_fill
 intro _
 refine' wpAny_call (enter (n := 23) (names := [Str.ofString "self", Str.ofString "linesep"]) (vs := [.ref x, .str (S sep) t1]) (ds := [.con (.ref x), .str (S sep)]) _ G bs hbig ok ?k1 ?k2 ?k3 rfl (.cons (.con _) (.cons (.str _ _) .nil)) (by decide) ?k4 ?k5 ?k6 ?k7 ?k8 ?k9 ?k10 ?k11)
 case k1 => k_is
 case k2 => k_is
 case k3 => exact BindsTo.of_eq rfl
 case k4 => decide
 case k5 => intro d hd; simp at hd; rcases hd with rfl | rfl; exact .inr ⟨_, rfl⟩; exact .inl (.inl (.str _))
 case k6 => exact one_none (by intro d hd l q; subst q; simp at hd)
 case k7 => decide
 case k9 => rfl
 case k10 => rfl
 case k11 => rfl
 case k8 =>
  intro h₁ tk fe kp lv
  refine PySem.wpAt_of_wpAny ?_
  generalize hEnv : envX (Str.ofString "_ValueFormatter._str") _ _ _ _ _ = env at *
  have nc : ∀ y, env.kindOf y ≠ some .cell := nocell_of (by rw [← hEnv]; dsimp only [envX]; decide)
  have off : Off env x fd ac ad ll := X.off (by rw [← hEnv])
  have hn : s.heap.get? env.locals = none := by rw [← hEnv]; exact fresh_size s.heap
  have bsK : ∀ {s' : Shared}, KB [ac, ad, ll] s.heap s'.heap → b.StaysIn s'.heap := fun k => base_kb hb0 hbT bs k
  have KK : ∀ {s' : Shared}, KB [ac, ad, ll] s.heap s'.heap → (hd.heap_1 w.params).In s'.heap := fun k a o e => bsK k a o (G.k a o e)
  have okd : Ok 23 (A.deeper env) := ok.deeper
  have M1 : Mid s { s with heap := h₁, toks := tk } env x fd ac ad ll mx spl lines ps sz [(Str.ofString "self", .con (.ref x)), (Str.ofString "linesep", .str (S sep))] :=
   ⟨RX.ht _ _ _, .of_stays kp, lv.big, X.keep kp, lv.clear.now⟩
  clear lv
  refine wpAny_execs_cons (wpAny_Expr_any ?_ (by rw [← hEnv]; rfl) rfl)
  refine fmt_call (KK M1.kb) fe M1.lv rfl M1.fs.fm fmF.1.1 fmF.2.1 (fun _ _ _ _ _ _ => rfl) rfl (by decide) ⟨_, rfl⟩ ?_
  refine callWith_K0 (KK M1.kb) keepF.2.2.2.2.2.2.1 ?_
  refine fm_newline G (bsK M1.kb) hb0 hbT M1.big (okd.le (by omega)) M1.fs hac hsz hsz' hp (by omega) hno fun s4 rx4 kb4 bg4 fs4 => ?_
  have M4 := M1.sub rx4 kb4 bg4 fs4 (fun p hp => by
   simp only [List.mem_cons, List.not_mem_nil, or_false] at hp
   rcases hp with rfl | rfl
   ·exact .con _
   ·exact .str _) nc off
  have hlen : (nlL lines ps sz).length < 2000 := by unfold nlL; split <;> first | omega | (simp; omega)
  refine wpAny_execs_cons (wpAny_Return_some ?_)
  refine ev_method_str (ev_name fe M4.lv rfl) (av_one (ev_lns G (bsK M4.kb) fe M4.lv rfl M4.fs)) PySem.F.plainAttrs_str PySem.F.slot_str_join PySem.F.type_str_join (cv_join (x := sep) (l := nlL lines ps sz) (join_ok hsep hlen hll)) rfl rfl rfl rfl rfl _ _ _ _ okd (stays_refl _) fun v h5 t5 k5 hv => ?_
  obtain ⟨_, rfl⟩ := VD.strE hv
  have M5 := M4.grow t5 k5
  exact hQ _ _ M5.rx M5.kb M5.big
end Kfmstr
section
variable {w : World} {A : Around} {E : Value → Shared → Prop} {s s2 s3 : Shared} {x fd ac ad ll : Addr} {mx : Int} {spl : List Nat} {lines : List (List Nat)} {ps : List Piece} {sz : Int} {n : Nat} {b : Heap} {env : Env} {σ σ' : List (Str × D)} {O : List Str}
theorem fm_str {sep : List Nat} {t1 : Tok} {Q : Value → Shared → Prop} (G : Gr w b) (bs : b.StaysIn s.heap) (hb0 : b.get? 140 = none ∧ b.get? 147 = none) (hbT : ∀ c ∈ [ac, ad, ll], b.get? c = none) (hbig : Big s.heap) (ok : Ok 24 A) (X : FS s.heap x fd ac ad ll mx spl lines ps sz)
  (hac : ac ≠ 178) (hsz : 0 ≤ sz) (hsz' : sz < 100000) (hp : SP ps) (hl : lines.length < 900) (hno : sz = 0 → lenP (nlP ps) ≠ 0 → Txt.isspace (S (textP (nlP ps))) = false) (hsep : sep.length < 1000) (hll : ∀ l ∈ nlL lines ps sz, l.length < 5000)
  (hQ : ∀ t s', RX s s' → KB [ac, ad, ll] s.heap s'.heap → Big s'.heap → Q (.str (S (joinL sep (nlL lines ps sz))) t) s') :
  wpAny (model PW w) A (call (.ref 42) [.ref x, .str (S sep) t1]) Q E s :=
 by_eps (C := Kfmstr.C0) _ Kfmstr.main0 (w, A, E, s, x, fd, ac, ad, ll, mx, spl, lines, ps, sz, b, sep, t1, Q) G bs hb0 hbT hbig ok X hac hsz hsz' hp hl hno hsep hll hQ
end
end Mine
-- MF30
namespace Mine
theorem cut_once {c : Nat} : ∀ {x y A B : List Nat}, c ∉ x → c ∉ y → x ++ c :: A = y ++ c :: B → x = y ∧ A = B
 | [], [], A, B, _, _, h => by simpa using h
 | [], b :: y, A, B, _, hy, h => by
  simp at h; exact absurd (h.1 ▸ List.mem_cons_self) hy
 | a :: x, [], A, B, hx, _, h => by
  simp at h; exact absurd (h.1 ▸ List.mem_cons_self) hx
 | a :: x, b :: y, A, B, hx, hy, h => by
  simp at h
  obtain ⟨rfl, h⟩ := h
  have := cut_once (fun q => hx (.tail _ q)) (fun q => hy (.tail _ q)) h
  exact ⟨by rw [this.1], this.2⟩
theorem joinL_cons2 (sep x y : List Nat) (r : List (List Nat)) : joinL sep (x :: y :: r) = x ++ sep ++ joinL sep (y :: r) := rfl
theorem joinL_inj {c : Nat} : ∀ {p q : List (List Nat)}, p ≠ [] → q ≠ [] → (∀ x ∈ p, c ∉ x) → (∀ x ∈ q, c ∉ x) → joinL [c] p = joinL [c] q → p = q
 | [], _, h, _, _, _, _ => absurd rfl h
 | _, [], _, h, _, _, _ => absurd rfl h
 | [x], [y], _, _, _, _, h => by rw [show joinL [c] [x] = x from rfl, show joinL [c] [y] = y from rfl] at h; rw [h]
 | [x], y :: z :: r, _, _, hx, _, h => by
  rw [joinL_cons2, show joinL [c] [x] = x from rfl] at h
  exact absurd (by rw [h]; simp) (hx x (.head _))
 | x :: z :: r, [y], _, _, _, hy, h => by
  rw [joinL_cons2, show joinL [c] [y] = y from rfl] at h
  exact absurd (by rw [← h]; simp) (hy y (.head _))
 | x :: x' :: p, y :: y' :: q, _, _, hx, hy, h => by
  rw [joinL_cons2, joinL_cons2, List.append_assoc, List.append_assoc] at h
  obtain ⟨e1, e2⟩ := cut_once (hx x (.head _)) (hy y (.head _)) h
  have := joinL_inj (p := x' :: p) (q := y' :: q) (by simp) (by simp) (fun z hz => hx z (.tail _ hz)) (fun z hz => hy z (.tail _ hz)) e2
  rw [e1, this]
theorem split_ne (x y : Str) : Txt.split x y ≠ [] := by
 unfold Txt.split
 split
 ·simp
 ·split
  ·simp
  ·rw [StrLaws.partsBetween_eq]
   obtain ⟨p, r, e⟩ := StrLaws.partsFrom_ne x y.length 0 (Builtin.Str.occurrences x y 0 x.length (x.length + 1))
   rw [e]; simp
theorem split_joined {c : Nat} {rows : List (List Nat)} (h : rows ≠ []) (hf : ∀ r ∈ rows, c ∉ r) : Txt.split (S (joinL [c] rows)) (S [c]) = rows.map S := by
 have h1 := StrLaws.join_split (S (joinL [c] rows)) (S [c])
 have h2 := StrLaws.split_free (S (joinL [c] rows)) c
 have h3 := split_ne (S (joinL [c] rows)) (S [c])
 have e0 : (⟨#[c]⟩ : Str) = S [c] := rfl
 rw [e0] at h2
 generalize Txt.split (S (joinL [c] rows)) (S [c]) = p at *
 obtain ⟨q, rfl⟩ : ∃ q : List (List Nat), p = q.map S := by
  refine ⟨p.map (·.cps.toList), ?_⟩
  rw [List.map_map]
  have e : (S ∘ fun x : Str => x.cps.toList) = id := by funext x; exact S_of x
  rw [e, List.map_id]
 have h4 := join_S [c] q
 have h5 : Txt.join (S [c]) (q.map S) = Str.join (S [c]) (q.map S) := StrLaws.glued_eq_join _ _
 rw [h5, h1] at h4
 have h6 := S_inj h4
 have := joinL_inj (c := c) (p := rows) (q := q) h (fun e => h3 (by rw [e]; rfl)) hf (fun x hx => by
  have := h2 (S x) (List.mem_map_of_mem hx)
  simpa [S] using this) h6
 rw [this]
theorem parts_len (x : Str) (w : Nat) : ∀ (cuts : List Nat) (a : Nat), (StrLaws.partsFrom x w a cuts).length = cuts.length + 1
 | [], _ => rfl
 | c :: r, a => by
  show (StrLaws.partsFrom x w (c + w) r).length + 1 = _
  rw [parts_len x w r]; rfl
theorem split_fits {x y : List Nat} (hx : x.length < 10000000) : (Builtin.Str.partsBetween (S x) (Builtin.Str.occurrences (S x) (S y) 0 (S x).length ((S x).length + 1)) (S y).length).length ≤ sizeLine := by
 rw [StrLaws.partsBetween_eq, parts_len]
 have := StrLaws.occ_length_le (S x) (S y) 0 (S x).length ((S x).length + 1)
 rw [S_len] at this ⊢
 have z := sizeLine_eq
 omega
noncomputable def runC (mx : Int) (spl lead : List Nat) (s : FSt) (texts : List (List Nat)) : FSt := texts.foldl (fun s t => chunk mx spl s (lead, t)) s
noncomputable def rowsOf (head mx : Int) (spl lead : List Nat) (texts : List (List Nat)) : List (List Nat) :=
 let s := runC mx spl lead ⟨[], [], head⟩ texts
 nlL s.lines s.ps s.sz
structure Sml (head : Int) (k : Nat) (s : FSt) : Prop where
 p1 : s.ps.length ≤ k
 l1 : s.lines.length ≤ k
 sz : s.sz = head ∨ s.sz = 0
 p2 : ∀ p ∈ s.ps, p.1.length + p.2.length ≤ 10 ∧ Asc p.1 ∧ Asc p.2
 l2 : ∀ l ∈ s.lines, l.length ≤ 10 * k
theorem textP_len : ∀ {ps : List Piece}, (∀ p ∈ ps, p.1.length + p.2.length ≤ 10) → (textP ps).length ≤ 10 * ps.length
 | [], _ => by simp [textP]
 | p :: ps, h => by
  have := textP_len (ps := ps) fun q hq => h q (.tail _ hq)
  have := h p (.head _)
  unfold textP at *
  rw [List.map_cons, List.flatten_cons, List.length_append, List.length_append, List.length_cons]
  omega
theorem nlP_small {k : Nat} {ps : List Piece} (h1 : ps.length ≤ k) (hk : 1 ≤ k) (h2 : ∀ p ∈ ps, p.1.length + p.2.length ≤ 10) : (textP (nlP ps)).length ≤ 10 * k := by
 have key : (nlP ps).length ≤ k ∧ ∀ p ∈ nlP ps, p.1.length + p.2.length ≤ 10 := by
  unfold nlP
  split
  ·exact ⟨by rw [List.length_dropLast]; omega, fun p hp => h2 p (List.dropLast_subset _ hp)⟩
  ·refine ⟨by rw [List.length_append, List.length_dropLast]; simp only [List.length_singleton]; omega, fun p hp => ?_⟩
   rcases List.mem_append.mp hp with hp | hp
   ·exact h2 p (List.dropLast_subset _ hp)
   ·rw [List.mem_singleton.mp hp]
    cases e : ps.getLast? with
    | none => simp
    | some q => exact h2 q (List.mem_of_getLast? e)
 have := textP_len key.2
 omega
theorem seek_le {spl : List Nat} {ps : List Piece} {i : Nat} (h : seek spl ps = some i) : i < ps.length ∧ 1 ≤ i := by
 unfold seek at h
 obtain ⟨c, hc, rfl⟩ := Option.map_eq_some_iff.mp h
 have := List.find?_some hc
 unfold found at this
 have := of_decide_eq_true this
 omega
theorem Sml.step {head mx : Int} {spl lead t : List Nat} {k : Nat} {s : FSt} (h : Sml head k s) (hk : 1 ≤ k) (hl : lead.length + t.length ≤ 9) (ha : Asc lead) (hb : Asc t) : Sml head (k + 1) (chunk mx spl s (lead, t)) := by
 have hp2 : ∀ p ∈ s.ps ++ [(lead, t)], p.1.length + p.2.length ≤ 10 ∧ Asc p.1 ∧ Asc p.2 := fun p hp => by
  rcases List.mem_append.mp hp with hp | hp
  ·exact h.p2 p hp
  ·rw [List.mem_singleton.mp hp]; exact ⟨by show lead.length + t.length ≤ 10; omega, ha, hb⟩
 have hlen : (s.ps ++ [(lead, t)]).length ≤ k + 1 := by have := h.p1; simp; omega
 unfold chunk
 dsimp only
 split
 ·split
  ·rename_i i hi
   have hi := seek_le hi
   have hlt : ((s.ps ++ [(lead, t)]).take i).length ≤ k := by rw [List.length_take]; omega
   refine ⟨by dsimp only; rw [List.length_drop]; omega, by dsimp only; have := h.l1; simp; omega, .inr rfl, fun p hp => hp2 p (List.mem_of_mem_drop hp), fun l hl => ?_⟩
   rcases List.mem_append.mp hl with hl | hl
   ·have := h.l2 l hl; omega
   ·rw [List.mem_singleton.mp hl]
    have := textP_len (ps := (s.ps ++ [(lead, t)]).take i) fun p hp => (hp2 p (List.mem_of_mem_take hp)).1
    omega
  ·split
   ·refine ⟨by simp, ?_, .inr rfl, fun p hp => ?_, fun l hl => ?_⟩
    ·dsimp only; unfold nlL; have := h.l1; split <;> simp <;> omega
    ·rw [List.mem_singleton.mp hp]
     by_cases q : lead = []
     ·subst q; dsimp only; rw [if_pos rfl]; simp at hl; refine ⟨by simp; omega, asc_one (by decide), hb⟩
     ·dsimp only; rw [if_neg q]; exact ⟨by omega, ha, hb⟩
    ·dsimp only at hl
     unfold nlL at hl
     split at hl
     ·rcases List.mem_append.mp hl with hl | hl
      ·have := h.l2 l hl; omega
      ·rw [List.mem_singleton.mp hl]
       have := nlP_small h.p1 hk fun p hp => (h.p2 p hp).1
       omega
     ·have := h.l2 l hl; omega
   ·exact ⟨hlen, by have := h.l1; dsimp only; omega, h.sz, hp2, fun l hl => by have := h.l2 l hl; omega⟩
 ·exact ⟨hlen, by have := h.l1; dsimp only; omega, h.sz, hp2, fun l hl => by have := h.l2 l hl; omega⟩
theorem Sml.run {head mx : Int} {spl lead : List Nat} {texts : List (List Nat)} (hl : ∀ t ∈ texts, lead.length + t.length ≤ 9 ∧ Asc t) (ha : Asc lead) : ∀ k, k ≤ texts.length → Sml head (k + 1) (runC mx spl lead ⟨[], [], head⟩ (texts.take k)) := by
 intro k
 induction k with
 | zero => intro _; exact ⟨by simp [runC], by simp [runC], .inl rfl, fun p hp => by simp [runC] at hp, fun l hl => by simp [runC] at hl⟩
 | succ k ih =>
  intro hk
  have ht : texts[k]? = some texts[k] := List.getElem?_eq_getElem (by omega)
  rw [List.take_add_one, ht]
  unfold runC
  rw [List.foldl_append]
  have := hl texts[k] (List.getElem_mem (by omega))
  exact (ih (by omega)).step (by omega) this.1 ha this.2
end Mine
-- MF31
namespace Mine
section
variable {w : World} {A : Around} {E : Value → Shared → Prop} {s s2 s3 : Shared} {x fd ac ad ll : Addr} {mx : Int} {spl : List Nat} {lines : List (List Nat)} {ps : List Piece} {sz : Int} {n : Nat} {b : Heap} {env : Env} {σ σ' : List (Str × D)} {O : List Str} {h h' : Heap}
theorem FS.fresh (X : FS h x fd ac ad ll mx spl lines ps sz) {a : Addr} (ha : h.get? a = none) : ∀ c ∈ [x, fd, ac, ad, ll], c ≠ a := by
 obtain ⟨⟨e, cl, ws, t1, t2, t3, t4, o, es, ep, e2, d, sk, f⟩, ⟨its, ⟨⟨n, e3⟩, o4, hs, tk, t, m, e4, d4⟩, hp⟩, ls⟩ := X
 obtain ⟨_, _, nt, e5, sl⟩ := VD.listR ls
 intro c hc q
 subst q
 simp only [List.mem_cons, List.not_mem_nil, or_false] at hc
 rcases hc with rfl | rfl | rfl | rfl | rfl
 ·rw [e] at ha; cases ha
 ·rw [e2] at ha; cases ha
 ·rw [e3] at ha; cases ha
 ·rw [e4] at ha; cases ha
 ·rw [e5] at ha; cases ha
noncomputable def NC (a : Addr) : Prop := a ≠ 140 ∧ a ≠ 144 ∧ a ≠ 147 ∧ a ≠ 151
theorem Big.nc (x : Big h) {a : Addr} (e : h.get? a = none) : NC a := by
 obtain ⟨⟨ps, e1⟩, ⟨qs, e2⟩⟩ := x
 obtain ⟨⟨o1, v1, a1, _⟩, ⟨o2, v2, a2, _⟩⟩ := IsCode_at e1
 obtain ⟨⟨o3, v3, a3, _⟩, ⟨o4, v4, a4, _⟩⟩ := IsCode_at e2
 refine ⟨fun q => ?_, fun q => ?_, fun q => ?_, fun q => ?_⟩ <;> subst q
 ·rw [e] at a2; cases a2
 ·rw [e] at a1; cases a1
 ·rw [e] at a4; cases a4
 ·rw [e] at a3; cases a3
theorem Big.adv (x : Big h) {I : Addr} (hI : NC I) (k : ∀ c o, c ≠ I → h.get? c = some o → h'.get? c = some o) : Big h' := by
 have key : ∀ P T ps, IsCodeM h P T ps → P ≠ I → T ≠ I → IsCodeM h' P T ps := by
  intro P T ps e n1 n2
  exact e.mv (fun o _ a _ => k _ o n1 a) (fun o _ b _ => k _ o n2 b)
 obtain ⟨⟨ps, e⟩, ⟨qs, f⟩⟩ := x
 exact ⟨⟨ps, key _ _ _ e (Ne.symm hI.2.1) (Ne.symm hI.1)⟩, ⟨qs, key _ _ _ f (Ne.symm hI.2.2.2) (Ne.symm hI.2.2.1)⟩⟩
theorem Mid.iter (M : Mid s s2 env x fd ac ad ll mx spl lines ps sz σ) {I : Addr} (tk : Nat) (hI : NC I) (hs : s.heap.get? I = none) (hL : env.locals ≠ I) (hp : ∀ c ∈ [x, fd, ac, ad, ll], c ≠ I) (hf : ∃ o fs, s2.heap.get? I = some o ∧ o.data = .fields fs) (k : ∀ c o, c ∉ [I] → s2.heap.get? c = some o → h'.get? c = some o)
  (him : ∀ p ∈ σ, ImD p.2) (nc : ∀ y, env.kindOf y ≠ some .cell) : Mid s { s2 with heap := h', toks := tk } env x fd ac ad ll mx spl lines ps sz σ := by
 have bg := M.big.adv hI fun c o ne e => k c o (by simpa using ne) e
 obtain ⟨o, fs, e, d⟩ := hf
 refine ⟨M.rx.tr (RX.ht _ _ _), fun c o nc nt e => k c o (fun q => by rw [List.mem_singleton.mp q, hs] at e; cases e) (M.kb c o nc nt e), bg, M.fs.kb M.big (fun c o nc _ e => k c o nc e) (fun c hc q => hp c hc (List.mem_singleton.mp q)) (fun c hc o' e' => ?_), (M.lv.easy him nc (fun o e => k _ _ (fun q => hL (List.mem_singleton.mp q)) e) bg).clear.now⟩
 obtain rfl := List.mem_singleton.mp hc
 rw [e] at e'; cases e'
 exact .inr fun vs n q => by rw [d] at q; cases q
theorem cvf_split {x y : List Nat} {l : List (List Nat)} (hb : Big h) (hy : y ≠ []) (hl : Txt.split (S x) (S y) = l.map S) (hx : x.length < 10000000) :
  CVF w n h (.builtin "str.split") [.str (S x), .str (S y)] (.list (TL l)) true := fun A E s Q vs ok st hv hQ => by
 have z := sizeLine_eq
 have hz := split_fits (x := x) (y := y) hx
 have nw : ∀ a, Value.ref s.heap.objs.size = .ref a → s.heap.get? a = none := fun a q => by cases q; exact fresh_size _
 obtain ⟨_, _, rfl, a, r⟩ := VDs.consE hv
 obtain ⟨_, _, rfl, b, r⟩ := VDs.consE r
 obtain rfl := VDs.nilE r
 obtain ⟨t, rfl⟩ := VD.strE a
 obtain ⟨u, rfl⟩ := VD.strE b
 have hy' : ((S y).length == 0) = false := by rw [S_len]; cases y with | nil => exact absurd rfl hy | cons c r => simp
 have one : Txt.split (S x) (S y) = [S x] → l.map S = ([(S x, t)] : List (Str × Tok)).map (·.1) := fun e => hl.symm.trans e
 cases h1 : (decide ((S x).length < (S y).length) || decide (Builtin.Str.strKind (S x) < Builtin.Str.strKind (S y)))
 ·cases hf : (Builtin.Str.occurrences (S x) (S y) 0 (S x).length ((S x).length + 1)).isEmpty
  ·refine call_meets F.slot_str_split (typeIs_str _ _ _) F.entry_str_split (F.args_str_split_2 _ _) (meets_str_split_sep (S x) (S y) t u h1 hy' hf (by rw [S_len]; omega) hz) ?_
   rw [strsFrom_eq]
   refine hQ _ _ _ (stays_push _ _) (vd_new_list (hb.up st) (vds_of_values ?_)) fun _ => nw
   refine (numbered_texts _ _).trans ?_
   rw [← hl]
   exact ((if_neg (ne_true_of_eq_false h1)).trans (if_neg (ne_true_of_eq_false hf))).symm
  ·refine call_meets F.slot_str_split (typeIs_str _ _ _) F.entry_str_split (F.args_str_split_2 _ _) (meets_str_split_not_found (S x) (S y) t u h1 hy' hf) ?_
   refine hQ _ _ s.toks (stays_push _ _) (vd_new_list (vs := strValues [(S x, t)]) (hb.up st) (vds_of_values (one ?_).symm)) fun _ => nw
   exact (if_neg (ne_true_of_eq_false h1)).trans (if_pos hf)
 ·refine call_meets F.slot_str_split (typeIs_str _ _ _) F.entry_str_split (F.args_str_split_2 _ _) (meets_str_split_cannot_occur (S x) (S y) t u h1) ?_
  exact hQ _ _ s.toks (stays_push _ _) (vd_new_list (vs := strValues [(S x, t)]) (hb.up st) (vds_of_values (one (if_pos h1)).symm)) fun _ => nw
theorem txt_nl : (Str.ofString "\n").cps.toList = [10] := by decide +kernel
theorem joinL_len {sep : List Nat} {B : Nat} : ∀ {l : List (List Nat)}, (∀ x ∈ l, x.length ≤ B) → (joinL sep l).length ≤ (B + sep.length) * l.length
 | [], _ => by simp [joinL]
 | [x], h => by
  have := h x (.head _)
  show x.length ≤ _
  simp; omega
 | x :: y :: r, h => by
  have ih := joinL_len (sep := sep) (B := B) (l := y :: r) fun z hz => h z (.tail _ hz)
  have := h x (.head _)
  rw [joinL_cons2, List.length_append, List.length_append, List.length_cons, Nat.mul_add, Nat.mul_one]
  omega
end
namespace Krowswp
noncomputable def Claim0 (w : World) (A : Around) (E : Value → Shared → Prop) (s : Shared) (mx : Int) (spl : List Nat) (b : Heap) (head : Int) (lead : List Nat) (texts : List (List Nat)) (a0 : Addr) (t1 : Tok) (t2 : Tok) (t3 : Tok) (t4 : Tok) (Q : Value → Shared → Prop) : Prop :=
 ∀ (G : Gr w b) (bs : b.StaysIn s.heap) (hb0 : b.get? 140 = none ∧ b.get? 147 = none) (hbig : Big s.heap) (ok : Ok 40 A) (hvt : VD s.heap (.ref a0) (.list (TL texts))) (hlen : texts.length ≤ 300) (hl : ∀ t ∈ texts, lead.length + t.length ≤ 9 ∧ Asc t) (ha : Asc lead) (hspl : spl.length < 1000) (hh0 : 0 ≤ head) (hh1 : head < 1000) (hno : (runC mx spl lead ⟨[], [], head⟩ texts).sz = 0 → lenP (nlP (runC mx spl lead ⟨[], [], head⟩ texts).ps) ≠ 0 → Txt.isspace (S (textP (nlP (runC mx spl lead ⟨[], [], head⟩ texts).ps))) = false) (hne : rowsOf head mx spl lead texts ≠ []) (hnl : ∀ r ∈ rowsOf head mx spl lead texts, 10 ∉ r) (hQ : ∀ v s', RX s s' → KeepT s.heap s'.heap → Big s'.heap → VD s'.heap v (.list (TL (rowsOf head mx spl lead texts))) → (∀ a, v = .ref a → s.heap.get? a = none) → Q v s'), wpAny (model PW w) A (call (.ref 254) [.int head t1, .int mx t2, .str (S spl) t3, .str (S lead) t4, .ref a0]) Q E s
noncomputable abbrev Ty0 := (World) × (Around) × (Value → Shared → Prop) × (Shared) × (Int) × (List Nat) × (Heap) × (Int) × (List Nat) × (List (List Nat)) × (Addr) × (Tok) × (Tok) × (Tok) × (Tok) × (Value → Shared → Prop)
noncomputable def C0 (p : Ty0) : Prop := Claim0 p.1 p.2.1 p.2.2.1 p.2.2.2.1 p.2.2.2.2.1 p.2.2.2.2.2.1 p.2.2.2.2.2.2.1 p.2.2.2.2.2.2.2.1 p.2.2.2.2.2.2.2.2.1 p.2.2.2.2.2.2.2.2.2.1 p.2.2.2.2.2.2.2.2.2.2.1 p.2.2.2.2.2.2.2.2.2.2.2.1 p.2.2.2.2.2.2.2.2.2.2.2.2.1 p.2.2.2.2.2.2.2.2.2.2.2.2.2.1 p.2.2.2.2.2.2.2.2.2.2.2.2.2.2.1 p.2.2.2.2.2.2.2.2.2.2.2.2.2.2.2
noncomputable def eps0 : Ty0 := @Classical.epsilon Ty0 ⟨(aWorld 1, ({} : Around), (fun _ _ => True), ({} : Shared), (default : Int), (default : List Nat), (default : Heap), (default : Int), (default : List Nat), (default : List (List Nat)), (default : Addr), (default : Tok), (default : Tok), (default : Tok), (default : Tok), (fun _ _ => True))⟩ (fun p => ¬ C0 p)
noncomputable def w := eps0.1
noncomputable def A := eps0.2.1
noncomputable def E := eps0.2.2.1
noncomputable def s := eps0.2.2.2.1
noncomputable def mx := eps0.2.2.2.2.1
noncomputable def spl := eps0.2.2.2.2.2.1
noncomputable def b := eps0.2.2.2.2.2.2.1
noncomputable def head := eps0.2.2.2.2.2.2.2.1
noncomputable def lead := eps0.2.2.2.2.2.2.2.2.1
noncomputable def texts := eps0.2.2.2.2.2.2.2.2.2.1
noncomputable def a0 := eps0.2.2.2.2.2.2.2.2.2.2.1
noncomputable def t1 := eps0.2.2.2.2.2.2.2.2.2.2.2.1
noncomputable def t2 := eps0.2.2.2.2.2.2.2.2.2.2.2.2.1
noncomputable def t3 := eps0.2.2.2.2.2.2.2.2.2.2.2.2.2.1
noncomputable def t4 := eps0.2.2.2.2.2.2.2.2.2.2.2.2.2.2.1
noncomputable def Q := eps0.2.2.2.2.2.2.2.2.2.2.2.2.2.2.2
set_option maxHeartbeats 8000000 in
set_option tactic.hygienic true in
theorem main0 : Claim0 w A E s mx spl b head lead texts a0 t1 t2 t3 t4 Q := by
 intro G bs hb0 hbig ok hvt hlen hl ha hspl hh0 hh1 hno hne hnl hQ
 have hh := Eq.refl (PySem.Challenge.rw_xl0021_01, hd.heap_1)
 revert hh
 k_fill
 intro _
 have gvf : nsIn (hd.heap_1 w.params) mainGlobals "_ValueFormatter" = some (some (.ref 94)) := by k_is
 have kvf : keepIn (hd.heap_1 w.params) (.ref 94) = true := by k_is
 have ho178 : ∃ o, (hd.heap_1 w.params).lookup 178 = some o := ⟨_, by k_is⟩
 refine' wpAny_call (enter (n := 39) (names := [Str.ofString "head", Str.ofString "width", Str.ofString "breaks", Str.ofString "lead", Str.ofString "texts"]) (vs := [.int head t1, .int mx t2, .str (S spl) t3, .str (S lead) t4, .ref a0]) (ds := [.int head, .int mx, .str (S spl), .str (S lead), .con (.ref a0)]) _ G bs hbig ok ?k1 ?k2 ?k3 rfl (.cons (.int _ _) (.cons (.int _ _) (.cons (.str _ _) (.cons (.str _ _) (.cons (.con _) .nil))))) (by decide) ?k4 ?k5 ?k6 ?k7 ?k8 ?k9 ?k10 ?k11)
 case k1 => k_is
 case k2 => k_is
 case k3 => exact BindsTo.of_eq rfl
 case k4 => decide
 case k5 => intro d hd; simp at hd; rcases hd with rfl | rfl | rfl | rfl | rfl; exact .inl (.inl (.int _)); exact .inl (.inl (.int _)); exact .inl (.inl (.str _)); exact .inl (.inl (.str _)); exact .inr ⟨_, rfl⟩
 case k6 => exact one_none (by intro d hd l q; subst q; simp at hd)
 case k7 => decide
 case k9 => rfl
 case k10 => rfl
 case k11 => rfl
 case k8 =>
  intro h₁ tk fe kp lv
  refine PySem.wpAt_of_wpAny ?_
  generalize hEnv : envX (Str.ofString "_law_rows") _ _ _ _ _ = env at *
  have nc : ∀ y, env.kindOf y ≠ some .cell := nocell_of (by rw [← hEnv]; dsimp only [envX]; decide)
  have hn : s.heap.get? env.locals = none := by rw [← hEnv]; exact fresh_size s.heap
  have okd : Ok 39 (A.deeper env) := ok.deeper
  have kfm : env.kindOf (Str.ofString "formatter") = some .local := by rw [← hEnv]; rfl
  have ktx : env.kindOf (Str.ofString "text") = some .local := by rw [← hEnv]; rfl
  have gk : env.kindOf (Str.ofString "_ValueFormatter") = some .globalImplicit := by rw [← hEnv]; rfl
  have bs1 := stays_trans bs kp
  have K1 : (hd.heap_1 w.params).In h₁ := fun a o e => bs1 a o (G.k a o e)
  refine wpAny_execs_cons (wpAny_Assign_Name (wpAny_Call_Name_kw (ev_global fe G bs1 gvf gk (by decide) _ _ { s with heap := h₁, toks := tk } _ okd (stays_refl _) fun v h2 t2 k2 hv => ?_)) rfl)
  obtain rfl := VD.conE hv
  have lv2 := lv.keep k2
  have K2 : (hd.heap_1 w.params).In h2 := fun a o e => k2 _ _ (K1 a o e)
  refine callWith_K (K := hd.heap_1 w.params) (h₀ := h2) K2 kvf ?_ rfl rfl
  refine av_cons (ev_name fe lv2 rfl) (av_cons (ev_name fe lv2 rfl) (av_cons ev_strS (av_cons (ev_name fe lv2 rfl) av_nil))) rfl _ _ { s with heap := h2, toks := t2 } _ okd (stays_refl _) fun vs h3 t3 k3 hvs => ?_
  have bs3 := stays_trans bs1 (stays_trans k2 k3)
  refine ⟨fun a o e => k3 _ _ (K2 a o e), ?_⟩
  obtain ⟨_, _, rfl, c1, hvs⟩ := VDs.consE hvs
  obtain ⟨_, _, rfl, c2, hvs⟩ := VDs.consE hvs
  obtain ⟨_, _, rfl, c3, hvs⟩ := VDs.consE hvs
  obtain ⟨_, _, rfl, c4, hvs⟩ := VDs.consE hvs
  obtain rfl := VDs.nilE hvs; obtain ⟨_, rfl⟩ := VD.intE c1; obtain ⟨_, rfl⟩ := VD.intE c2; obtain ⟨_, rfl⟩ := VD.strE c3; obtain ⟨_, rfl⟩ := VD.strE c4
  refine fm_made (s := { s with heap := h3, toks := t3 }) G bs3 (lv2.big.up k3) (okd.le (by omega)) (by decide) fun x fd ac ad ll h4 t4 k4 nx nfd nac nad nll fs4 bg4 => ?_
  have lv4 := (lv2.keep k3).keep k4
  have ks : s.heap.StaysIn h4 := stays_trans kp (stays_trans k2 (stays_trans k3 k4))
  have kb4 : KB [ac, ad, ll] s.heap h4 := .of_stays ks
  have old : ∀ {c}, h3.get? c = none → s.heap.get? c = none := fun {c} e => not_old (stays_trans kp (stays_trans k2 k3)) e
  have off : Off env x fd ac ad ll := by
   obtain ⟨m, o, es, ep, e, _⟩ := (lv2.keep k3).ns
   intro c hc q
   have q := List.mem_singleton.mp q
   have hcn : h3.get? c = none := by
    simp only [List.mem_cons, List.not_mem_nil, or_false] at hc
    rcases hc with rfl | rfl | rfl | rfl | rfl <;> assumption
   rw [q, e] at hcn; cases hcn
  have hbT : ∀ c ∈ [ac, ad, ll], b.get? c = none := by
   intro c hc
   simp only [List.mem_cons, List.not_mem_nil, or_false] at hc
   rcases hc with rfl | rfl | rfl
   ·exact not_old bs3 nac
   ·exact not_old bs3 nad
   ·exact not_old bs3 nll
  have hac : ac ≠ 178 := fun q => by
   obtain ⟨o, e⟩ := ho178
   have := bs3 _ _ (G.k _ _ e)
   rw [← q, nac] at this; cases this
  have bsK : ∀ {s' : Shared}, KB [ac, ad, ll] s.heap s'.heap → b.StaysIn s'.heap := fun k => base_kb hb0 hbT bs k
  have KK : ∀ {s' : Shared}, KB [ac, ad, ll] s.heap s'.heap → (hd.heap_1 w.params).In s'.heap := fun k a o e => bsK k a o (G.k a o e)
  have M4 : Mid s { s with heap := h4, toks := t4 } env x fd ac ad ll mx spl [] [] head ([Str.ofString "head", Str.ofString "width", Str.ofString "breaks", Str.ofString "lead", Str.ofString "texts"].zip [.int head, .int mx, .str (S spl), .str (S lead), .con (.ref a0)]) := ⟨RX.ht _ _ _, kb4, bg4, fs4, lv4.clear.now⟩
  refine store_name (s := { s with heap := h4, toks := t4 }) (d := .con (.ref x)) (O' := []) fe (M4.lv.fix nc) (.inl kfm) (.con _) (.inr ⟨_, rfl⟩) (fun a l _ q => nomatch q) (fun z hz => nomatch hz) fun h5 t5 kv5 lv5 => ?_
  have M5 : Mid s { s with heap := h5, toks := t5 } env x fd ac ad ll mx spl [] [] head [(Str.ofString "formatter", .con (.ref x)), (Str.ofString "lead", .str (S lead)), (Str.ofString "texts", .con (.ref a0))] := (M4.of_lv (RX.ht _ h5 t5) lv5 off hn).weak (sub_cons rfl (sub_cons rfl (sub_cons rfl sub_nil)))
  clear M4 lv5 lv4 lv2 lv
  obtain ⟨s5, hs5⟩ : ∃ s5, s5 = ({ s with heap := h5, toks := t5 } : Shared) := ⟨_, rfl⟩
  have M5 : Mid s s5 env x fd ac ad ll mx spl [] [] head [(Str.ofString "formatter", .con (.ref x)), (Str.ofString "lead", .str (S lead)), (Str.ofString "texts", .con (.ref a0))] := by rw [hs5]; exact M5
  show wpAny _ _ _ _ _ ({ s with heap := h5, toks := t5 } : Shared)
  rw [← hs5]
  clear hs5
  obtain ⟨n0, q0, nt0, e0, eq0, hq0⟩ : ∃ n q, NT a0 ∧ s.heap.get? a0 = some ⟨.type "list", none, .seq (strValues q).toArray n, #[]⟩ ∧ (strValues q).length = texts.length ∧ q.map (·.1) = texts.map S := by
   obtain ⟨_, _, nt, e, sl⟩ := VD.listR hvt
   have e9 := sl.length
   obtain ⟨q, rfl, e2⟩ := vds_texts sl
   exact ⟨_, q, nt, e, by simpa using e9, e2⟩
  have a0n : a0 ∉ [ac, ad, ll] := fun q => by
   have hno' : ∀ c ∈ [ac, ad, ll], s.heap.get? c = none := by
    intro c hc
    simp only [List.mem_cons, List.not_mem_nil, or_false] at hc
    rcases hc with rfl | rfl | rfl
    ·exact old nac
    ·exact old nad
    ·exact old nll
   rw [hno' _ q] at e0; cases e0
  have txt : ∀ {s' : Shared}, KB [ac, ad, ll] s.heap s'.heap → s'.heap.get? a0 = some ⟨.type "list", none, .seq (strValues q0).toArray n0, #[]⟩ := fun {s'} k => k _ _ a0n nt0 e0
  refine wpAny_execs_cons (wpAny_For (name_at fe M5.lv rfl fun v av hv => ?_) (by intro _; rfl))
  obtain rfl := VD.conE hv
  refine wpAny_pyIter_list ⟨_, txt M5.kb, rfl, _, rfl⟩ ?_
  generalize hI : s5.heap.objs.size = I
  have hIf : s5.heap.get? I = none := hI ▸ fresh_size _
  have hIs : s.heap.get? I = none := by
   cases q : s.heap.get? I with
   | none => rfl
   | some o =>
    by_cases c1 : I ∈ [ac, ad, ll]
    ·have := M5.fs.fresh hIf I (.tail _ (.tail _ c1))
     exact absurd rfl this
    ·have := M5.kb I o c1 (M5.big.nt hIf) q
     rw [hIf] at this; cases this
  have ncI : NC I := M5.big.nc hIf
  have ntI : NT I := M5.big.nt hIf
  have hLI : env.locals ≠ I := fun q => by
   obtain ⟨m, o, es, ep, e, _⟩ := M5.lv.ns
   rw [q, hIf] at e; cases e
  have hpI := M5.fs.fresh hIf
  have ha0I : a0 ≠ I := fun q => by rw [q, hIs] at e0; cases e0
  have M6 := M5.grow s5.toks (stays_push s5.heap { cls := .type "list_iterator", data := .fields #[.ref a0, rawInt 0] })
  have hit0 : (s5.heap.push { cls := .type "list_iterator", data := .fields #[.ref a0, rawInt 0] }).IsListIter I a0 0 := by
   subst hI
   exact ⟨_, get_push _ _, rfl, rfl⟩
  let st : Nat → FSt := fun i => runC mx spl lead ⟨[], [], head⟩ (texts.take i)
  have W := Walks.list (prog := PW) (w := w) okd.hd I a0 ha0I (strValues q0).toArray
  rw [List.size_toArray, eq0] at W
  have σim : ∀ p ∈ [(Str.ofString "formatter", D.con (.ref x)), (Str.ofString "lead", .str (S lead))], ImD p.2 := fun p hp => by
   simp only [List.mem_cons, List.not_mem_nil, or_false] at hp
   rcases hp with rfl | rfl
   ·exact .con _
   ·exact .str _
  refine codeAny_forLoop_any (fun m s' => ∃ i, m = texts.length - i ∧ i ≤ texts.length ∧ Mid s s' env x fd ac ad ll mx spl (st i).lines (st i).ps (st i).sz [(Str.ofString "formatter", .con (.ref x)), (Str.ofString "lead", .str (S lead))] ∧ s'.heap.IsListIter I a0 i) (fun m s' hJ => ?_) texts.length ⟨0, rfl, Nat.zero_le _, ?_, hit0⟩
  case refine_2 => exact M6.weak (sub_cons rfl (sub_cons rfl sub_nil))
  obtain ⟨i, rfl, hin, M, hit⟩ := hJ
  have hitf : ∃ o fs, s'.heap.get? I = some o ∧ o.data = .fields fs := let ⟨o, e, c, d⟩ := hit; ⟨o, _, e, d⟩
  by_cases hi : i < texts.length
  ·refine W.item i s' _ _ hi ⟨hit, _, txt M.kb, rfl, _, rfl⟩ fun v h' tk' hPv hS' hk' => ?_
   have M7 := M.iter tk' ncI hIs hLI hpI hitf hk' σim nc
   obtain ⟨y, hy, hvy⟩ : ∃ t, texts[i]? = some texts[i] ∧ v = .str (S texts[i]) t := by
    have hPv : (strValues q0)[i]? = some v := by simpa using hPv
    unfold strValues at hPv
    rw [List.getElem?_map] at hPv
    obtain ⟨⟨y, t⟩, e1, rfl⟩ := Option.map_eq_some_iff.mp hPv
    have e2 : (q0.map (·.1))[i]? = (texts.map S)[i]? := by rw [hq0]
    rw [List.getElem?_map, List.getElem?_map, e1, List.getElem?_eq_getElem hi] at e2
    have e3 : y = S texts[i] := by simpa using e2
    exact ⟨t, List.getElem?_eq_getElem hi, by rw [e3]⟩
   subst hvy
   refine wpAny_pure ?_
   refine wpAny_assign_Name (store_low (s := { s' with heap := h', toks := tk' }) fe (M7.lv.fix nc) (.inl ktx) (.str _ _) (.str _) fun h8 t8 kv8 lv8 => ?_)
   have M8 := M7.of_lv (RX.ht _ h8 t8) lv8 off hn
   have hs := hl texts[i] (List.getElem_mem hi)
   have sm := Sml.run (head := head) (mx := mx) (spl := spl) (lead := lead) (texts := texts) hl ha i hin
   have hsz0 : 0 ≤ (st i).sz := by rcases sm.sz with q | q <;> (show 0 ≤ (runC mx spl lead ⟨[], [], head⟩ (texts.take i)).sz) <;> omega
   have hsz1 : (st i).sz < 100000 := by rcases sm.sz with q | q <;> (show (runC mx spl lead ⟨[], [], head⟩ (texts.take i)).sz < 100000) <;> omega
   have hsp : SP (st i).ps := ⟨by have := sm.p1; show (runC mx spl lead ⟨[], [], head⟩ (texts.take i)).ps.length < 800; omega, fun p hp => ⟨by have := (sm.p2 p hp).1; omega, (sm.p2 p hp).2⟩⟩
   refine wpAny_execs_cons (wpAny_Expr_any (fmt_call (KK M8.kb) fe M8.lv rfl M8.fs.fm fmF.1.2.1 fmF.2.2.1 (fun _ _ _ _ _ _ => rfl) rfl (by decide) ⟨_, rfl⟩ ?_) (by rw [← hEnv]; rfl) rfl)
   refine callWith_K (K := hd.heap_1 w.params) (h₀ := h8) (KK M8.kb) keepF.2.2.2.2.2.2.2.1 (spliced_cons (name_at fe M8.lv rfl fun v1 _ hv1 => spliced_cons (name_at fe M8.lv rfl fun v2 _ hv2 => spliced_nil ⟨KK M8.kb, ?_⟩))) rfl rfl
   obtain ⟨_, rfl⟩ := VD.strE hv1; obtain ⟨_, rfl⟩ := VD.strE hv2
   refine fm_chunk G (bsK M8.kb) hb0 hbT M8.big (okd.le (by omega)) M8.fs hac hsz0 hsz1 hsp (by have := sm.p1; show (runC mx spl lead ⟨[], [], head⟩ (texts.take i)).ps.length < 790; omega) (by have := sm.l1; show (runC mx spl lead ⟨[], [], head⟩ (texts.take i)).lines.length < 900; omega) ⟨by omega, ha, hs.2⟩ hspl fun s9 rx9 kb9 bg9 fs9 => ?_
   have hst : st (i + 1) = chunk mx spl (st i) (lead, texts[i]) := by
    show runC mx spl lead ⟨[], [], head⟩ (texts.take (i + 1)) = _
    rw [List.take_add_one, hy]
    unfold runC
    rw [List.foldl_append]; rfl
   have M9 := M8.sub rx9 kb9 bg9 fs9 (fun p hp => by
    simp only [List.mem_cons, List.not_mem_nil, or_false] at hp
    rcases hp with rfl | rfl | rfl
    ·exact .str _
    ·exact .con _
    ·exact .str _) nc off
   refine wpAny_execs_nil ⟨texts.length - (i + 1), by omega, i + 1, rfl, hi, ?_, ?_⟩
   ·rw [hst]
    exact M9.weak (sub_cons rfl (sub_cons rfl sub_nil))
   ·obtain ⟨o, e, c, d⟩ := hS'.1
    refine ⟨o, kb9 _ _ (fun q => hpI I (.tail _ (.tail _ q)) rfl) ntI (lv8.kbL _ _ (fun q => hLI (List.mem_singleton.mp q).symm) ntI e), c, d⟩
  ·have hin' : i = texts.length := by omega
   subst hin'
   refine W.done s' _ _ ⟨hit, _, txt M.kb, rfl, _, rfl⟩ fun h' tk' hk' => wpAny_execs_nil ?_
   have M7 := M.iter tk' ncI hIs hLI hpI hitf hk' σim nc
   have est : st texts.length = runC mx spl lead ⟨[], [], head⟩ texts := by show runC _ _ _ _ (texts.take _) = _; rw [List.take_length]
   have sm := Sml.run (head := head) (mx := mx) (spl := spl) (lead := lead) (texts := texts) hl ha texts.length (Nat.le_refl _)
   rw [List.take_length] at sm
   rw [est] at M7
   have hrows : rowsOf head mx spl lead texts = nlL (runC mx spl lead ⟨[], [], head⟩ texts).lines (runC mx spl lead ⟨[], [], head⟩ texts).ps (runC mx spl lead ⟨[], [], head⟩ texts).sz := rfl
   rw [hrows] at hne hnl hQ
   clear hrows est M st
   generalize runC mx spl lead ⟨[], [], head⟩ texts = S0 at *
   have hsz0 : 0 ≤ S0.sz := by rcases sm.sz with q | q <;> omega
   have hsz1 : S0.sz < 100000 := by rcases sm.sz with q | q <;> omega
   have hsp : SP S0.ps := ⟨by have := sm.p1; omega, fun p hp => ⟨by have := (sm.p2 p hp).1; omega, (sm.p2 p hp).2⟩⟩
   have hl1 := sm.l1
   have hrl : ∀ l ∈ nlL S0.lines S0.ps S0.sz, l.length ≤ 3010 := fun l hlm => by
    unfold nlL at hlm
    split at hlm
    ·rcases List.mem_append.mp hlm with hlm | hlm
     ·have := sm.l2 l hlm; omega
     ·rw [List.mem_singleton.mp hlm]
      have := nlP_small sm.p1 (by omega) fun p hp => (sm.p2 p hp).1
      omega
    ·have := sm.l2 l hlm; omega
   have hrn : (nlL S0.lines S0.ps S0.sz).length ≤ 302 := by unfold nlL; split <;> first | omega | (simp; omega)
   refine wpAny_execs_cons (wpAny_Return_some (wpAny_Call_method rfl rfl rfl PySem.F.plainAttrs_str PySem.F.slot_str_split PySem.F.type_str_split ?_))
   refine fmt_call (KK M7.kb) fe M7.lv rfl M7.fs.fm fmF.1.2.2 fmF.2.2.2 (fun _ _ _ _ _ _ => rfl) rfl (by decide) ⟨_, rfl⟩ ?_
   refine callWith_K (K := hd.heap_1 w.params) (h₀ := h') (KK M7.kb) keepF.2.2.2.2.2.2.2.2 ?_ rfl rfl
   refine av_one (ev_eq ev_strS (by rw [txt_nl])) rfl _ _ _ _ okd (stays_refl _) fun vs8 h8 t8 k8 hvs8 => ⟨KK (M7.grow t8 k8).kb, ?_⟩
   have M8 := M7.grow t8 k8
   obtain ⟨_, _, rfl, hv8, hvs8⟩ := VDs.consE hvs8
   obtain rfl := VDs.nilE hvs8; obtain ⟨_, rfl⟩ := VD.strE hv8
   refine fm_str G (bsK M8.kb) hb0 hbT M8.big (okd.le (by omega)) M8.fs hac hsz0 hsz1 hsp (by omega) hno (by decide) (fun l hlm => by have := hrl l hlm; omega) fun t9 s9 rx9 kb9 bg9 => ?_
   refine ⟨typeIs_str _ _ _, (fun _ e => nomatch e), callWith_builtin rfl ?_⟩
   refine wp_evalArgs (h := s9.heap) (ds := [.str (S [10])]) (av_one (ev_eq ev_strS (by rw [txt_nl]))) okd (stays_refl _) (fun vs h10 t10 k10 hvs => ?_) rfl
   have hj := joinL_len (sep := [10]) (B := 3010) hrl
   refine cvf_split (n := 39) (h := h10) (x := joinL [10] (nlL S0.lines S0.ps S0.sz)) (y := [10]) (bg9.up k10) (by simp) (split_joined hne hnl) ?_ _ _ { s9 with heap := h10, toks := t10 } _ _ okd (stays_refl _) (.cons (.str _ _) hvs) fun v11 h11 t11 k11 hv11 nw11 => ?_
   ·have : (3010 + [10].length) * (nlL S0.lines S0.ps S0.sz).length ≤ 3011 * 302 := Nat.mul_le_mul (by simp) hrn
    omega
   ·have M9kb : KB [ac, ad, ll] s.heap s9.heap := M8.kb.tr kb9
    have rx : RX s { s9 with heap := h11, toks := t11 } := (M8.rx.tr rx9).tr (RX.ht _ _ _)
    have kt : KeepT s.heap h11 := fun c o nt e => k11 _ _ (k10 _ _ (M9kb c o (fun q => by
     simp only [List.mem_cons, List.not_mem_nil, or_false] at q
     rcases q with rfl | rfl | rfl
     ·rw [old nac] at e; cases e
     ·rw [old nad] at e; cases e
     ·rw [old nll] at e; cases e) nt e))
    refine hQ v11 _ rx kt ((bg9.up k10).up k11) hv11 fun a q => ?_
    cases z : s.heap.get? a with
    | none => rfl
    | some o =>
     have h1 : h10.get? a = none := nw11 rfl a q
     have nt : NT a := by
      subst q
      obtain ⟨_, _, nt, _, _⟩ := VD.listR hv11; exact nt
     have := k10 _ _ (M9kb a o (fun q => by
      simp only [List.mem_cons, List.not_mem_nil, or_false] at q
      rcases q with rfl | rfl | rfl
      ·rw [old nac] at z; cases z
      ·rw [old nad] at z; cases z
      ·rw [old nll] at z; cases z) nt z)
     rw [h1] at this; cases this
end Krowswp
section
variable {w : World} {A : Around} {E : Value → Shared → Prop} {s s2 s3 : Shared} {x fd ac ad ll : Addr} {mx : Int} {spl : List Nat} {lines : List (List Nat)} {ps : List Piece} {sz : Int} {n : Nat} {b : Heap} {env : Env} {σ σ' : List (Str × D)} {O : List Str} {h h' : Heap}
theorem rows_wp {head : Int} {lead : List Nat} {texts : List (List Nat)} {a0 : Addr} {t1 t2 t3 t4 : Tok} {Q : Value → Shared → Prop} (G : Gr w b) (bs : b.StaysIn s.heap) (hb0 : b.get? 140 = none ∧ b.get? 147 = none) (hbig : Big s.heap) (ok : Ok 40 A)
  (hvt : VD s.heap (.ref a0) (.list (TL texts))) (hlen : texts.length ≤ 300) (hl : ∀ t ∈ texts, lead.length + t.length ≤ 9 ∧ Asc t) (ha : Asc lead) (hspl : spl.length < 1000) (hh0 : 0 ≤ head) (hh1 : head < 1000)
  (hno : (runC mx spl lead ⟨[], [], head⟩ texts).sz = 0 → lenP (nlP (runC mx spl lead ⟨[], [], head⟩ texts).ps) ≠ 0 → Txt.isspace (S (textP (nlP (runC mx spl lead ⟨[], [], head⟩ texts).ps))) = false)
  (hne : rowsOf head mx spl lead texts ≠ []) (hnl : ∀ r ∈ rowsOf head mx spl lead texts, 10 ∉ r)
  (hQ : ∀ v s', RX s s' → KeepT s.heap s'.heap → Big s'.heap → VD s'.heap v (.list (TL (rowsOf head mx spl lead texts))) → (∀ a, v = .ref a → s.heap.get? a = none) → Q v s') :
  wpAny (model PW w) A (call (.ref 254) [.int head t1, .int mx t2, .str (S spl) t3, .str (S lead) t4, .ref a0]) Q E s :=
 by_eps (C := Krowswp.C0) _ Krowswp.main0 (w, A, E, s, mx, spl, b, head, lead, texts, a0, t1, t2, t3, t4, Q) G bs hb0 hbig ok hvt hlen hl ha hspl hh0 hh1 hno hne hnl hQ
end
end Mine
-- MF32
namespace Mine
theorem find3_at {x : List Nat} {c i k : Nat} (hik : i ≤ k) (hk : x[k]? = some c) (hn : ∀ v, i ≤ v → v < k → x[v]? ≠ some c) : Txt.find3 (S x) (S [c]) (i : Nat) = (k : Int) := by
 have hkl : k < x.length := by
  cases h : decide (k < x.length) with
  | true => exact of_decide_eq_true h
  | false => rw [List.getElem?_eq_none (by simpa using of_decide_eq_false h)] at hk; cases hk
 have e1 : ∀ v, v < x.length → ((S x).cps.getD v 0 = c ↔ x[v]? = some c) := by
  intro v hv
  have : (S x).cps.getD v 0 = x[v] := by show (x.toArray).getD v 0 = _; simp [Array.getD, hv]
  rw [this, List.getElem?_eq_getElem hv]; simp
 have ef : fromIndex (S x).length (i : Nat) = i := by
  rw [S_len]
  have q : ¬ ((i : Int) < 0) := by omega
  simp only [fromIndex, if_neg q]
  omega
 have z := StrLaws.find3_spec (S x) c (i : Nat)
 rw [S_len] at ef
 simp only [S_len, ef] at z
 rcases z with ⟨_, z⟩ | ⟨j, z, z1, z2, z3, z4⟩
 ·exact absurd ((e1 k hkl).mpr hk) (z k hik hkl)
 ·refine z.trans ?_
  rcases Nat.lt_trichotomy j k with q | q | q
  ·exact absurd ((e1 j z2).mp z3) (hn j z1 q)
  ·rw [q]
  ·exact absurd ((e1 k hkl).mpr hk) (z4 k hik q)
theorem find3_no {x : List Nat} {c i : Nat} (hi : i ≤ x.length) (hn : ∀ v, i ≤ v → x[v]? ≠ some c) : Txt.find3 (S x) (S [c]) (i : Nat) = -1 := by
 have e1 : ∀ v, v < x.length → ((S x).cps.getD v 0 = c ↔ x[v]? = some c) := by
  intro v hv
  have : (S x).cps.getD v 0 = x[v] := by show (x.toArray).getD v 0 = _; simp [Array.getD, hv]
  rw [this, List.getElem?_eq_getElem hv]; simp
 have ef : fromIndex (S x).length (i : Nat) = i := by
  rw [S_len]
  have q : ¬ ((i : Int) < 0) := by omega
  simp only [fromIndex, if_neg q]
  omega
 have z := StrLaws.find3_spec (S x) c (i : Nat)
 rw [S_len] at ef
 simp only [S_len, ef] at z
 rcases z with ⟨z, _⟩ | ⟨j, z, z1, z2, z3, z4⟩
 ·exact z
 ·exact absurd ((e1 j z2).mp z3) (hn j z1)
section
variable {w : World} {n : Nat} {env : Env} {h b : Heap}
theorem evf_method_str {o : Expr} {name : Str} {id : String} {apos pos : Pos} {e : Expr} {es : List Expr} {x : Str} {ds : List D} {r : D} (ho : EV w n env h o (.str x)) (ha : AV w n env h pos (e :: es) ds)
  (pa : PlainAttrs "str") (sl : Slot "str" name id) (ty : typeOf (.builtin id) = pure (.type "method_descriptor"))
  (hc : CVF w n h (.builtin id) (.str x :: ds) r true)
  (hb : attributeBase o name env (eval o env) = eval o env := by rfl)
  (hl : ((((backTo pos (starEach (e :: es) env)).all fun x => !x.fst) && (backToKw pos (keywordEach [] env)).all fun x => x.fst.isSome) && decide (((e :: es).length + ([] : List Keyword).length + if ([] : List Keyword).isEmpty = true then 0 else 1) < 30)) = true := by rfl)
  (hp : (apos.endLine == pos.line) = true := by rfl)
  (hs : ((backTo pos (starEach (e :: es) env)).any fun x => x.1) = false := by rfl)
  (hn : starEach (e :: es) env = (false, eval e env) :: starEach es env := by rfl) : EVF w n env h (.Call (.Attribute o name apos) (e :: es) [] pos) r := fun A E s Q ok st hQ => by
 refine wpAny_Call_method hb hl hp pa sl ty (ho A E s _ ok st fun v h1 t1 k1 v1 => ?_)
 obtain ⟨t, rfl⟩ := VD.strE v1
 refine ⟨rfl, fun a e => (nomatch e), callWith_builtin hs (wp_evalArgs ha ok (stays_trans st k1) (fun vs h2 t2 k2 v2 => ?_) hn)⟩
 exact hc A E { s with heap := h2, toks := t2 } Q (.str x t :: vs) ok (stays_trans st (stays_trans k1 k2)) (.cons (.str _ _) v2) fun v h3 t3 k3 v3 f3 => hQ v h3 t3 (stays_trans k1 (stays_trans k2 k3)) v3 fun a q => not_old (stays_trans k1 k2) (f3 rfl a q)
theorem ev_find {o e : Expr} {apos pos : Pos} {x y : List Nat} (ho : EV w n env h o (.str (S x))) (he : EV w n env h e (.str (S y)))
  (hb : attributeBase o (Str.ofString "find") env (eval o env) = eval o env := by rfl)
  (hl : ((((backTo pos (starEach [e] env)).all fun x => !x.fst) && (backToKw pos (keywordEach [] env)).all fun x => x.fst.isSome) && decide (([e].length + ([] : List Keyword).length + if ([] : List Keyword).isEmpty = true then 0 else 1) < 30)) = true := by rfl)
  (hp : (apos.endLine == pos.line) = true := by rfl)
  (hs : ((backTo pos (starEach [e] env)).any fun x => x.1) = false := by rfl)
  (hn : starEach [e] env = (false, eval e env) :: starEach [] env := by rfl) : EV w n env h (.Call (.Attribute o (Str.ofString "find") apos) [e] [] pos) (.int (Txt.find (S x) (S y))) :=
 ev_method_str ho (av_cons he av_nil hn) PySem.F.plainAttrs_str PySem.F.slot_str_find PySem.F.type_str_find cv_find hb hl hp hs hn
end
structure Told (x : List Nat) (port : Int) (l r m : Nat) (parts : List (List Nat)) : Prop where
 hx : x.length < 500
 code : x.take 3 = [50, 50, 57]
 left : Txt.find (S x) (S [40]) = (l : Int)
 right : Txt.find3 (S x) (S [41]) ((l : Int) + 1) = (r : Int)
 lm : x[l + 1]? = some m
 rm : x[r - 1]? = some m
 r1 : 1 ≤ r
 lr : l + 1 ≤ r
 rl : r ≤ x.length
 cut : Txt.split (S ((x.take r).drop (l + 1))) (S [m]) = parts.map S
 five : parts.length = 5
 port : ∃ p, parts[3]? = some p ∧ PySem.intText? (S p) = some port ∧ p.length ≤ 640
theorem lows_TL (l : List (List Nat)) : Lows (TL l) := lows_map (fun _ => .str _) l
set_option maxHeartbeats 8000000 in
theorem parse_cv {w : World} {n : Nat} {h b : Heap} (G : Gr w b) (bs : b.StaysIn h) (hbig : Big h) {x far : List Nat} {q port : Int} {l r m : Nat} {parts : List (List Nat)} (T : Told x port l r m parts) :
  CVF w (n + 2) h (.ref 226) [.str (S x), .tuple [.str (S far), .int q]] (.tuple [.str (S far), .int port]) false := by
 have hh := Eq.refl (PySem.Challenge.rw_xl0021_01, hd.heap_1)
 revert hh
 k_fill
 intro _
 refine' cv_def (names := [Str.ofString "resp", Str.ofString "peer"]) G bs hbig ?k1 ?k2 ?k3 rfl ?k4 ?k5 ?k6 ?k7 ?k8 ?k9 ?k10 ?k11 ?k12
 case k1 => k_is
 case k2 => k_is
 case k3 =>
  intro s vs hl
  obtain ⟨a, b, rfl⟩ : ∃ a b, vs = [a, b] := by
   match vs, hl with | [a, b], _ => exact ⟨a, b, rfl⟩
  exact BindsTo.of_eq rfl
 case k4 => decide
 case k5 =>
  intro x hx
  simp at hx
  rcases hx with rfl | rfl <;> rfl
 case k6 => intro x hx; simp at hx; rcases hx with rfl | rfl; exact .inl (.str _); exact .inl (.tuple (.cons (.str _) (.cons (.int _) .nil)))
 case k7 => exact one_none (by intro d hd l q; subst q; simp at hd)
 case k8 => decide
 case k10 => rfl
 case k11 => rfl
 case k12 => rfl
 case k9 =>
  intro h₀ F L' hb fe
  have z := sizeLine_eq
  obtain ⟨hx, code, left, right, lm, rm, r1, lr, rl, hcut, five, p, hp3, hp, hpl⟩ := T
  have sl : ∀ {i : Int} {v k : Nat}, x[k]? = some v → i = k → seqIndex? i x.length = some k := fun {i v k} e q => by
   have : k < x.length := by
    cases h : decide (k < x.length) with
    | true => exact of_decide_eq_true h
    | false => rw [List.getElem?_eq_none (by simpa using of_decide_eq_false h)] at e; cases e
   exact seq_at this (.inl q)
  refine sx_cons (sx_if_false (fun h lv => bv_eq (bv_cmp (ev_cut_str (ev_name fe lv rfl) pv_none (pv_some ev_int) (by omega)) ev_strS cmp_nes) ?_) sx_nil) ?_
  ·show (cut x none (some ((3 : Nat) : Int)) 1 != _) = false
   rw [cut_upto, code]; decide +kernel
  refine sx_cons (sx_assign (d := .int l) fe (.inl rfl) (fun h lv => ev_eq (ev_find (ev_name fe lv rfl) ev_strS) (by rw [← left]; rfl)) (.int _)) ?_
  refine sx_cons (sx_if_false (fun h lv => bv_eq (bv_cmp (ev_name fe lv rfl) ev_int cmp_lt) (by simp)) sx_nil) ?_
  refine sx_cons (sx_assign (d := .int r) fe (.inl rfl) (fun h lv => ev_eq (ev_method_str (ev_name fe lv rfl) (av_two ev_strS (ev_add (ev_name fe lv rfl) ev_int)) PySem.F.plainAttrs_str PySem.F.slot_str_find PySem.F.type_str_find cv_find3) (by rw [← right]; rfl)) (.int _)) ?_
  refine sx_cons (sx_if_false (fun h lv => bv_eq (bv_cmp (ev_name fe lv rfl) ev_int cmp_lt) (by simp)) sx_nil) ?_
  refine sx_cons (sx_if_false (fun h lv => bv_eq (bv_cmp (ev_idx_str (ev_name fe lv rfl) (ev_add (ev_name fe lv rfl) ev_int) (sl lm (by omega)) lm (by omega) (by omega)) (ev_idx_str (ev_name fe lv rfl) (ev_sub (ev_name fe lv rfl) ev_int) (sl rm (by omega)) rm (by omega) (by omega)) cmp_nes) (by simp)) sx_nil) ?_
  refine sx_cons (sx_assignF (l := TL parts) fe (.inl rfl) (fun h lv => evf_method_str (ev_eq (ev_cut_str (ev_name fe lv rfl) (pv_some (ev_add (ev_name fe lv rfl) ev_int)) (pv_some (ev_name fe lv rfl)) (by omega)) (by rw [show (l : Int) + 1 = ((l + 1 : Nat) : Int) from by omega, cut_mid _ _ _ rl lr])) (av_one (ev_idx_str (ev_name fe lv rfl) (ev_add (ev_name fe lv rfl) ev_int) (sl lm (by omega)) lm (by omega) (by omega))) PySem.F.plainAttrs_str PySem.F.slot_str_split PySem.F.type_str_split (cvf_split lv.big (by simp) hcut ?_)) (lows_TL _)) ?_
  ·simp; omega
  refine sx_cons (sx_if_false (fun h lv => bv_eq (bv_cmp (ev_lenl fe G (hb.stays lv) (ev_name fe lv rfl) (by simp; omega)) ev_int cmp_ne) (by simp [five])) sx_nil) ?_
  refine sx_cons (sx_assign (d := .str (S far)) fe (.inl rfl) (fun h lv => ev_idx_tuple (k := 0) (ev_name fe lv rfl) ev_int (by rfl) rfl (by decide) (by decide)) (.str _)) ?_
  refine sx_cons (sx_assign (d := .int port) fe (.inl rfl) (fun h lv => ev_call (f := .type "int") (ev_builtin fe G (hb.stays lv) g_int b_int (by decide) rfl) (av_one (ev_idx_list (k := 3) (ev_name fe lv rfl) ev_int (seq_at (by simp; omega) (.inl rfl)) (by rw [List.getElem?_map, hp3]; rfl) (by decide) (by decide))) (cv_int_str hp hpl) (.inr (.inl ⟨_, rfl⟩))) (.int _)) ?_
  exact sx_one (sx_return (fun h lv => ev_tuple lv.big (av_two (ev_name fe lv rfl) (ev_name fe lv rfl)) (by simp; omega)))
end Mine
-- MF33
namespace Mine
theorem errK {w : World} : (findIn (hd.heap_1 w.params) (.ref 217) "__str__" = some (some (.builtin "BaseException.__str__")) ∧ mroIn (hd.heap_1 w.params) 217 (.type "BaseException") = some true ∧ nsIn (hd.heap_1 w.params) mainGlobals "error_proto" = some (some (.ref 217)))
  ∧ (findIn (hd.heap_1 w.params) (.ref 205) "__str__" = some (some (.builtin "BaseException.__str__")) ∧ mroIn (hd.heap_1 w.params) 205 (.type "BaseException") = some true ∧ nsIn (hd.heap_1 w.params) mainGlobals "error_reply" = some (some (.ref 205)))
  ∧ exmOne (hd.heap_1 w.params) (.ref 217) (.ref 217) = some true ∧ exmOne (hd.heap_1 w.params) (.ref 205) (.ref 217) = some false ∧ exmOne (hd.heap_1 w.params) (.ref 205) (.ref 205) = some true := by
 have hh := Eq.refl (PySem.Challenge.rw_xl0021_01, hd.heap_1)
 revert hh
 k_fill
 intro _
 have e1 : findIn (hd.heap_1 w.params) (.ref 217) "__str__" = some (some (.builtin "BaseException.__str__")) := by k_is
 have e2 : mroIn (hd.heap_1 w.params) 217 (.type "BaseException") = some true := by k_is
 have e3 : nsIn (hd.heap_1 w.params) mainGlobals "error_proto" = some (some (.ref 217)) := by k_is
 have f1 : findIn (hd.heap_1 w.params) (.ref 205) "__str__" = some (some (.builtin "BaseException.__str__")) := by k_is
 have f2 : mroIn (hd.heap_1 w.params) 205 (.type "BaseException") = some true := by k_is
 have f3 : nsIn (hd.heap_1 w.params) mainGlobals "error_reply" = some (some (.ref 205)) := by k_is
 have g1 : exmOne (hd.heap_1 w.params) (.ref 217) (.ref 217) = some true := by kts_exm
 have g2 : exmOne (hd.heap_1 w.params) (.ref 205) (.ref 217) = some false := by kts_exm
 have g3 : exmOne (hd.heap_1 w.params) (.ref 205) (.ref 205) = some true := by kts_exm
 exact ⟨⟨e1, e2, e3⟩, ⟨f1, f2, f3⟩, g1, g2, g3⟩
theorem errX {w : World} : excIn (hd.heap_1 w.params) 217 [.type "Exception", .type "BaseException", .type "object"] "Exception.__new__" = true ∧ excIn (hd.heap_1 w.params) 205 [.type "Exception", .type "BaseException", .type "object"] "Exception.__new__" = true := by
 have hh := Eq.refl (PySem.Challenge.rw_xl0021_01, hd.heap_1)
 revert hh
 k_fill
 intro _
 have e1 : excIn (hd.heap_1 w.params) 217 [.type "Exception", .type "BaseException", .type "object"] "Exception.__new__" = true := by k_exc
 have e2 : excIn (hd.heap_1 w.params) 205 [.type "Exception", .type "BaseException", .type "object"] "Exception.__new__" = true := by k_exc
 exact ⟨e1, e2⟩
section
variable {prog : Program} {K : Frag} {w : World} {A : Around} {E : Value → Shared → Prop} {s : Shared} {e t0 C : Addr} {m : Str} {tk : Tok} {n : String}
noncomputable def FltAt (h : Heap) (e C t0 : Addr) : Prop := ∃ o vs, h.get? e = some o ∧ o.cls = .ref C ∧ o.data = .fields vs ∧ vs[0]? = some (.ref t0)
theorem flt_type {M : Model} (x : FltAt s.heap e C t0) : Looks M s.heap (typeOf (.ref e)) (.ref C) := by
 obtain ⟨o, vs, ho, hc, hd', h0⟩ := x
 exact hc ▸ (Looks.ld ho).andThen .now
theorem flt_args {M : Model} {Q : Value × List Value → Shared → Prop} (x : FltAt s.heap e C t0) (ht : s.heap.TupAt t0 [.str m tk]) (hq : Q (.ref t0, [.str m tk]) s) : wpAny M A (PySem.Builtin.BaseException.bexcArgs (.ref e)) Q E s := by
 obtain ⟨o, vs, ho, hc, hd', h0⟩ := x
 obtain ⟨ot, k, hto, _, htd⟩ := ht
 unfold PySem.Builtin.BaseException.bexcArgs
 refine wpAny_bind (wpAny_field ho hd' h0 (wpAny_bind (wpAny_seqItems hto htd ?_)))
 exact wpAny_pure hq
theorem flt_entry {Q : PySem.Fin → Shared → Prop} (x : FltAt s.heap e C t0) (ht : s.heap.TupAt t0 [.str m tk]) (hq : Q (.done (.ret (.str m tk))) s) : wpAny (model prog w) A (Builtin.«BaseException.__str__» ⟨[.ref e], []⟩) Q E s := by
 unfold Builtin.«BaseException.__str__»
 repeat (first | with_reducible refine flt_args x ht ?_ | wp_step)
 exact hq
theorem own_call {i owner nm : String} {B : Builtin} {v : Value} {rest : List Value} {Q : Value → Shared → Prop} (hi : Looks (model prog w) s.heap (isInstance v (.type owner)) true)
  (hk : builtinKind i = some .method ∨ builtinKind i = some .slot) (hs : splitId i = some (owner, nm)) (hp : plainId i = true) (hB : entryFor table i = some B) (ha : argsOk i ⟨v :: rest, []⟩)
  (hc : wpAny (model prog w) A.in1 (B ⟨v :: rest, []⟩) (fun fin s' => ∃ v, fin = .done (.ret v) ∧ Q v s') E s) : wpAny (model prog w) A (call (.builtin i) (v :: rest)) Q E s := by
 refine wpAny_call (codeAny_call_builtin hp hB (check_method hk hs hi ha (wpAny_mono hc (fun fin s' h' => ?_) fun _ _ h' => h')))
 obtain ⟨v, rfl, hv⟩ := h'; exact hv
theorem flt_call (FX : ExcStrFacts "Exception" n) {Q : Value → Shared → Prop} (hK : K.In s.heap) (hm : mroIn K C (.type "BaseException") = some true) (x : FltAt s.heap e C t0) (ht : s.heap.TupAt t0 [.str m tk]) (hq : Q (.str m tk) s) :
  wpAny (model prog w) A (call (.builtin "BaseException.__str__") [.ref e]) Q E s :=
 own_call (owner := "BaseException") (nm := "__str__") ((flt_type x).andThen (looks_mroIn (K := K) hK hm)) (.inr (by decide +kernel)) (by decide +kernel) FX.str.plain PySem.F.entry_bexc_str (PySem.F.args_bexc_str _) (flt_entry x ht ⟨_, rfl, hq⟩)
theorem flt_special (FX : ExcStrFacts "Exception" n) {Q : Option Value → Shared → Prop} (hK : K.In s.heap) (hf : findIn K (.ref C) "__str__" = some (some (.builtin "BaseException.__str__"))) (hm : mroIn K C (.type "BaseException") = some true) (x : FltAt s.heap e C t0) (ht : s.heap.TupAt t0 [.str m tk]) (hq : Q (some (.str m tk)) s) :
  wpAny (model prog w) A (callSpecial? (.ref e) "__str__" []) Q E s := by
 simp only [callSpecial?]
 unfold specialOf
 refine wpAny_bind (wpAny_bind ((flt_type x).here ((looks_findIn hK hf).here ?_)))
 simp only [FX.str.bind]
 exact wpAny_holding (wpAny_bind (wpAny_pure (wpAny_bind (wpAny_mono (flt_call (Q := fun v s' => v = .str m tk ∧ s' = s) FX hK hm x ht ⟨rfl, rfl⟩) (fun v s' h' => by obtain ⟨rfl, rfl⟩ := h'; exact wpAny_pure hq) fun _ _ h' => h'))))
theorem flt_strOf (FX : ExcStrFacts "Exception" n) {Q : Value → Shared → Prop} (hu : A.units < cLine) (hK : K.In s.heap) (hf : findIn K (.ref C) "__str__" = some (some (.builtin "BaseException.__str__"))) (hm : mroIn K C (.type "BaseException") = some true) (x : FltAt s.heap e C t0) (ht : s.heap.TupAt t0 [.str m tk]) (hq : Q (.str m tk) s) :
  wpAny (model prog w) A (Builtin.Str.strOf (.ref e)) Q E s := by
 unfold Builtin.Str.strOf
 repeat (first | with_reducible refine wpAny_cRoomFor hu ?_ | with_reducible refine flt_special FX hK hf hm x ht ?_ | wp_step)
 exact hq
theorem flt_str (FX : ExcStrFacts "Exception" n) {Q : Value → Shared → Prop} (hu : A.units + 2 < cLine) (hK : K.In s.heap) (hf : findIn K (.ref C) "__str__" = some (some (.builtin "BaseException.__str__"))) (hm : mroIn K C (.type "BaseException") = some true) (x : FltAt s.heap e C t0) (ht : s.heap.TupAt t0 [.str m tk]) (hq : Q (.str m tk) s) :
  wpAny (model prog w) A (call (.type "str") [.ref e]) Q E s :=
 PySem.callType_new PySem.F.called_str (by decide) (PySem.F.typeCall_str_1 _) (PySem.F.newCall_str_1 _) (fun obj => PySem.F.args_object_init_2 obj _) PySem.F.entry_str_new
  (meets_str_new (S := fun A' R s' => A'.units + 1 < cLine ∧ s' = s ∧ R (.ok (.ret (.str m tk))) s')
   fun _ _ A1 R1 s1 hq => by obtain ⟨q1, rfl, q2⟩ := hq; exact flt_strOf (A := A1.in1) (Q := fun v s2 => R1 (.ok (.ret v)) s2) FX q1 hK hf hm x ht q2)
  ⟨(show A.units + 1 + 1 < cLine from hu), rfl, typeIs_str _ _ _, hq⟩
end
end Mine
-- MF34
namespace Mine
inductive Ref (x : List Nat) : Str → Addr → Prop
 | code (h : x.take 3 ≠ [50, 50, 57]) : Ref x "error_reply" 205
 | left (h : x.take 3 = [50, 50, 57]) (h1 : Txt.find (S x) (S [40]) = -1) : Ref x "error_proto" 217
 | right (l : Nat) (h : x.take 3 = [50, 50, 57]) (h1 : Txt.find (S x) (S [40]) = (l : Int)) (h2 : Txt.find3 (S x) (S [41]) ((l : Int) + 1) = -1) : Ref x "error_proto" 217
 | marks (l r m k : Nat) (h : x.take 3 = [50, 50, 57]) (h1 : Txt.find (S x) (S [40]) = (l : Int)) (h2 : Txt.find3 (S x) (S [41]) ((l : Int) + 1) = (r : Int)) (h3 : x[l + 1]? = some m) (h4 : x[r - 1]? = some k) (h5 : 1 ≤ r) (h6 : m ≠ k) : Ref x "error_proto" 217
 | parts (l r m : Nat) (ps : List (List Nat)) (h : x.take 3 = [50, 50, 57]) (h1 : Txt.find (S x) (S [40]) = (l : Int)) (h2 : Txt.find3 (S x) (S [41]) ((l : Int) + 1) = (r : Int)) (h3 : x[l + 1]? = some m) (h4 : x[r - 1]? = some m) (h5 : 1 ≤ r) (h6 : l + 1 ≤ r) (h7 : r ≤ x.length)
   (h8 : Txt.split (S ((x.take r).drop (l + 1))) (S [m]) = ps.map S) (h9 : ps.length ≠ 5) (h10 : ps.length < 100) : Ref x "error_proto" 217
section
variable {w : World} {A : Around} {E : Value → Shared → Prop} {s : Shared} {n : Nat} {b base g : Heap} {outer : List Env} {L a : Addr} {name : Str} {scope : Scope} {cd : Value} {σ : List (Str × D)} {O : List Str} {F : Addr → Prop} {h₀ : Heap} {R : Result → Shared → Prop}
end
namespace Kraiseout
noncomputable def Claim0 (w : World) (A : Around) (s : Shared) (b : Heap) (base : Heap) (g : Heap) (outer : List Env) (L : Addr) (a : Addr) (name : Str) (scope : Scope) (cd : Value) (σ : List (Str × D)) (O : List Str) (F : Addr → Prop) (h₀ : Heap) (R : Result → Shared → Prop) (nm : Str) (C : Addr) (np : Pos) (rp : Pos) (cpos : Pos) (pos : Pos) (x : List Nat) (Q : Flow → Shared → Prop) (h : Heap) (tk : Tok) : Prop :=
 ∀ (K : Below A base outer g) (G : Gr w b) (hb : b.StaysIn g) (hL : g.objs.size = L) (gk : g.StaysIn h) (fe : Fe (envOf name scope L a cd)) (lv : LV h₀ F (envOf name scope L a cd) σ O h) (hl : σ.lookup (Str.ofString "resp") = some (.str (S x))) (hok : A.handled = none) (hn : nsIn (hd.heap_1 w.params) mainGlobals nm = some (some (.ref C))) (hx : excIn (hd.heap_1 w.params) C [.type "Exception", .type "BaseException", .type "object"] "Exception.__new__" = true) (hkn : (envOf name scope L a cd).kindOf nm = some .globalImplicit) (hd1 : (nm == ("__debug__" : Str)) = false) (he : starEach [Expr.Name (Str.ofString "resp") rp] (envOf name scope L a cd) = (false, eval (Expr.Name (Str.ofString "resp") rp) (envOf name scope L a cd)) :: starEach [] (envOf name scope L a cd)) (hQ : ∀ h' e t t1, RaisedS base g outer e (.ref C) t [.str (S x) t1] [] h' → g.UpToSlots h' → R (.error (.ref e)) { s with heap := h', toks := tk }), wpAny (model PW w) (A.deeper (envOf name scope L a cd)) (exec (.Raise (some (.Call (.Name nm np) [.Name (Str.ofString "resp") rp] [] cpos)) none pos) (envOf name scope L a cd)) Q
   (fun e s' => wpAny (model PW w) (A.deeper (envOf name scope L a cd)) (leaving (envOf name scope L a cd) e) (fun _ s'' => R (.error e) s'') (fun e' s'' => R (.error e') s'') s') { s with heap := h, toks := tk }
noncomputable abbrev Ty0 := (World) × (Around) × (Shared) × (Heap) × (Heap) × (Heap) × (List Env) × (Addr) × (Addr) × (Str) × (Scope) × (Value) × (List (Str × D)) × (List Str) × (Addr → Prop) × (Heap) × (Result → Shared → Prop) × (Str) × (Addr) × (Pos) × (Pos) × (Pos) × (Pos) × (List Nat) × (Flow → Shared → Prop) × (Heap) × (Tok)
noncomputable def C0 (p : Ty0) : Prop := Claim0 p.1 p.2.1 p.2.2.1 p.2.2.2.1 p.2.2.2.2.1 p.2.2.2.2.2.1 p.2.2.2.2.2.2.1 p.2.2.2.2.2.2.2.1 p.2.2.2.2.2.2.2.2.1 p.2.2.2.2.2.2.2.2.2.1 p.2.2.2.2.2.2.2.2.2.2.1 p.2.2.2.2.2.2.2.2.2.2.2.1 p.2.2.2.2.2.2.2.2.2.2.2.2.1 p.2.2.2.2.2.2.2.2.2.2.2.2.2.1 p.2.2.2.2.2.2.2.2.2.2.2.2.2.2.1 p.2.2.2.2.2.2.2.2.2.2.2.2.2.2.2.1 p.2.2.2.2.2.2.2.2.2.2.2.2.2.2.2.2.1 p.2.2.2.2.2.2.2.2.2.2.2.2.2.2.2.2.2.1 p.2.2.2.2.2.2.2.2.2.2.2.2.2.2.2.2.2.2.1 p.2.2.2.2.2.2.2.2.2.2.2.2.2.2.2.2.2.2.2.1 p.2.2.2.2.2.2.2.2.2.2.2.2.2.2.2.2.2.2.2.2.1 p.2.2.2.2.2.2.2.2.2.2.2.2.2.2.2.2.2.2.2.2.2.1 p.2.2.2.2.2.2.2.2.2.2.2.2.2.2.2.2.2.2.2.2.2.2.1 p.2.2.2.2.2.2.2.2.2.2.2.2.2.2.2.2.2.2.2.2.2.2.2.1 p.2.2.2.2.2.2.2.2.2.2.2.2.2.2.2.2.2.2.2.2.2.2.2.2.1 p.2.2.2.2.2.2.2.2.2.2.2.2.2.2.2.2.2.2.2.2.2.2.2.2.2.1 p.2.2.2.2.2.2.2.2.2.2.2.2.2.2.2.2.2.2.2.2.2.2.2.2.2.2
noncomputable def eps0 : Ty0 := @Classical.epsilon Ty0 ⟨(aWorld 1, ({} : Around), ({} : Shared), (default : Heap), (default : Heap), (default : Heap), (default : List Env), (default : Addr), (default : Addr), (default : Str), (default : Scope), (default : Value), (default : List (Str × D)), (default : List Str), (fun _ => True), (default : Heap), (fun _ _ => True), (default : Str), (default : Addr), (default : Pos), (default : Pos), (default : Pos), (default : Pos), (default : List Nat), (fun _ _ => True), (default : Heap), (default : Tok))⟩ (fun p => ¬ C0 p)
noncomputable def w := eps0.1
noncomputable def A := eps0.2.1
noncomputable def s := eps0.2.2.1
noncomputable def b := eps0.2.2.2.1
noncomputable def base := eps0.2.2.2.2.1
noncomputable def g := eps0.2.2.2.2.2.1
noncomputable def outer := eps0.2.2.2.2.2.2.1
noncomputable def L := eps0.2.2.2.2.2.2.2.1
noncomputable def a := eps0.2.2.2.2.2.2.2.2.1
noncomputable def name := eps0.2.2.2.2.2.2.2.2.2.1
noncomputable def scope := eps0.2.2.2.2.2.2.2.2.2.2.1
noncomputable def cd := eps0.2.2.2.2.2.2.2.2.2.2.2.1
noncomputable def σ := eps0.2.2.2.2.2.2.2.2.2.2.2.2.1
noncomputable def O := eps0.2.2.2.2.2.2.2.2.2.2.2.2.2.1
noncomputable def F := eps0.2.2.2.2.2.2.2.2.2.2.2.2.2.2.1
noncomputable def h₀ := eps0.2.2.2.2.2.2.2.2.2.2.2.2.2.2.2.1
noncomputable def R := eps0.2.2.2.2.2.2.2.2.2.2.2.2.2.2.2.2.1
noncomputable def nm := eps0.2.2.2.2.2.2.2.2.2.2.2.2.2.2.2.2.2.1
noncomputable def C := eps0.2.2.2.2.2.2.2.2.2.2.2.2.2.2.2.2.2.2.1
noncomputable def np := eps0.2.2.2.2.2.2.2.2.2.2.2.2.2.2.2.2.2.2.2.1
noncomputable def rp := eps0.2.2.2.2.2.2.2.2.2.2.2.2.2.2.2.2.2.2.2.2.1
noncomputable def cpos := eps0.2.2.2.2.2.2.2.2.2.2.2.2.2.2.2.2.2.2.2.2.2.1
noncomputable def pos := eps0.2.2.2.2.2.2.2.2.2.2.2.2.2.2.2.2.2.2.2.2.2.2.1
noncomputable def x := eps0.2.2.2.2.2.2.2.2.2.2.2.2.2.2.2.2.2.2.2.2.2.2.2.1
noncomputable def Q := eps0.2.2.2.2.2.2.2.2.2.2.2.2.2.2.2.2.2.2.2.2.2.2.2.2.1
noncomputable def h := eps0.2.2.2.2.2.2.2.2.2.2.2.2.2.2.2.2.2.2.2.2.2.2.2.2.2.1
noncomputable def tk := eps0.2.2.2.2.2.2.2.2.2.2.2.2.2.2.2.2.2.2.2.2.2.2.2.2.2.2
theorem main0 : Claim0 w A s b base g outer L a name scope cd σ O F h₀ R nm C np rp cpos pos x Q h tk := by
 intro K G hb hL gk fe lv hl hok hn hx hkn hd1 he hQ
 obtain ⟨mean, mg, mb, T⟩ := G.t
 have T1 : TopM mean mg mb g := Top.keeps T hb
 have X1 : (hd.heap_1 w.params).In g := fun a o e => hb _ _ (G.k a o e)
 obtain ⟨m, hns⟩ := lv.ns
 have FF : Fr g L h m := ⟨hns, gk, Nat.le_of_eq hL⟩
 have OC := own_of_in X1 (topRead_of T1) hn hx
 refine Raise_own (s := { s with heap := h, toks := tk }) FF T1.g OC PySem.F.excBase_Exception hok ?_ he rfl fe.kind hkn hd1
 rw [he]
 refine spliced_cons (name_at (s := { s with heap := h, toks := tk }) fe lv hl fun v _ hv => spliced_nil ?_)
 obtain ⟨t1, rfl⟩ := VD.strE hv
 refine ⟨by rw [sizeLine_eq]; show 1 ≤ 16777216; decide, fun a o e => gk a o e, fun h' e mx => ?_⟩
 exact leave_raiseS (s' := { s with heap := h', toks := tk }) K mx FF News.nil (fun h2 t R1 _ U => hQ h2 e t t1 R1 U) fe.kind
end Kraiseout
section
variable {w : World} {A : Around} {E : Value → Shared → Prop} {s : Shared} {n : Nat} {b base g : Heap} {outer : List Env} {L a : Addr} {name : Str} {scope : Scope} {cd : Value} {σ : List (Str × D)} {O : List Str} {F : Addr → Prop} {h₀ : Heap} {R : Result → Shared → Prop}
theorem raise_out {nm : Str} {C : Addr} {np rp cpos pos : Pos} {x : List Nat} {Q : Flow → Shared → Prop} {h : Heap} {tk : Tok} (K : Below A base outer g) (G : Gr w b) (hb : b.StaysIn g) (hL : g.objs.size = L) (gk : g.StaysIn h)
  (fe : Fe (envOf name scope L a cd)) (lv : LV h₀ F (envOf name scope L a cd) σ O h) (hl : σ.lookup (Str.ofString "resp") = some (.str (S x))) (hok : A.handled = none)
  (hn : nsIn (hd.heap_1 w.params) mainGlobals nm = some (some (.ref C))) (hx : excIn (hd.heap_1 w.params) C [.type "Exception", .type "BaseException", .type "object"] "Exception.__new__" = true)
  (hkn : (envOf name scope L a cd).kindOf nm = some .globalImplicit) (hd1 : (nm == ("__debug__" : Str)) = false)
  (he : starEach [Expr.Name (Str.ofString "resp") rp] (envOf name scope L a cd) = (false, eval (Expr.Name (Str.ofString "resp") rp) (envOf name scope L a cd)) :: starEach [] (envOf name scope L a cd))
  (hQ : ∀ h' e t t1, RaisedS base g outer e (.ref C) t [.str (S x) t1] [] h' → g.UpToSlots h' → R (.error (.ref e)) { s with heap := h', toks := tk }) :
  wpAny (model PW w) (A.deeper (envOf name scope L a cd)) (exec (.Raise (some (.Call (.Name nm np) [.Name (Str.ofString "resp") rp] [] cpos)) none pos) (envOf name scope L a cd)) Q
   (fun e s' => wpAny (model PW w) (A.deeper (envOf name scope L a cd)) (leaving (envOf name scope L a cd) e) (fun _ s'' => R (.error e) s'') (fun e' s'' => R (.error e') s'') s') { s with heap := h, toks := tk } :=
 by_eps (C := Kraiseout.C0) _ Kraiseout.main0 (w, A, s, b, base, g, outer, L, a, name, scope, cd, σ, O, F, h₀, R, nm, C, np, rp, cpos, pos, x, Q, h, tk) K G hb hL gk fe lv hl hok hn hx hkn hd1 he hQ
theorem sx_step {env : Env} {t : Sem Flow} {σ' : List (Str × D)} {O' : List Str} {h1 : Heap} {tk : Tok} {Q : Flow → Shared → Prop} (h : SX XF w n env h₀ F t σ O (.next σ' O')) (ok : Ok n A) (lv : LV h₀ F env σ O h1)
  (k : ∀ h2 tk2, LV h₀ F env σ' O' h2 → Q .next { s with heap := h2, toks := tk2 }) : wpAny (model PW w) A t Q E { s with heap := h1, toks := tk } :=
 h A E _ Q ⟨ok, trivial⟩ lv fun s' x lv' => by rw [show s' = _ from x]; exact k _ _ lv'
theorem if_raise {env : Env} {test : Expr} {st : Stmt} {orelse : List Stmt} {pos : Pos} {h1 : Heap} {tk : Tok} {Q : Flow → Shared → Prop} (ht : BV w n env h1 test true) (ok : Ok n A)
  (k : ∀ h2 tk2, h1.StaysIn h2 → wpAny (model PW w) A (exec st env) (fun _ _ => False) E { s with heap := h2, toks := tk2 }) : wpAny (model PW w) A (exec (.If test [st] orelse pos) env) Q E { s with heap := h1, toks := tk } :=
 wpAny_If (ht A E { s with heap := h1, toks := tk } _ ok (stays_refl _) fun h2 t2 k2 => by
  exact wpAny_execs_cons (wpAny_mono (k h2 t2 k2) (fun _ _ f => f.elim) fun _ _ h => h))
end
namespace Kparseraise
noncomputable def Claim0 (w : World) (A : Around) (E : Value → Shared → Prop) (s : Shared) (b : Heap) (base : Heap) (outer : List Env) (x : List Nat) (far : List Nat) (q : Int) (v2 : Value) (t0 : Tok) (Q : Value → Shared → Prop) : Prop :=
 ∀ (cn : Str) (C : Addr) (X : Ref x cn C) (K : Below A base outer s.heap) (G : Gr w b) (bs : b.StaysIn s.heap) (hbig : Big s.heap) (ok : Ok 20 A) (hx : x.length < 500) (hv2 : VD s.heap v2 (.tuple [.str (S far), .int q])) (hQ : ∀ h' tk e t t1, RaisedS base s.heap outer e (.ref C) t [.str (S x) t1] [] h' → s.heap.UpToSlots h' → E (.ref e) { s with heap := h', toks := tk }), wpAny (model PW w) A (call (.ref 226) [.str (S x) t0, v2]) Q E s
noncomputable abbrev Ty0 := (World) × (Around) × (Value → Shared → Prop) × (Shared) × (Heap) × (Heap) × (List Env) × (List Nat) × (List Nat) × (Int) × (Value) × (Tok) × (Value → Shared → Prop)
noncomputable def C0 (p : Ty0) : Prop := Claim0 p.1 p.2.1 p.2.2.1 p.2.2.2.1 p.2.2.2.2.1 p.2.2.2.2.2.1 p.2.2.2.2.2.2.1 p.2.2.2.2.2.2.2.1 p.2.2.2.2.2.2.2.2.1 p.2.2.2.2.2.2.2.2.2.1 p.2.2.2.2.2.2.2.2.2.2.1 p.2.2.2.2.2.2.2.2.2.2.2.1 p.2.2.2.2.2.2.2.2.2.2.2.2
noncomputable def eps0 : Ty0 := @Classical.epsilon Ty0 ⟨(aWorld 1, ({} : Around), (fun _ _ => True), ({} : Shared), (default : Heap), (default : Heap), (default : List Env), (default : List Nat), (default : List Nat), (default : Int), (default : Value), (default : Tok), (fun _ _ => True))⟩ (fun p => ¬ C0 p)
noncomputable def w := eps0.1
noncomputable def A := eps0.2.1
noncomputable def E := eps0.2.2.1
noncomputable def s := eps0.2.2.2.1
noncomputable def b := eps0.2.2.2.2.1
noncomputable def base := eps0.2.2.2.2.2.1
noncomputable def outer := eps0.2.2.2.2.2.2.1
noncomputable def x := eps0.2.2.2.2.2.2.2.1
noncomputable def far := eps0.2.2.2.2.2.2.2.2.1
noncomputable def q := eps0.2.2.2.2.2.2.2.2.2.1
noncomputable def v2 := eps0.2.2.2.2.2.2.2.2.2.2.1
noncomputable def t0 := eps0.2.2.2.2.2.2.2.2.2.2.2.1
noncomputable def Q := eps0.2.2.2.2.2.2.2.2.2.2.2.2
set_option maxHeartbeats 8000000 in
theorem main0 : Claim0 w A E s b base outer x far q v2 t0 Q := by
 intro cn C X K G bs hbig ok hx hv2 hQ
 have hh := Eq.refl (PySem.Challenge.rw_xl0021_01, hd.heap_1)
 revert hh
 k_fill
 intro _
 refine' wpAny_call (enter (n := 19) (names := [Str.ofString "resp", Str.ofString "peer"]) (vs := [.str (S x) t0, v2]) (ds := [.str (S x), .tuple [.str (S far), .int q]]) _ G bs hbig ok ?k1 ?k2 ?k3 rfl (.cons (.str _ _) (.cons hv2 .nil)) (by decide) ?k4 ?k5 ?k6 ?k7 ?k8 ?k9 ?k10 ?k11)
 case k1 => k_is
 case k2 => k_is
 case k3 => exact BindsTo.of_eq rfl
 case k4 => decide
 case k5 => intro x hx; simp at hx; rcases hx with rfl | rfl; exact .inl (.inl (.str _)); exact .inl (.inl (.tuple (.cons (.str _) (.cons (.int _) .nil))))
 case k6 => exact one_none (by intro d hd l q; subst q; simp at hd)
 case k7 => decide
 case k9 => rfl
 case k10 => rfl
 case k11 => rfl
 case k8 =>
  intro h₁ tk fe kp lv
  refine PySem.wpAt_of_wpAny ?_
  have z := sizeLine_eq
  let RR : Result → Shared → Prop := fun r s' => match r with | .ok (.ret v) => Q v s' | .ok _ => False | .error e => E e s'
  have okd : ∀ env, Ok 19 (A.deeper env) := fun env => ok.deeper
  have sl : ∀ {i : Int} {v k : Nat}, x[k]? = some v → i = k → seqIndex? i x.length = some k := fun {i v k} e q => by
   have : k < x.length := by
    cases h : decide (k < x.length) with
    | true => exact of_decide_eq_true h
    | false => rw [List.getElem?_eq_none (by simpa using of_decide_eq_false h)] at e; cases e
   exact seq_at this (.inl q)
  have lt : ∀ {v k : Nat}, x[k]? = some v → k < x.length := fun {v k} e => by
   cases h : decide (k < x.length) with
   | true => exact of_decide_eq_true h
   | false => rw [List.getElem?_eq_none (by simpa using of_decide_eq_false h)] at e; cases e
  have stF : ∀ {env : Env} {σ : List (Str × D)} {O : List Str} {h2 : Heap}, LV s.heap (fun c => ∃ o, s.heap.get? c = some o) env σ O h2 → s.heap.StaysIn h2 := fun lv c o e => lv.st c o ⟨o, e⟩ e
  have code : cut x none (some ((3 : Nat) : Int)) 1 = x.take 3 := cut_upto _ _
  by_cases h3 : x.take 3 = [50, 50, 57]
  ·refine wpAny_execs_cons (sx_step (sx_if_false (fun h lv => bv_eq (bv_cmp (ev_cut_str (ev_name fe lv rfl) pv_none (pv_some ev_int) (by omega)) ev_strS cmp_nes) ?_) sx_nil) (okd _) lv fun h2 t2 lv2 => ?_)
   ·show (cut x none (some ((3 : Nat) : Int)) 1 != _) = false
    rw [code, h3]; decide +kernel
   cases X with
   | code h => exact absurd h3 h
   | left h h1 =>
    refine wpAny_execs_cons (sx_step (sx_assign (d := .int (-1)) fe (.inl rfl) (fun h lv => ev_eq (ev_find (ev_name fe lv rfl) ev_strS) (by rw [← h1]; rfl)) (.int _)) (okd _) lv2 fun h3 t3 lv3 => ?_)
    exact wpAny_execs_cons (if_raise (n := 19) (bv_eq (bv_cmp (ev_name fe lv3 rfl) ev_int cmp_lt) (by decide)) (okd _) fun h9 tt k => raise_out (R := RR) (s := s) K G bs rfl (stays_trans (stF lv3) k) fe (lv3.keep k) rfl ok.hd errK.1.2.2 errX.1 rfl (by decide) rfl fun h' e t t1 R U => hQ h' tt e t t1 R U)
   | right l h h1 h2 =>
    refine wpAny_execs_cons (sx_step (sx_assign (d := .int (l : Int)) fe (.inl rfl) (fun h lv => ev_eq (ev_find (ev_name fe lv rfl) ev_strS) (by rw [← h1]; rfl)) (.int _)) (okd _) lv2 fun h3 t3 lv3 => ?_)
    refine wpAny_execs_cons (sx_step (sx_if_false (fun h lv => bv_eq (bv_cmp (ev_name fe lv rfl) ev_int cmp_lt) (by simp)) sx_nil) (okd _) lv3 fun h4 t4 lv4 => ?_)
    refine wpAny_execs_cons (sx_step (sx_assign (d := .int (-1)) fe (.inl rfl) (fun h lv => ev_eq (ev_method_str (ev_name fe lv rfl) (av_two ev_strS (ev_add (ev_name fe lv rfl) ev_int)) PySem.F.plainAttrs_str PySem.F.slot_str_find PySem.F.type_str_find cv_find3) (by rw [← h2]; rfl)) (.int _)) (okd _) lv4 fun h5 t5 lv5 => ?_)
    exact wpAny_execs_cons (if_raise (n := 19) (bv_eq (bv_cmp (ev_name fe lv5 rfl) ev_int cmp_lt) (by decide)) (okd _) fun h9 tt k => raise_out (R := RR) (s := s) K G bs rfl (stays_trans (stF lv5) k) fe (lv5.keep k) rfl ok.hd errK.1.2.2 errX.1 rfl (by decide) rfl fun h' e t t1 R U => hQ h' tt e t t1 R U)
   | marks l r m k h h1 h2 lm rm r1 mk =>
    refine wpAny_execs_cons (sx_step (sx_assign (d := .int (l : Int)) fe (.inl rfl) (fun h lv => ev_eq (ev_find (ev_name fe lv rfl) ev_strS) (by rw [← h1]; rfl)) (.int _)) (okd _) lv2 fun h3 t3 lv3 => ?_)
    refine wpAny_execs_cons (sx_step (sx_if_false (fun h lv => bv_eq (bv_cmp (ev_name fe lv rfl) ev_int cmp_lt) (by simp)) sx_nil) (okd _) lv3 fun h4 t4 lv4 => ?_)
    refine wpAny_execs_cons (sx_step (sx_assign (d := .int (r : Int)) fe (.inl rfl) (fun h lv => ev_eq (ev_method_str (ev_name fe lv rfl) (av_two ev_strS (ev_add (ev_name fe lv rfl) ev_int)) PySem.F.plainAttrs_str PySem.F.slot_str_find PySem.F.type_str_find cv_find3) (by rw [← h2]; rfl)) (.int _)) (okd _) lv4 fun h5 t5 lv5 => ?_)
    refine wpAny_execs_cons (sx_step (sx_if_false (fun h lv => bv_eq (bv_cmp (ev_name fe lv rfl) ev_int cmp_lt) (by simp)) sx_nil) (okd _) lv5 fun h6 t6 lv6 => ?_)
    exact wpAny_execs_cons (if_raise (n := 19) (bv_eq (bv_cmp (ev_idx_str (ev_name fe lv6 rfl) (ev_add (ev_name fe lv6 rfl) ev_int) (sl lm (by omega)) lm (by have := lt lm; omega) (by have := lt lm; omega)) (ev_idx_str (ev_name fe lv6 rfl) (ev_sub (ev_name fe lv6 rfl) ev_int) (sl rm (by omega)) rm (by have := lt rm; omega) (by have := lt rm; omega)) cmp_nes) (by simpa using mk)) (okd _) fun h9 tt k => raise_out (R := RR) (s := s) K G bs rfl (stays_trans (stF lv6) k) fe (lv6.keep k) rfl ok.hd errK.1.2.2 errX.1 rfl (by decide) rfl fun h' e t t1 R U => hQ h' tt e t t1 R U)
   | parts l r m ps h h1 h2 lm rm r1 lr rl hcut nfive hps =>
    refine wpAny_execs_cons (sx_step (sx_assign (d := .int (l : Int)) fe (.inl rfl) (fun h lv => ev_eq (ev_find (ev_name fe lv rfl) ev_strS) (by rw [← h1]; rfl)) (.int _)) (okd _) lv2 fun h3 t3 lv3 => ?_)
    refine wpAny_execs_cons (sx_step (sx_if_false (fun h lv => bv_eq (bv_cmp (ev_name fe lv rfl) ev_int cmp_lt) (by simp)) sx_nil) (okd _) lv3 fun h4 t4 lv4 => ?_)
    refine wpAny_execs_cons (sx_step (sx_assign (d := .int (r : Int)) fe (.inl rfl) (fun h lv => ev_eq (ev_method_str (ev_name fe lv rfl) (av_two ev_strS (ev_add (ev_name fe lv rfl) ev_int)) PySem.F.plainAttrs_str PySem.F.slot_str_find PySem.F.type_str_find cv_find3) (by rw [← h2]; rfl)) (.int _)) (okd _) lv4 fun h5 t5 lv5 => ?_)
    refine wpAny_execs_cons (sx_step (sx_if_false (fun h lv => bv_eq (bv_cmp (ev_name fe lv rfl) ev_int cmp_lt) (by simp)) sx_nil) (okd _) lv5 fun h6 t6 lv6 => ?_)
    refine wpAny_execs_cons (sx_step (sx_if_false (fun h lv => bv_eq (bv_cmp (ev_idx_str (ev_name fe lv rfl) (ev_add (ev_name fe lv rfl) ev_int) (sl lm (by omega)) lm (by omega) (by omega)) (ev_idx_str (ev_name fe lv rfl) (ev_sub (ev_name fe lv rfl) ev_int) (sl rm (by omega)) rm (by omega) (by omega)) cmp_nes) (by simp)) sx_nil) (okd _) lv6 fun h7 t7 lv7 => ?_)
    refine wpAny_execs_cons (sx_step (sx_assignF (l := TL ps) fe (.inl rfl) (fun h lv => evf_method_str (ev_eq (ev_cut_str (ev_name fe lv rfl) (pv_some (ev_add (ev_name fe lv rfl) ev_int)) (pv_some (ev_name fe lv rfl)) (by omega)) (by rw [show (l : Int) + 1 = ((l + 1 : Nat) : Int) from by omega, cut_mid _ _ _ rl lr])) (av_one (ev_idx_str (ev_name fe lv rfl) (ev_add (ev_name fe lv rfl) ev_int) (sl lm (by omega)) lm (by omega) (by omega))) PySem.F.plainAttrs_str PySem.F.slot_str_split PySem.F.type_str_split (cvf_split lv.big (by simp) hcut (by simp; omega))) (lows_TL _)) (okd _) lv7 fun h8 t8 lv8 => ?_)
    exact wpAny_execs_cons (if_raise (n := 19) (bv_eq (bv_cmp (ev_lenl fe G (stays_trans bs (stF lv8)) (ev_name fe lv8 rfl) (by simp; omega)) ev_int cmp_ne) (by simp; omega)) (okd _) fun h9 tt k => raise_out (R := RR) (s := s) K G bs rfl (stays_trans (stF lv8) k) fe (lv8.keep k) rfl ok.hd errK.1.2.2 errX.1 rfl (by decide) rfl fun h' e t t1 R U => hQ h' tt e t t1 R U)
  ·obtain ⟨rfl, rfl⟩ : cn = Str.ofString "error_reply" ∧ C = 205 := by
    cases X <;> first | exact ⟨rfl, rfl⟩ | contradiction
   refine wpAny_execs_cons (if_raise (n := 19) (bv_eq (bv_cmp (ev_cut_str (ev_name fe lv rfl) pv_none (pv_some ev_int) (by omega)) ev_strS cmp_nes) ?_) (okd _) fun h2 t2 k2 => ?_)
   ·show (cut x none (some ((3 : Nat) : Int)) 1 != _) = true
    rw [code]
    exact bne_iff_ne.mpr fun q => h3 (by rw [q]; decide +kernel)
   exact raise_out (R := RR) (s := s) K G bs rfl (stays_trans kp k2) fe (lv.keep k2) rfl ok.hd errK.2.1.2.2 errX.2 rfl (by decide) rfl fun h' e t t1 R U => hQ h' t2 e t t1 R U
end Kparseraise
section
variable {w : World} {A : Around} {E : Value → Shared → Prop} {s : Shared} {n : Nat} {b base g : Heap} {outer : List Env} {L a : Addr} {name : Str} {scope : Scope} {cd : Value} {σ : List (Str × D)} {O : List Str} {F : Addr → Prop} {h₀ : Heap} {R : Result → Shared → Prop}
theorem parse_raise {x : List Nat} {cn : Str} {C : Addr} {far : List Nat} {q : Int} {v2 : Value} {t0 : Tok} {Q : Value → Shared → Prop} (X : Ref x cn C) (K : Below A base outer s.heap) (G : Gr w b) (bs : b.StaysIn s.heap) (hbig : Big s.heap) (ok : Ok 20 A)
  (hx : x.length < 500) (hv2 : VD s.heap v2 (.tuple [.str (S far), .int q]))
  (hQ : ∀ h' tk e t t1, RaisedS base s.heap outer e (.ref C) t [.str (S x) t1] [] h' → s.heap.UpToSlots h' → E (.ref e) { s with heap := h', toks := tk }) :
  wpAny (model PW w) A (call (.ref 226) [.str (S x) t0, v2]) Q E s :=
 by_eps (C := Kparseraise.C0) _ Kparseraise.main0 (w, A, E, s, b, base, outer, x, far, q, v2, t0, Q) cn C X K G bs hbig ok hx hv2 hQ
end
end Mine
-- MF35
namespace Mine
noncomputable def preOf (C : Addr) : List Nat := if C = 217 then (Str.ofString "proto ").cps.toList else (Str.ofString "reply ").cps.toList
section
variable {w : World} {A : Around} {E : Value → Shared → Prop} {s : Shared} {b base g : Heap} {L a : Addr} {name : Str} {scope : Scope} {cd : Value} {m : Str → Option Value} {news : List (Addr × Obj)} {e t C : Addr}
theorem say_fault {word : Str} {x : List Nat} {k1 : Nat} {p1 p2 p3 p4 p5 p6 : Pos} {t1 : Tok} {Q : Flow → Shared → Prop} (G : Gr w b) (hb : b.StaysIn g) (F : Fr g L s.heap m) (N : News g L s.heap news) (Gt : Got news e t (.ref C) [.str (S x) t1]) (hm : m (Str.ofString "fault") = some (.ref e))
  (hf : findIn (hd.heap_1 w.params) (.ref C) "__str__" = some (some (.builtin "BaseException.__str__"))) (hmr : mroIn (hd.heap_1 w.params) C (.type "BaseException") = some true) (hu : A.units + 2 < cLine)
  (hk : scope.kind = .function) (hx1 : (envOf name scope L a cd).kindOf (Str.ofString "fault") = some .local) (hx2 : (envOf name scope L a cd).kindOf (Str.ofString "str") = some .globalImplicit)
  (he : starEach [Expr.Name (Str.ofString "fault") p4] (envOf name scope L a cd) = (false, eval (Expr.Name (Str.ofString "fault") p4) (envOf name scope L a cd)) :: starEach [] (envOf name scope L a cd))
  (hz : word.length + x.length ≤ sizeLine) (hQ : ∀ t' tk, Q (.ret (.str (word ++ S x) t')) { s with toks := tk }) :
  wpAny (model PW w) A (exec (.Return (some (.BinOp (.Constant (.str word) k1 p1) .Add (.Call (.Name (Str.ofString "str") p2) [.Name (Str.ofString "fault") p4] [] p3) p5)) p6) (envOf name scope L a cd)) Q E s := by
 obtain ⟨mean, mg, mb, T⟩ := G.t
 have X1 : (hd.heap_1 w.params).In g := fun a o e => hb _ _ (G.k a o e)
 obtain ⟨oe, ot, ws, nt, h1, h2, h3, h4, h5, h6, h7⟩ := Gt
 have T1 : TopM mean mg mb g := Top.keeps T hb
 have X2 : (hd.heap_1 w.params).In s.heap := fun a o e => F.keep _ _ (X1 a o e)
 refine wpAny_Return_some (wpAny_BinOp (Constant_str (wpAny_Call_Name_kw (name_B F X1 (topRead_of T1) g_str b_str (by decide) ?_ hk hx2 (by decide)))))
 refine PySem.callWith_type (by rw [he]; rfl) ?_
 rw [he]
 refine evalArgs_plain (spliced_cons (wpAny_Name (wpAny_loadName_local hk hx1 F.ns hm (spliced_nil ?_)) (by decide)))
 refine flt_str (K := hd.heap_1 w.params) PySem.F.excStr_Exception hu X2 hf hmr ⟨oe, ws, (N _ h1).1, h3, h4, h5⟩ ⟨ot, nt, (N _ h2).1, h6, h7⟩ ?_
 exact add_str (fun t' tk => hQ t' tk) (by rw [S_len]; exact hz)
end
namespace Krefusalwp
noncomputable def Claim0 (w : World) (A : Around) (E : Value → Shared → Prop) (s : Shared) (base : Heap) (outer : List Env) (x : List Nat) (t0 : Tok) (Q : Value → Shared → Prop) : Prop :=
 ∀ (C : Addr) (cn : Str) (X : Ref x cn C) (K : Below A base outer s.heap) (G : Gr w base) (hbig : Big s.heap) (D0 : KtsDicts (outer.filterMap (·.frame)) s.heap) (ok : Ok 40 A) (hx : x.length < 500) (hQ : ∀ h' g' tk t', KtsTurn (outer.filterMap (·.frame)) s.heap g' → g'.StaysIn h' → Q (.str (S (preOf C ++ x)) t') { s with heap := h', toks := tk }), wpAny (model PW w) A (call (.ref 261) [.str (S x) t0]) Q E s
noncomputable abbrev Ty0 := (World) × (Around) × (Value → Shared → Prop) × (Shared) × (Heap) × (List Env) × (List Nat) × (Tok) × (Value → Shared → Prop)
noncomputable def C0 (p : Ty0) : Prop := Claim0 p.1 p.2.1 p.2.2.1 p.2.2.2.1 p.2.2.2.2.1 p.2.2.2.2.2.1 p.2.2.2.2.2.2.1 p.2.2.2.2.2.2.2.1 p.2.2.2.2.2.2.2.2
noncomputable def eps0 : Ty0 := @Classical.epsilon Ty0 ⟨(aWorld 1, ({} : Around), (fun _ _ => True), ({} : Shared), (default : Heap), (default : List Env), (default : List Nat), (default : Tok), (fun _ _ => True))⟩ (fun p => ¬ C0 p)
noncomputable def w := eps0.1
noncomputable def A := eps0.2.1
noncomputable def E := eps0.2.2.1
noncomputable def s := eps0.2.2.2.1
noncomputable def base := eps0.2.2.2.2.1
noncomputable def outer := eps0.2.2.2.2.2.1
noncomputable def x := eps0.2.2.2.2.2.2.1
noncomputable def t0 := eps0.2.2.2.2.2.2.2.1
noncomputable def Q := eps0.2.2.2.2.2.2.2.2
set_option maxHeartbeats 8000000 in
theorem main0 : Claim0 w A E s base outer x t0 Q := by
 intro C cn X K G hbig D0 ok hx hQ
 have hh := Eq.refl (PySem.Challenge.rw_xl0021_01, hd.heap_1)
 revert hh
 k_fill
 intro _
 have gp : nsIn (hd.heap_1 w.params) mainGlobals "parse229" = some (some (.ref 226)) := by k_is
 have kp226 : keepIn (hd.heap_1 w.params) (.ref 226) = true := by k_is
 refine' wpAny_call (enter (n := 39) (names := [Str.ofString "reply"]) (vs := [.str (S x) t0]) (ds := [.str (S x)]) _ G K.stays hbig ok ?k1 ?k2 ?k3 rfl (.cons (.str _ _) .nil) (by decide) ?k4 ?k5 ?k6 ?k7 ?k8 ?k9 ?k10 ?k11)
 case k1 => k_is
 case k2 => k_is
 case k3 => exact BindsTo.of_eq rfl
 case k4 => decide
 case k5 => intro x hx; simp at hx; rcases hx with rfl; exact .inl (.inl (.str _))
 case k6 => exact one_none (by intro d hd l q; subst q; simp at hd)
 case k7 => decide
 case k9 => rfl
 case k10 => rfl
 case k11 => rfl
 case k8 =>
  intro h₁ tk fe kp lv
  refine PySem.wpAt_of_wpAny ?_
  have z := sizeLine_eq
  have okd : ∀ env, Ok 39 (A.deeper env) := fun env => ok.deeper
  obtain ⟨m, hns⟩ := lv.ns
  obtain ⟨mean, mg, mb, T⟩ := G.t
  have stF : ∀ {env : Env} {σ : List (Str × D)} {O : List Str} {h2 : Heap}, LV s.heap (fun c => ∃ o, s.heap.get? c = some o) env σ O h2 → s.heap.StaysIn h2 := fun lv c o e => lv.st c o ⟨o, e⟩ e
  refine wpAny_execs_cons (wpAny_Try_except (wpAny_execs_cons (wpAny_Expr_any (wpAny_Call_Name_kw (ev_global fe G (stays_trans K.stays kp) gp rfl (by decide) _ _ { s with heap := h₁, toks := tk } _ (okd _) (stays_refl _) fun v h2 t2 k2 hv => ?_)) rfl rfl)))
  obtain rfl := VD.conE hv
  have X2 : (hd.heap_1 w.params).In h2 := fun a o e => k2 _ _ (kp _ _ (K.stays _ _ (G.k a o e)))
  refine callWith_K (K := hd.heap_1 w.params) (h₀ := h2) X2 kp226 ?_ rfl rfl
  refine av_cons (ev_name fe (lv.keep k2) rfl) (av_cons (ev_tuple (lv.keep k2).big (av_two ev_strS ev_int) (by simp; omega)) av_nil) rfl _ _ { s with heap := h2, toks := t2 } _ (okd _) (stays_refl _) fun vs h3 t3 k3 hvs => ?_
  refine ⟨fun a o e => k3 _ _ (X2 a o e), ?_⟩
  obtain ⟨_, _, rfl, c1, hvs⟩ := VDs.consE hvs
  obtain ⟨_, _, rfl, c2, hvs⟩ := VDs.consE hvs
  obtain rfl := VDs.nilE hvs
  obtain ⟨_, rfl⟩ := VD.strE c1
  have lv3 := (lv.keep k2).keep k3
  have F3 : Fr s.heap s.heap.objs.size h3 m := ⟨hns.keeps (stays_trans k2 k3), stays_trans kp (stays_trans k2 k3), Nat.le_refl _⟩
  have K3 := K.push (name := Str.ofString "_law_refusal") (a := 261) (cd := .ref 260) F3 fe.kind
  refine parse_raise (s := { s with heap := h3, toks := t3 }) X K3 G (stays_trans K.stays F3.keep) lv3.big ((okd _).le (by omega)) hx c2 fun h' tk' e t t1 R U => ?_
  refine kts_lookS (s' := { s with heap := h', toks := tk' }) R F3 K U D0 fun h4 R4 U4 => ?_
  have X0 : (hd.heap_1 w.params).In base := G.k
  have hu : (A.units + 3) + 2 < cLine := by have := ok.un; rw [PyProof.Rows.cLine_is]; omega
  rcases (show (C = 217 ∧ cn = Str.ofString "error_proto") ∨ (C = 205 ∧ cn = Str.ofString "error_reply") from by cases X <;> simp) with ⟨rfl, -⟩ | ⟨rfl, -⟩
  ·refine hit_SB (s' := { s with heap := h4, toks := tk' }) R4 F3 K U4 X0 T D0 KtsTurn.refl (test_name (.inl errK.1.2.2) errK.2.2.1 rfl rfl (by decide)) fun h5 g5 n5 t5 T5 F5 N5 Gt _ K5 X5 _ _ => ?_
   refine wpAny_execs_cons (say_fault (s := { s with heap := h5, toks := t5 }) G K5.stays F5 N5 Gt (by simp) errK.1.1 errK.1.2.1 hu rfl rfl rfl rfl ?_ fun t' tk => ?_)
   ·show 6 + _ ≤ _
    omega
   refine name_goes_keeps (s := { s with heap := h5, toks := tk }) F5 N5 fun h6 m6 F6 N6 => ?_
   have e1 : Str.ofString "proto " ++ S x = S (preOf 217 ++ x) := by rw [← S_app]; congr 1
   exact e1 ▸ hQ h6 g5 _ t' T5 F6.keep
  ·refine pass_S (s' := { s with heap := h4, toks := tk' }) R4 F3 K U4 X0 T D0 (test_name (.inl errK.1.2.2) errK.2.2.2.1 rfl rfl (by decide)) fun h5 R5 U5 => ?_
   refine hit_SB (s' := { s with heap := h5, toks := tk' }) R5 F3 K U5 X0 T D0 KtsTurn.refl (test_name (.inl errK.2.1.2.2) errK.2.2.2.2 rfl rfl (by decide)) fun h5 g5 n5 t5 T5 F5 N5 Gt _ K5 X5 _ _ => ?_
   refine wpAny_execs_cons (say_fault (s := { s with heap := h5, toks := t5 }) G K5.stays F5 N5 Gt (by simp) errK.2.1.1 errK.2.1.2.1 hu rfl rfl rfl rfl ?_ fun t' tk => ?_)
   ·show 6 + _ ≤ _
    omega
   refine name_goes_keeps (s := { s with heap := h5, toks := tk }) F5 N5 fun h6 m6 F6 N6 => ?_
   have e1 : Str.ofString "reply " ++ S x = S (preOf 205 ++ x) := by rw [← S_app]; congr 1
   exact e1 ▸ hQ h6 g5 _ t' T5 F6.keep
end Krefusalwp
theorem refusal_wp {w : World} {A : Around} {E : Value → Shared → Prop} {s : Shared} {base : Heap} {outer : List Env} {C : Addr} {cn : Str} {x : List Nat} {t0 : Tok} {Q : Value → Shared → Prop} (X : Ref x cn C) (K : Below A base outer s.heap) (G : Gr w base) (hbig : Big s.heap) (D0 : KtsDicts (outer.filterMap (·.frame)) s.heap) (ok : Ok 40 A) (hx : x.length < 500)
  (hQ : ∀ h' g' tk t', KtsTurn (outer.filterMap (·.frame)) s.heap g' → g'.StaysIn h' → Q (.str (S (preOf C ++ x)) t') { s with heap := h', toks := tk }) :
  wpAny (model PW w) A (call (.ref 261) [.str (S x) t0]) Q E s :=
 by_eps (C := Krefusalwp.C0) _ Krefusalwp.main0 (w, A, E, s, base, outer, x, t0, Q) C cn X K G hbig D0 ok hx hQ
end Mine
-- MF36
namespace Mine
noncomputable def EIc (Cl : Value → Prop) (w : World) (n : Nat) (env : Env) (h : Heap) (e : Expr) (ds : List D) (fr : Bool) : Prop :=
 ∀ (A : Around) (E : Value → Shared → Prop) (s : Shared) (Q : Value → Shared → Prop), Ok n A → h.StaysIn s.heap →
  (∀ (I : Addr) (h' : Heap) (tk : Nat) (fp : List Addr) (P : Nat → Value → Prop) (St : Nat → Heap → Prop), (∀ A' : Around, A'.handled = none → Walks PW w A' I fp [I] ds.length P St) → St 0 h' → (∀ c ∈ fp, c < h'.objs.size) → s.heap.get? I = none → NT I → s.heap.StaysIn h' →
   (∀ i v, i < ds.length → P i v → ∃ d, ds[i]? = some d ∧ VD h' v d) → (∀ c, c ∈ fp → c ≠ I → (fr = true → s.heap.get? c = none) ∧ NT c ∧ ∃ o its k, h'.get? c = some o ∧ o.data = .seq its k) → (∀ i h, St i h → ∃ o fs, h.get? I = some o ∧ o.data = .fields fs ∧ o.cls ≠ .type "range" ∧ Cl o.cls) → Q (.ref I) { s with heap := h', toks := tk }) →
  wpAny (model PW w) A (eval e env) (fun x s₁ => wpAny (model PW w) A (pyIter x) Q E s₁) E s
theorem eic_of_ei {w : World} {n : Nat} {env : Env} {h : Heap} {e : Expr} {ds : List D} {fr : Bool} (x : EI w n env h e ds fr true) : EIc (fun _ => True) w n env h e ds fr := fun A E s Q ok st hQ =>
 x A E s Q ok st fun I h' tk fp P St a b c d e f g i k => hQ I h' tk fp P St a b c d e f g i fun j h hs => let ⟨o, fs, q1, q2, q3⟩ := k rfl j h hs; ⟨o, fs, q1, q2, q3, trivial⟩
theorem eic_tuple {w : World} {n : Nat} {env : Env} {h : Heap} {e : Expr} {ds : List D} (hb : Big h) (he : EV w n env h e (.tuple ds)) : EIc (fun c => c = .type "tuple_iterator") w n env h e ds false := fun A E s Q ok st hQ => by
 refine he A E s _ ok st fun v h1 t1 k1 v1 => ?_
 obtain ⟨a, _, vs, rfl, hl, e, sl⟩ := VD.tupleE v1
 have hne : a ≠ h1.objs.size := Nat.ne_of_lt (Heap.lt_size e)
 refine wpAny_pyIter_tuple ⟨_, e, rfl, _, rfl⟩ ?_
 refine hQ h1.objs.size _ t1 [h1.objs.size, a] (fun i v => vs.toArray[i]? = some v) (fun i h => h.IsTupleIter h1.objs.size a i ∧ h.IsTuple a vs.toArray) (fun A' hh => ?_) ⟨⟨_, get_push _ _, rfl, rfl⟩, ⟨_, stays_push _ _ _ _ e, rfl, _, rfl⟩⟩ ?_ (not_old k1 (fresh_size _)) (hb.up (stays_trans st k1)).size (stays_trans k1 (stays_push _ _)) ?_ ?_ ?_
 ·have := Walks.tuple (prog := PW) (w := w) hh h1.objs.size a hne vs.toArray
  have e3 : vs.toArray.size = ds.length := by rw [List.size_toArray, sl.length]
  rw [e3] at this
  exact this
 ·intro c hc
  rw [Heap.size_push]
  rcases List.mem_cons.mp hc with rfl | hc
  ·exact Nat.lt_succ_self _
  ·rcases List.mem_cons.mp hc with rfl | hc
   ·exact Nat.lt_succ_of_lt (Heap.lt_size e)
   ·cases hc
 ·intro i v hi hv
  rw [List.getElem?_toArray] at hv
  obtain ⟨y, e1, e2⟩ := sl.get (i := i) (d := ds[i]) (List.getElem?_eq_getElem hi)
  rw [hv] at e1; cases e1
  exact ⟨_, List.getElem?_eq_getElem hi, e2.keep (stays_push _ _)⟩
 ·intro c hc hci
  rcases List.mem_cons.mp hc with rfl | hc
  ·exact absurd rfl hci
  ·rcases List.mem_cons.mp hc with rfl | hc
   ·exact ⟨fun q => (nomatch q), hl, _, _, _, stays_push _ _ _ _ e, rfl⟩
   ·cases hc
 ·intro i h hS
  obtain ⟨⟨o, g, c, d⟩, _⟩ := hS
  exact ⟨o, _, g, d, by rw [c]; decide, c⟩
section
variable {X : XRel} {w : World} {n : Nat} {env : Env} {h₀ h h' : Heap} {F : Addr → Prop} {σ : List (Str × D)} {O : List Str}
end
namespace KsxforG
noncomputable def Claim0 (X : XRel) (w : World) (n : Nat) (env : Env) (h₀ : Heap) (F : Addr → Prop) (σ : List (Str × D)) (O : List Str) (tgt : Expr) (bnd : D → List (Str × D)) (pos : Pos) (iter : Expr) (body : List Stmt) (ds : List D) (fr : Bool) (inv : Nat → List (Str × D)) (Cl : Value → Prop) : Prop :=
 ∀ (k : Nat) (rt : Option (D × Bool)) (fe : Fe env) (asg : ∀ h₁ F' (i : Nat) d (A : Around) (E : Value → Shared → Prop) (s : Shared) (Q : Unit → Shared → Prop) v, Ok n A → ds[i]? = some d → LV h₁ F' env (inv i) O s.heap → VD s.heap v d → (∀ s', X.r s s' → LV h₁ F' env (bnd d ++ inv i) O s'.heap → Q () s') → wpAny (model PW w) A (assign tgt env v) Q E s) (hi : ∀ h, LV h₀ F env σ O h → EIc Cl w n env h iter ds fr) (hgo : ∀ (A : Around) (E : Value → Shared → Prop) (s : Shared) (Q : Unit → Shared → Prop) (I : Addr) (v : Value) o fs, s.heap.get? I = some o → o.data = .fields fs → Cl o.cls → Q () s → wpAny (model PW w) A (letOwnedTupleGo tgt (.ref I) v) Q E s) (hfr : fr = true ∨ O = []) (hlow : ∀ (i : Nat) d, ds[i]? = some d → Low d) (h0 : Sub (inv 0) σ) (hO0 : ∀ y l, y ∈ O → (inv 0).lookup y = some (.list l) → y ∈ O) (hlen : (rt = none ∧ k = ds.length) ∨ (rt ≠ none ∧ k < ds.length)) (turn : ∀ h₁ F', (∀ c, F c → F' c) → (∀ c, F' c → F c ∨ NT c) → (∀ c o, F c → h₀.get? c = some o → h₁.get? c = some o) → ∀ (i : Nat) d, i < k → ds[i]? = some d → SX X w n env h₁ F' (execs body env) (bnd d ++ inv i) O (.next (inv (i + 1)) O)) (last : ∀ h₁ F', (∀ c, F c → F' c) → (∀ c, F' c → F c ∨ NT c) → (∀ c o, F c → h₀.get? c = some o → h₁.get? c = some o) → ∀ d r, rt = some r → ds[k]? = some d → SX X w n env h₁ F' (execs body env) (bnd d ++ inv k) O (.ret r.1 r.2)) (hs : ∀ x, foldedSetIterable iter env x = pure x), SX X w n env h₀ F (exec (.For tgt iter body [] pos) env) σ O (Fin inv O rt k)
noncomputable abbrev Ty0 := (XRel) × (World) × (Nat) × (Env) × (Heap) × (Addr → Prop) × (List (Str × D)) × (List Str) × (Expr) × (D → List (Str × D)) × (Pos) × (Expr) × (List Stmt) × (List D) × (Bool) × (Nat → List (Str × D)) × (Value → Prop)
noncomputable def C0 (p : Ty0) : Prop := Claim0 p.1 p.2.1 p.2.2.1 p.2.2.2.1 p.2.2.2.2.1 p.2.2.2.2.2.1 p.2.2.2.2.2.2.1 p.2.2.2.2.2.2.2.1 p.2.2.2.2.2.2.2.2.1 p.2.2.2.2.2.2.2.2.2.1 p.2.2.2.2.2.2.2.2.2.2.1 p.2.2.2.2.2.2.2.2.2.2.2.1 p.2.2.2.2.2.2.2.2.2.2.2.2.1 p.2.2.2.2.2.2.2.2.2.2.2.2.2.1 p.2.2.2.2.2.2.2.2.2.2.2.2.2.2.1 p.2.2.2.2.2.2.2.2.2.2.2.2.2.2.2.1 p.2.2.2.2.2.2.2.2.2.2.2.2.2.2.2.2
noncomputable def eps0 : Ty0 := @Classical.epsilon Ty0 ⟨(XF, aWorld 1, (default : Nat), (default : Env), (default : Heap), (fun _ => True), (default : List (Str × D)), (default : List Str), (default : Expr), (default : D → List (Str × D)), (default : Pos), (default : Expr), (default : List Stmt), (default : List D), (default : Bool), (default : Nat → List (Str × D)), (fun _ => True))⟩ (fun p => ¬ C0 p)
noncomputable def X := eps0.1
noncomputable def w := eps0.2.1
noncomputable def n := eps0.2.2.1
noncomputable def env := eps0.2.2.2.1
noncomputable def h₀ := eps0.2.2.2.2.1
noncomputable def F := eps0.2.2.2.2.2.1
noncomputable def σ := eps0.2.2.2.2.2.2.1
noncomputable def O := eps0.2.2.2.2.2.2.2.1
noncomputable def tgt := eps0.2.2.2.2.2.2.2.2.1
noncomputable def bnd := eps0.2.2.2.2.2.2.2.2.2.1
noncomputable def pos := eps0.2.2.2.2.2.2.2.2.2.2.1
noncomputable def iter := eps0.2.2.2.2.2.2.2.2.2.2.2.1
noncomputable def body := eps0.2.2.2.2.2.2.2.2.2.2.2.2.1
noncomputable def ds := eps0.2.2.2.2.2.2.2.2.2.2.2.2.2.1
noncomputable def fr := eps0.2.2.2.2.2.2.2.2.2.2.2.2.2.2.1
noncomputable def inv := eps0.2.2.2.2.2.2.2.2.2.2.2.2.2.2.2.1
noncomputable def Cl := eps0.2.2.2.2.2.2.2.2.2.2.2.2.2.2.2.2
set_option maxHeartbeats 1000000 in
theorem main0 : Claim0 X w n env h₀ F σ O tgt bnd pos iter body ds fr inv Cl := fun k rt fe asg hi hgo hfr hlow h0 hO0 hlen turn last hs => fun A E s Q ok lv p => by
 refine wpAny_For (hi _ lv A E s _ ok.1 (stays_refl _) fun I h1 tk fp P St W hS hfp hI hI2 kp hP hfp2 kn => ?_) hs
 have lv1 := lv.keep kp
 let F' : Addr → Prop := fun c => (∃ o, h1.get? c = some o) ∧ c ≠ env.locals ∧ (∀ y, env.kindOf y = some .cell → env.cells.lookup y ≠ some c) ∧ (∀ y l, y ∈ O → σ.lookup y = some (.list l) → ¬ At h1 env y (.ref c)) ∧ (F c ∨ NT c)
 obtain ⟨oI, fI, eI, dI, cI, _⟩ := kn 0 _ hS
 have FF' : ∀ c, F c → F' c := fun c f => ⟨lv1.dom f, fun q => lv.fr (q ▸ f), fun y q l => (lv.cl y c q l).1 f, fun y l hy hl ay => lv1.ow y c l hy hl ay f, .inl f⟩
 have FI : ∀ c, F c → c ≠ I := fun c f q => by
  obtain ⟨o, e⟩ := lv.dom f
  rw [q, hI] at e; cases e
 have F'I : F' I := by
  refine ⟨⟨_, eI⟩, fun q => ?_, fun y kk l => ?_, fun y l hy hl ay => ?_, .inr hI2⟩
  ·obtain ⟨m, o, es, ep, e, d, _⟩ := lv.ns
   rw [← q, hI] at e; cases e
  ·obtain ⟨_, v, o, e, _⟩ := lv.cl y I kk l
   rw [hI] at e; cases e
  ·obtain ⟨vs, k, e⟩ := lv.own_at hl (lv.back kp ay)
   rw [hI] at e; cases e
 have Ffp : ∀ c ∈ fp, F' c := fun c hc => by
  by_cases q : c = I
  ·exact q ▸ F'I
  ·obtain ⟨f1, nt, o, its, k, e, d⟩ := hfp2 c hc q
   refine ⟨⟨o, e⟩, fun q => ?_, fun y kk l => ?_, fun y l hy hl ay => ?_, .inr nt⟩
   ·obtain ⟨m, o', es, ep, e', d', _⟩ := lv1.ns
    rw [← q, e] at e'; cases e'; rw [d] at d'; cases d'
   ·obtain ⟨_, v, o', e', d'⟩ := lv1.cl y c kk l
    rw [e] at e'; cases e'; rw [d] at d'; cases d'
   ·rcases hfr with hfr | hfr
    ·obtain ⟨vs, k, e'⟩ := lv.own_at hl (lv.back kp ay)
     rw [f1 hfr] at e'; cases e'
    ·rw [hfr] at hy; cases hy
 have F'soft : ∀ c o, NT c → h1.get? c = some o → ((∃ vs n, o = ⟨.type "tuple", .none, .seq vs n, #[]⟩) ∨ (o.cls = .type "range" ∧ ∃ fs, o.data = .fields fs)) → F' c ∧ c ≠ I := fun c o nt e d => by
  refine ⟨⟨⟨o, e⟩, fun q => ?_, fun y kk l => ?_, fun y l hy hl ay => ?_, .inr nt⟩, fun q => ?_⟩
  ·obtain ⟨m, o', es, ep, e', d', _⟩ := lv1.ns
   rw [← q, e] at e'; cases e'
   rcases d with ⟨_, _, rfl⟩ | ⟨_, _, d⟩
   ·cases d'
   ·rw [d] at d'; cases d'
  ·obtain ⟨_, v, o', e', d'⟩ := lv1.cl y c kk l
   rw [e] at e'; cases e'
   rcases d with ⟨_, _, rfl⟩ | ⟨_, _, d⟩
   ·cases d'
   ·rw [d] at d'; cases d'
  ·obtain ⟨vs, k, e'⟩ := lv1.own_at hl ay
   rw [e] at e'; cases e'
   rcases d with ⟨_, _, d⟩ | ⟨d, _⟩
   ·simp at d
   ·simp at d
  ·rw [q, eI] at e; cases e
   rcases d with ⟨_, _, rfl⟩ | ⟨d, _⟩
   ·cases dI
   ·exact cI d
 have nI : I ≠ 140 ∧ I ≠ 144 ∧ I ≠ 147 ∧ I ≠ 151 := by
  obtain ⟨⟨ps, e⟩, ⟨qs, f⟩⟩ := lv.big
  obtain ⟨⟨o1, v1, a1, _⟩, ⟨o2, v2, a2, _⟩⟩ := IsCode_at e
  obtain ⟨⟨o3, v3, a3, _⟩, ⟨o4, v4, a4, _⟩⟩ := IsCode_at f
  refine ⟨fun q => ?_, fun q => ?_, fun q => ?_, fun q => ?_⟩ <;> subst q
  ·rw [hI] at a2; cases a2
  ·rw [hI] at a1; cases a1
  ·rw [hI] at a4; cases a4
  ·rw [hI] at a3; cases a3
 let J : Nat → Shared → Prop := fun i s' => i ≤ k ∧ X.r s s' ∧ LV s'.heap F' env (inv i) O s'.heap ∧ (∀ c o, F' c → c ≠ I → h1.get? c = some o → s'.heap.get? c = some o) ∧ St i s'.heap
 have start : J 0 { s with heap := h1, toks := tk } := by
  refine ⟨Nat.zero_le _, X.st _ _ _, ?_, fun _ _ _ _ e => e, hS⟩
  refine LV.weaken (σ := σ) (O := O) ?_ h0 hO0
  exact lv1.rebase (fun _ _ _ e => e) (fun c f => f.1) (fun f => f.2.1 rfl) (fun y c q l f => f.2.2.1 y q l) (fun y a l hy hl ay f => f.2.2.2.1 y l hy hl ay)
 have step : ∀ (i : Nat) (s' : Shared) (h' : Heap), J i s' → (∀ b o, b ∉ [I] → s'.heap.get? b = some o → h'.get? b = some o) → (∃ o, h'.get? I = some o ∧ ∃ fs, o.data = .fields fs) → LV h' F' env (inv i) O h' ∧ (∀ c o, F' c → c ≠ I → h1.get? c = some o → h'.get? c = some o) := by
  intro i s' h' hJ hk' hI'
  obtain ⟨_, _, lvi, keep, hSi⟩ := hJ
  have kk : ∀ c o, c ≠ I → s'.heap.get? c = some o → h'.get? c = some o := fun c o ne e => hk' c o (fun q => ne (List.mem_singleton.mp q)) e
  have l2 : LV s'.heap (fun c => F' c ∧ c ≠ I) env (inv i) O s'.heap := lvi.rebase (fun _ _ _ e => e) (fun c f => lvi.dom f.1) (fun f => lvi.fr f.1) (fun y c q l f => (lvi.cl y c q l).1 f.1) (fun y a l hy hl ay f => lvi.ow y a l hy hl ay f.1)
  have l3 := l2.adv kk (let ⟨o, fs, q1, q2, q3, _⟩ := kn i _ hSi; ⟨o, fs, q1, q2, q3⟩) (fun f => f.2 rfl) nI
  obtain ⟨oj, ej, fj, dj⟩ := hI'
  refine ⟨l3.rebase (fun _ _ _ e => e) (fun c f => ?_) (fun f => lvi.fr f) (fun y c q l f => (lvi.cl y c q l).1 f) (fun y a l hy hl ay f => ?_), fun c o f ne e => kk c o ne (keep c o f ne e)⟩
  ·by_cases q : c = I
   ·exact ⟨oj, q ▸ ej⟩
   ·obtain ⟨o, e⟩ := lvi.dom f
    exact ⟨o, kk c o q e⟩
  ·by_cases q : a = I
   ·obtain ⟨vs, k, e'⟩ := l3.own_at hl ay
    rw [q, ej] at e'; cases e'; cases dj
   ·exact l3.ow y a l hy hl ay ⟨f, q⟩
 have toF : ∀ h' : Heap, (∀ c o, F' c → c ≠ I → h1.get? c = some o → h'.get? c = some o) → ∀ c o, F c → h₀.get? c = some o → h'.get? c = some o := fun h' kh c o f e => kh c o (FF' c f) (FI c f) (lv1.st c o f e)
 have fin : ∀ (i : Nat) (h' : Heap), LV h' F' env (inv i) O h' → (∀ c o, F' c → c ≠ I → h1.get? c = some o → h'.get? c = some o) → LV h₀ F env (inv i) O h' := fun i h' l kh =>
  l.rebase (toF h' kh) lv.fd lv.fr (fun y c kk q => (lv.cl y c kk q).1) (fun y a m hy hl ay f => l.ow y a m hy hl ay (FF' a f))
 refine codeAny_forLoop_any (fun m s' => ∃ i, m = ds.length - i ∧ J i s') (fun m s' hJ => ?_) ds.length ⟨0, rfl, start⟩
 obtain ⟨i, rfl, hJ⟩ := hJ
 have hJ' := hJ
 obtain ⟨hik, hXr, lvi, keep, hSi⟩ := hJ
 have hkl : k ≤ ds.length := by rcases hlen with ⟨_, q⟩ | ⟨_, q⟩ <;> omega
 by_cases hid : i < ds.length
 ·refine (W A ok.1.hd).item i s' _ _ hid hSi fun v h' tk' hPv hS' hk' => ?_
  obtain ⟨o', f', e', d', c', cl'⟩ := kn _ _ hS'
  obtain ⟨l2, kh⟩ := step i s' h' hJ' hk' ⟨o', e', f', d'⟩
  obtain ⟨d, hd, hvd⟩ := hP i v hid hPv
  have hvd' : VD h' v d := vd_soft (fun c o nt e q => kh c o (F'soft c o nt e q).1 (F'soft c o nt e q).2 e) hvd (hlow i d hd)
  refine hgo A _ { s' with heap := h', toks := tk' } _ I v o' f' e' d' cl' ?_
  have toF' := toF h' kh
  have FN : ∀ c, F' c → F c ∨ NT c := fun c f => f.2.2.2.2
  refine asg h' F' i d A _ { s' with heap := h', toks := tk' } _ v ok.1 hd l2 hvd' fun s2 x2 l3 => ?_
  have stepJ : ∀ s3 : Shared, X.r s2 s3 → LV h' F' env (inv (i + 1)) O s3.heap → i < k → ∃ m, m < ds.length - i ∧ ∃ j, m = ds.length - j ∧ J j s3 := fun s3 x3 l4 hik => by
   refine ⟨ds.length - (i + 1), by omega, i + 1, rfl, by omega, X.tr (X.tr (X.tr hXr (X.st _ _ _)) x2) x3, l4.now, fun c o f ne e => l4.st c o f (kh c o f ne e), ?_⟩
   exact (W A ok.1.hd).frame _ _ _ hS' fun b hb o e => l4.st b o (Ffp b hb) e
  by_cases hik' : i < k
  ·refine turn h' F' FF' FN toF' i d hik' hd A _ _ _ ok l3 ?_
   exact fun s3 x3 l4 => stepJ s3 x3 l4 hik'
  ·have hik2 : i = k := by omega
   subst hik2
   rcases hlen with ⟨_, q⟩ | ⟨q, _⟩
   ·omega
   ·obtain ⟨r, hr⟩ := Option.ne_none_iff_exists'.mp q
    refine last h' F' FF' FN toF' d r hr hd A _ _ _ ok l3 ?_
    intro v3 s3 x3 st3 bg3 hv3 hf3
    subst hr
    exact p v3 s3 (X.tr (X.tr (X.tr hXr (X.st _ _ _)) x2) x3) (fun c o f e => st3 c o (FF' c f) (toF' c o f e)) bg3 hv3 fun q a e f => hf3 q a e (FF' a f)
 ·have hi2 : i = ds.length := by omega
  have hik2 : i = k := by omega
  rcases hlen with ⟨rfl, q⟩ | ⟨_, q⟩
  ·subst hi2
   refine (W A ok.1.hd).done s' _ _ hSi fun h' tk' hk' => wpAny_execs_nil ?_
   subst hik2
   have kk : ∀ c o, c ≠ I → s'.heap.get? c = some o → h'.get? c = some o := fun c o ne e => hk' c o (fun q => ne (List.mem_singleton.mp q)) e
   have l2 : LV s'.heap (fun c => F' c ∧ c ≠ I) env (inv ds.length) O s'.heap := lvi.rebase (fun _ _ _ e => e) (fun c f => lvi.dom f.1) (fun f => lvi.fr f.1) (fun y c q l f => (lvi.cl y c q l).1 f.1) (fun y a l hy hl ay f => lvi.ow y a l hy hl ay f.1)
   have l3 := l2.adv kk (let ⟨o, fs, q1, q2, q3, _⟩ := kn _ _ hSi; ⟨o, fs, q1, q2, q3⟩) (fun f => f.2 rfl) nI
   refine p _ (X.tr hXr (X.st _ _ _)) ?_
   exact l3.rebase (fun c o f e => kk c o (FI c f) (keep c o (FF' c f) (FI c f) (lv1.st c o f e))) lv.fd lv.fr (fun y c kk q => (lv.cl y c kk q).1) (fun y a m hy hl ay f => l3.ow y a m hy hl ay ⟨FF' a f, FI a f⟩)
  ·omega
end KsxforG
section
variable {X : XRel} {w : World} {n : Nat} {env : Env} {h₀ h h' : Heap} {F : Addr → Prop} {σ : List (Str × D)} {O : List Str}
theorem sx_forG {tgt : Expr} {bnd : D → List (Str × D)} {pos : Pos} {iter : Expr} {body : List Stmt} {ds : List D} {fr : Bool} (inv : Nat → List (Str × D)) (k : Nat) (rt : Option (D × Bool)) (fe : Fe env)
  (asg : ∀ h₁ F' (i : Nat) d (A : Around) (E : Value → Shared → Prop) (s : Shared) (Q : Unit → Shared → Prop) v, Ok n A → ds[i]? = some d → LV h₁ F' env (inv i) O s.heap → VD s.heap v d → (∀ s', X.r s s' → LV h₁ F' env (bnd d ++ inv i) O s'.heap → Q () s') → wpAny (model PW w) A (assign tgt env v) Q E s)
  {Cl : Value → Prop} (hi : ∀ h, LV h₀ F env σ O h → EIc Cl w n env h iter ds fr)
  (hgo : ∀ (A : Around) (E : Value → Shared → Prop) (s : Shared) (Q : Unit → Shared → Prop) (I : Addr) (v : Value) o fs, s.heap.get? I = some o → o.data = .fields fs → Cl o.cls → Q () s → wpAny (model PW w) A (letOwnedTupleGo tgt (.ref I) v) Q E s) (hfr : fr = true ∨ O = []) (hlow : ∀ (i : Nat) d, ds[i]? = some d → Low d) (h0 : Sub (inv 0) σ) (hO0 : ∀ y l, y ∈ O → (inv 0).lookup y = some (.list l) → y ∈ O := by intro _ _ h _; exact h)
  (hlen : (rt = none ∧ k = ds.length) ∨ (rt ≠ none ∧ k < ds.length))
  (turn : ∀ h₁ F', (∀ c, F c → F' c) → (∀ c, F' c → F c ∨ NT c) → (∀ c o, F c → h₀.get? c = some o → h₁.get? c = some o) → ∀ (i : Nat) d, i < k → ds[i]? = some d → SX X w n env h₁ F' (execs body env) (bnd d ++ inv i) O (.next (inv (i + 1)) O))
  (last : ∀ h₁ F', (∀ c, F c → F' c) → (∀ c, F' c → F c ∨ NT c) → (∀ c o, F c → h₀.get? c = some o → h₁.get? c = some o) → ∀ d r, rt = some r → ds[k]? = some d → SX X w n env h₁ F' (execs body env) (bnd d ++ inv k) O (.ret r.1 r.2) := by (intro _ _ _ _ _ _ _ q; cases q))
  (hs : ∀ x, foldedSetIterable iter env x = pure x := by intro _; rfl) :
  SX X w n env h₀ F (exec (.For tgt iter body [] pos) env) σ O (Fin inv O rt k) :=
 by_eps (C := KsxforG.C0) _ KsxforG.main0 (X, w, n, env, h₀, F, σ, O, tgt, bnd, pos, iter, body, ds, fr, inv, Cl) k rt fe asg hi hgo hfr hlow h0 hO0 hlen turn last hs
structure Mv (env : Env) (h h' : Heap) : Prop where
 k : ∀ c o, NT c → c ≠ env.locals → h.get? c = some o → h'.get? c = some o
 l : ∀ m, h.Ns env.locals m → h'.Ns env.locals m
 big : Big h'
theorem Mv.at (x : Mv env h h') (hb : Big h) (ns : ∃ m, h.Ns env.locals m) {y : Str} {v : Value} (a : At h env y v) : At h' env y v := by
 rcases a with ⟨q, m, e, em⟩ | ⟨q, c, l, o, g, d⟩
 ·exact .inl ⟨q, m, x.l m e, em⟩
 ·refine .inr ⟨q, c, l, o, x.k c o (hb.ntOf g fun fs z => by rw [d] at z; cases z) (fun z => ?_) g, d⟩
  obtain ⟨m, o', es, ep, e', d', _⟩ := ns
  rw [← z, g] at e'; cases e'; rw [d] at d'; cases d'
theorem LV.move (lv : LV h₀ F env σ O h) (x : Mv env h h') (hF : ∀ c, F c → NT c) : LV h₀ F env σ O h' := by
 have on : ∀ {y v}, At h env y v → At h' env y v := fun a => x.at lv.big lv.ns a
 have sq : SeqLe h h' := fun a o nt e d => x.k a o nt (fun z => by
  obtain ⟨m, o', es, ep, e', d', _⟩ := lv.ns
  rw [← z, e] at e'; cases e'
  rcases d with ⟨_, _, d⟩ | ⟨_, d⟩ <;> (rw [d] at d'; cases d')) e
 have bk : ∀ {y d v}, σ.lookup y = some d → At h' env y v → At h env y v := fun {y d v} hl a => by
  obtain ⟨u, au, _⟩ := lv.rd y d hl
  exact (on au).uniq a ▸ au
 refine ⟨fun c o f e => x.k c o (hF c f) (fun q => lv.fr (q ▸ f)) (lv.st c o f e), lv.fd, x.big, ?_, lv.fr, ?_, lv.inj, ?_, lv.fl, ?_, ?_⟩
 ·obtain ⟨m, e⟩ := lv.ns; exact ⟨m, x.l m e⟩
 ·intro y c q l
  obtain ⟨f, v, o, g, d⟩ := lv.cl y c q l
  refine ⟨f, v, o, x.k c o (lv.big.ntOf g fun fs z => by rw [d] at z; cases z) (fun z => ?_) g, d⟩
  obtain ⟨m, o', es, ep, e', d', _⟩ := lv.ns
  rw [← z, g] at e'; cases e'; rw [d] at d'; cases d'
 ·intro y d hl
  obtain ⟨v, a, vd⟩ := lv.rd y d hl
  exact ⟨v, on a, vd.mono sq⟩
 ·intro y z a l m ne hy hz ay az
  exact lv.af y z a l m ne hy hz (bk hy ay) (bk hz az)
 ·intro y a l hy hl ay
  exact lv.ow y a l hy hl (bk hl ay)
noncomputable def EX (X : XRel) (w : World) (n : Nat) (env : Env) (h₀ : Heap) (F : Addr → Prop) (σ : List (Str × D)) (O : List Str) (e : Expr) (d : D) : Prop :=
 ∀ (A : Around) (E : Value → Shared → Prop) (s : Shared) (Q : Value → Shared → Prop), (Ok n A ∧ X.a A) → LV h₀ F env σ O s.heap →
  (∀ v s', X.r s s' → LV h₀ F env σ O s'.heap → VD s'.heap v d → (∀ y u, At s.heap env y u → At s'.heap env y u) → (∀ a, v = .ref a → s.heap.get? a = none) → Q v s') → wpAny (model PW w) A (eval e env) Q E s
theorem sx_assignX {x : Str} {p' pos : Pos} {value : Expr} {l : List D} (fe : Fe env) (hk : Stored env x) (he : EX X w n env h₀ F σ O value (.list l)) (hf : Lows l)
  (hs : swapsWith value (some (.Name x p')) pos.line env = pure false := by rfl) : SX X w n env h₀ F (exec (.Assign [.Name x p'] value pos) env) σ O (.next ((x, .list l) :: σ) (x :: less O x)) := fun A E s Q ok lv p =>
 wpAny_Assign_Name (he A E s _ ok lv fun v s1 x1 lv1 hv kat fr => by
  have no : ∀ a, v = .ref a → ∀ z m, σ.lookup z = some (.list m) → At s1.heap env z (.ref a) → False := fun a q z m hz az => by
   obtain ⟨u, au, vd⟩ := lv.rd z _ hz
   have e := (kat _ _ au).uniq az
   subst e
   have e0 := fr a q
   obtain ⟨_, _, _, g, _⟩ := VD.listR vd; rw [e0] at g; cases g
  have nF : ∀ a, v = .ref a → ¬ F a := fun a q f => by
   obtain ⟨o, g⟩ := lv.dom f
   rw [fr a q] at g; cases g
  exact store_name fe lv1 hk hv (.inl (.inr ⟨l, rfl, hf⟩)) (fun a l' q e z m hz hl az => no a q z m hl az) (fun z hz => by
   rcases List.mem_cons.mp hz with rfl | hz
   ·exact .inr ⟨rfl, fun a l q _ f => nF a q f⟩
   ·refine .inl ⟨(List.mem_filter.mp hz).1, ?_⟩
    have := (List.mem_filter.mp hz).2
    simpa using this)
   fun h2 tk2 _ lv2 => p _ (X.tr x1 (X.st _ _ _)) lv2) hs
theorem sx_if_neX {e1 e2 : Expr} {p pos : Pos} {d1 d2 : D} {body orelse : List Stmt} {o : Out} (he : EX X w n env h₀ F σ O e1 d1) (h2 : ∀ h, LV h₀ F env σ O h → EV w n env h e2 d2) (hc : ∀ h, Cmp w n h .NotEq d1 d2 false)
  (ho : SX X w n env h₀ F (execs orelse env) σ O o) (hm : behindInMarks .NotEq e2 = false := by with_unfolding_all rfl) : SX X w n env h₀ F (exec (.If (.Compare e1 [.NotEq] [e2] p) body orelse pos) env) σ O o := fun A E s Q ok lv pq =>
 wpAny_If (wpAny_isTrue_Compare1 (he A E s _ ok lv fun v s1 x1 lv1 hv kat fr => h2 _ lv1 A E s1 _ ok.1 (stays_refl _) fun u h2' t2 k2 hu => hc h2' A E { s1 with heap := h2', toks := t2 } _ v u ok.1 (stays_refl _) (hv.keep k2) hu fun h3 t3 k3 =>
  wpAny_truthy_bool (ho A E _ Q ok ((lv1.keep k2).keep k3) (pq.tr (X.tr x1 (X.st _ _ _))))) hm)
end
end Mine
-- MF37
namespace Mine
noncomputable def XW (env : Env) : XRel := XL fun A => A.frames = some [env]
theorem ref_of_list {h : Heap} {v : Value} {l : List D} (x : VD h v (.list l)) : ∃ a, v = .ref a := by obtain ⟨_, _, _, rfl, _, _, _⟩ := VD.listE x; exact ⟨_, rfl⟩
theorem ns_slots {h h' : Heap} {L : Addr} {m : Str → Option Value} (x : h.Ns L m) (k : ∀ o, h.get? L = some o → ∃ sl, h'.get? L = some { o with slots := sl }) : h'.Ns L m := by
 obtain ⟨o, es, ep, e, d, r⟩ := x
 obtain ⟨sl, e'⟩ := k o e
 exact ⟨_, es, ep, e', d, r⟩
section
variable {w : World} {n : Nat} {env : Env} {h₀ h h' b : Heap} {F : Addr → Prop} {σ : List (Str × D)} {O : List Str}
theorem LV.ntL (lv : LV h₀ F env σ O h) : NT env.locals := by
 obtain ⟨m, o, es, ep, e, d, _⟩ := lv.ns
 exact lv.big.ntOf e fun fs z => by rw [d] at z; cases z
theorem Mv.of_t (lv : LV h₀ F env σ O h) (k : KeepT h h') (hb : Big h') : Mv env h h' :=
 ⟨fun c o nt _ e => k c o nt e, fun m x => ns_slots x fun o e => ⟨o.slots, k _ _ lv.ntL e⟩, hb⟩
theorem Mv.of_s {g : Heap} (lv : LV h₀ F env σ O h) (T : KtsTurn [env.locals] h g) (st : g.StaysIn h') : Mv env h h' := by
 have k : ∀ c o, c ≠ env.locals → h.get? c = some o → h'.get? c = some o := fun c o ne e => st _ _ (T.other c o e (by simpa using ne))
 refine ⟨fun c o _ ne e => k c o ne e, fun m x => ns_slots x fun o e => ?_, ?_⟩
 ·obtain ⟨sl, e'⟩ := T.frame _ o e (.head _)
  exact ⟨sl, st _ _ e'⟩
 ·refine lv.big.but (c := env.locals) (fun a o ne e => k a o ne e) fun o vs e d => ?_
  obtain ⟨m, o', es, ep, e', d', _⟩ := lv.ns
  rw [e] at e'; cases e'; rw [d] at d'; cases d'
theorem below_law {A : Around} (lv : LV h₀ F env σ O h) (hb : Bs b h₀ F) (hA : A.frames = some [env]) (hfr : env.frame = some env.locals) (hk : env.scope.kind = .function) : Below A b [env] h := by
 obtain ⟨m, o, es, ep, e, d, _⟩ := lv.ns
 refine ⟨hA, hb.stays lv, ⟨by rw [hk]; decide, ⟨env.locals, o, hfr, ?_, e, fun vs z => by rw [d] at z; cases z⟩, trivial⟩⟩
 cases q : b.get? env.locals with
 | none => rfl
 | some o => exact absurd (hb _ _ q).1 lv.fr
theorem dicts_law (lv : LV h₀ F env σ O h) (hfr : env.frame = some env.locals) : KtsDicts ([env].filterMap (·.frame)) h := by
 obtain ⟨m, o, es, ep, e, d, _⟩ := lv.ns
 intro c hc
 simp [hfr] at hc
 subst hc
 exact ⟨o, es, ep, e, d⟩
theorem rowsK {w : World} : nsIn (hd.heap_1 w.params) mainGlobals "_law_rows" = some (some (.ref 254)) ∧ keepIn (hd.heap_1 w.params) (.ref 254) = true ∧ nsIn (hd.heap_1 w.params) mainGlobals "_law_refusal" = some (some (.ref 261)) ∧ keepIn (hd.heap_1 w.params) (.ref 261) = true := by
 have hh := Eq.refl (PySem.Challenge.rw_xl0021_01, hd.heap_1)
 revert hh
 k_fill
 intro _
 have e1 : nsIn (hd.heap_1 w.params) mainGlobals "_law_rows" = some (some (.ref 254)) := by k_is
 have e2 : keepIn (hd.heap_1 w.params) (.ref 254) = true := by k_is
 have e3 : nsIn (hd.heap_1 w.params) mainGlobals "_law_refusal" = some (some (.ref 261)) := by k_is
 have e4 : keepIn (hd.heap_1 w.params) (.ref 261) = true := by k_is
 exact ⟨e1, e2, e3, e4⟩
theorem ex_rows {e1 e2 e3 e4 e5 : Expr} {p pos : Pos} {head mx : Int} {spl lead : List Nat} {texts : List (List Nat)} (fe : Fe env) (G : Gr w b) (hb : Bs b h₀ F) (hb0 : b.get? 140 = none ∧ b.get? 147 = none) (hF : ∀ c, F c → NT c)
  (ha : ∀ h, LV h₀ F env σ O h → AV w (n + 40) env h pos [e1, e2, e3, e4, e5] [.int head, .int mx, .str (S spl), .str (S lead), .list (TL texts)])
  (hlen : texts.length ≤ 300) (hl : ∀ t ∈ texts, lead.length + t.length ≤ 9 ∧ Asc t) (hal : Asc lead) (hspl : spl.length < 1000) (hh0 : 0 ≤ head) (hh1 : head < 1000)
  (hno : (runC mx spl lead ⟨[], [], head⟩ texts).sz = 0 → lenP (nlP (runC mx spl lead ⟨[], [], head⟩ texts).ps) ≠ 0 → Txt.isspace (S (textP (nlP (runC mx spl lead ⟨[], [], head⟩ texts).ps))) = false)
  (hne : rowsOf head mx spl lead texts ≠ []) (hnl : ∀ r ∈ rowsOf head mx spl lead texts, 10 ∉ r) (hk : env.kindOf (Str.ofString "_law_rows") = some .globalImplicit := by rfl)
  (hn : starEach [e1, e2, e3, e4, e5] env = (false, eval e1 env) :: starEach [e2, e3, e4, e5] env := by rfl)
  (hs : ((backTo pos (starEach [e2, e3, e4, e5] env)).any fun x => x.1) = false := by rfl) :
  EX (XW env) w (n + 40) env h₀ F σ O (.Call (.Name (Str.ofString "_law_rows") p) [e1, e2, e3, e4, e5] [] pos) (.list (TL (rowsOf head mx spl lead texts))) := fun A E s Q ok lv hQ => by
 refine wpAny_Call_Name_kw (ev_global fe G (hb.stays lv) rowsK.1 hk (by decide) _ _ s _ ok.1 (stays_refl _) fun v h2 t2 k2 hv => ?_)
 obtain rfl := VD.conE hv
 have X2 : (hd.heap_1 w.params).In h2 := fun a o e => k2 _ _ (hb.stays lv _ _ (G.k a o e))
 refine callWith_K (K := hd.heap_1 w.params) (h₀ := h2) X2 rowsK.2.1 ?_ hn hs
 have lv2 := lv.keep k2
 refine ha _ lv2 _ _ { s with heap := h2, toks := t2 } _ ok.1 (stays_refl _) fun vs h3 t3 k3 hvs => ⟨fun a o e => k3 _ _ (X2 a o e), ?_⟩
 have lv3 := lv2.keep k3
 obtain ⟨_, _, rfl, c1, hvs⟩ := VDs.consE hvs
 obtain ⟨_, _, rfl, c2, hvs⟩ := VDs.consE hvs
 obtain ⟨_, _, rfl, c3, hvs⟩ := VDs.consE hvs
 obtain ⟨_, _, rfl, c4, hvs⟩ := VDs.consE hvs
 obtain ⟨_, _, rfl, c5, hvs⟩ := VDs.consE hvs
 obtain rfl := VDs.nilE hvs; obtain ⟨_, rfl⟩ := VD.intE c1; obtain ⟨_, rfl⟩ := VD.intE c2; obtain ⟨_, rfl⟩ := VD.strE c3; obtain ⟨_, rfl⟩ := VD.strE c4
 obtain ⟨a0, e5⟩ := ref_of_list c5
 subst e5
 refine rows_wp (s := { s with heap := h3, toks := t3 }) G (hb.stays lv3) hb0 lv3.big (ok.1.le (by omega)) c5 hlen hl hal hspl hh0 hh1 hno hne hnl fun v s' rx kt bg hv fr => ?_
 have mv := Mv.of_t lv3 kt bg
 refine hQ v s' ((XW env).tr ((XW env).st s h3 t3) rx) (lv3.move mv hF) hv (fun y u a => mv.at lv3.big lv3.ns ((a.keep k2).keep k3)) fun a q => not_old (stays_trans k2 k3) (fr a q)
theorem ex_refusal {e1 : Expr} {p pos : Pos} {x : List Nat} {cn : Str} {C : Addr} (R : Ref x cn C) (fe : Fe env) (G : Gr w b) (hb : Bs b h₀ F) (hF : ∀ c, F c → NT c) (hfr : env.frame = some env.locals)
  (ha : ∀ h, LV h₀ F env σ O h → EV w (n + 40) env h e1 (.str (S x))) (hx : x.length < 500) (hk : env.kindOf (Str.ofString "_law_refusal") = some .globalImplicit := by rfl)
  (hn : starEach [e1] env = (false, eval e1 env) :: starEach [] env := by rfl)
  (hs : ((backTo pos (starEach [] env)).any fun x => x.1) = false := by rfl) :
  EX (XW env) w (n + 40) env h₀ F σ O (.Call (.Name (Str.ofString "_law_refusal") p) [e1] [] pos) (.str (S (preOf C ++ x))) := fun A E s Q ok lv hQ => by
 refine wpAny_Call_Name_kw (ev_global fe G (hb.stays lv) rowsK.2.2.1 hk (by decide) _ _ s _ ok.1 (stays_refl _) fun v h2 t2 k2 hv => ?_)
 obtain rfl := VD.conE hv
 have X2 : (hd.heap_1 w.params).In h2 := fun a o e => k2 _ _ (hb.stays lv _ _ (G.k a o e))
 refine callWith_K (K := hd.heap_1 w.params) (h₀ := h2) X2 rowsK.2.2.2 ?_ hn hs
 have lv2 := lv.keep k2
 refine av_cons (ha _ lv2) av_nil hn _ _ { s with heap := h2, toks := t2 } _ ok.1 (stays_refl _) fun vs h3 t3 k3 hvs => ⟨fun a o e => k3 _ _ (X2 a o e), ?_⟩
 have lv3 := lv2.keep k3
 obtain ⟨_, _, rfl, c1, hvs⟩ := VDs.consE hvs
 obtain rfl := VDs.nilE hvs; obtain ⟨_, rfl⟩ := VD.strE c1
 refine refusal_wp (s := { s with heap := h3, toks := t3 }) R (below_law lv3 hb ok.2 hfr fe.kind) G lv3.big (dicts_law lv3 hfr) (ok.1.le (by omega)) hx fun h' g' tk t' T st => ?_
 have hfs : [env].filterMap (·.frame) = [env.locals] := by simp [hfr]
 rw [hfs] at T
 have mv := Mv.of_s lv3 T st
 exact hQ _ _ ((XW env).st s h' tk) (lv3.move mv hF) (.str _ _) (fun y u a => mv.at lv3.big lv3.ns ((a.keep k2).keep k3)) fun a q => nomatch q
end
end Mine
-- MF38
namespace Mine
section
variable {X : XRel} {w : World} {n : Nat} {env env' : Env} {h₀ h h' b : Heap} {F : Addr → Prop} {σ : List (Str × D)} {O : List Str}
theorem ev_free {x : Str} {pos : Pos} {d : D} (lv : LV h₀ F env σ O h) (k : h.StaysIn h') (hl : σ.lookup x = some d) (hkc : env.kindOf x = some .cell) (hcl : env.cells.lookup x = env'.cells.lookup x)
  (hk' : env'.scope.kind = .function) (hkf : env'.kindOf x = some .cell) (hd : (x == ("__debug__" : Str)) = false := by decide) : EV w n env' h' (.Name x pos) d := fun A E s Q ok st hQ => by
 obtain ⟨v, a, vd⟩ := lv.rd x d hl
 rcases a with ⟨q, _⟩ | ⟨q, c, l, o, g, hdt⟩
 ·rw [hkc] at q; cases q
 ·rw [hcl] at l
  exact wpAny_Name (wpAny_loadName_cell hk' hkf l ⟨o, st _ _ (k _ _ g), hdt⟩ (hQ _ _ _ (stays_refl _) (vd.keep (stays_trans k st)))) hd
theorem ev_idx_neg {value slice : Expr} {pos : Pos} {x : List D} {i : Int} {k : Nat} {c : D} (ha : EV w n env h value (.list x)) (hb : EV w n env h slice (.int i)) (hk : seqIndex? i x.length = some k) (hc : x[k]? = some c)
  (hlo : -(2 ^ 63) ≤ i) (hhi : i < 0) (hz : x.length < 1000000) : EV w n env h (.Subscript value slice pos) c :=
 ev_subscript look_list ha hb fun A E s Q u v ok st hu hv hQ => by
  obtain ⟨_, _, _, rfl, hl, e, sl⟩ := VD.listE hu
  obtain ⟨_, rfl⟩ := VD.intE hv
  obtain ⟨y, e1, e2⟩ := sl.get hc
  have hlen := sl.length
  have hki : -(x.length : Int) ≤ i ∧ k = (i + x.length).toNat := by
   unfold seqIndex? at hk
   rw [if_pos hhi] at hk
   dsimp only at hk
   split at hk
   ·rename_i h1
    simp only [Bool.and_eq_true, decide_eq_true_eq] at h1
    injection hk with hk
    omega
   ·cases hk
  refine ⟨⟨_, e, rfl⟩, wpAny_getItem_list_neg (x := y) ⟨_, e, rfl, _, rfl⟩ hhi ?_ hlo ?_ (hQ _ _ _ (stays_refl _) e2)⟩
  ·rw [List.size_toArray, hlen]; exact hki.1
  ·rw [List.getElem?_toArray, List.size_toArray, hlen, ← hki.2]; exact e1
end
namespace Ksxpop0
noncomputable def Claim0 (X : XRel) (w : World) (n : Nat) (env : Env) (h₀ : Heap) (F : Addr → Prop) (σ : List (Str × D)) (O : List Str) (x : Str) (y : Str) (p' : Pos) (p1 : Pos) (p2 : Pos) (p3 : Pos) (apos : Pos) (pos : Pos) (spos : Pos) (pos2 : Pos) (k1 : Nat) (k2 : Nat) (a1 : Int) (c1 : Int) (l : List D) : Prop :=
 ∀ (fe : Fe env) (hk : Stored env y) (hl : σ.lookup x = some (.list (.tuple [.int a1, .int c1] :: l))) (hx : x ∈ O) (hll : Lows l) (hz : l.length < 1000) (hxy : x ≠ y) (hb : attributeBase (.Name x p1) (Str.ofString "pop") env (eval (.Name x p1) env) = eval (.Name x p1) env) (hd : (x == ("__debug__" : Str)) = false) (hp : (apos.endLine == pos.line) = true) (hs : swapsWith (.Subscript (.Call (.Attribute (.Name x p1) (Str.ofString "pop") apos) [.Constant (.int 0) k1 p2] [] pos) (.Constant (.int 1) k2 p3) spos) (some (.Name y p')) pos2.line env = pure false), SX X w n env h₀ F (exec (.Assign [.Name y p'] (.Subscript (.Call (.Attribute (.Name x p1) (Str.ofString "pop") apos) [.Constant (.int 0) k1 p2] [] pos) (.Constant (.int 1) k2 p3) spos) pos2) env) σ O (.next ((y, .int c1) :: (x, .list l) :: σ) (less O y))
noncomputable abbrev Ty0 := (XRel) × (World) × (Nat) × (Env) × (Heap) × (Addr → Prop) × (List (Str × D)) × (List Str) × (Str) × (Str) × (Pos) × (Pos) × (Pos) × (Pos) × (Pos) × (Pos) × (Pos) × (Pos) × (Nat) × (Nat) × (Int) × (Int) × (List D)
noncomputable def C0 (p : Ty0) : Prop := Claim0 p.1 p.2.1 p.2.2.1 p.2.2.2.1 p.2.2.2.2.1 p.2.2.2.2.2.1 p.2.2.2.2.2.2.1 p.2.2.2.2.2.2.2.1 p.2.2.2.2.2.2.2.2.1 p.2.2.2.2.2.2.2.2.2.1 p.2.2.2.2.2.2.2.2.2.2.1 p.2.2.2.2.2.2.2.2.2.2.2.1 p.2.2.2.2.2.2.2.2.2.2.2.2.1 p.2.2.2.2.2.2.2.2.2.2.2.2.2.1 p.2.2.2.2.2.2.2.2.2.2.2.2.2.2.1 p.2.2.2.2.2.2.2.2.2.2.2.2.2.2.2.1 p.2.2.2.2.2.2.2.2.2.2.2.2.2.2.2.2.1 p.2.2.2.2.2.2.2.2.2.2.2.2.2.2.2.2.2.1 p.2.2.2.2.2.2.2.2.2.2.2.2.2.2.2.2.2.2.1 p.2.2.2.2.2.2.2.2.2.2.2.2.2.2.2.2.2.2.2.1 p.2.2.2.2.2.2.2.2.2.2.2.2.2.2.2.2.2.2.2.2.1 p.2.2.2.2.2.2.2.2.2.2.2.2.2.2.2.2.2.2.2.2.2.1 p.2.2.2.2.2.2.2.2.2.2.2.2.2.2.2.2.2.2.2.2.2.2
noncomputable def eps0 : Ty0 := @Classical.epsilon Ty0 ⟨(XF, aWorld 1, (default : Nat), (default : Env), (default : Heap), (fun _ => True), (default : List (Str × D)), (default : List Str), (default : Str), (default : Str), (default : Pos), (default : Pos), (default : Pos), (default : Pos), (default : Pos), (default : Pos), (default : Pos), (default : Pos), (default : Nat), (default : Nat), (default : Int), (default : Int), (default : List D))⟩ (fun p => ¬ C0 p)
noncomputable def X := eps0.1
noncomputable def w := eps0.2.1
noncomputable def n := eps0.2.2.1
noncomputable def env := eps0.2.2.2.1
noncomputable def h₀ := eps0.2.2.2.2.1
noncomputable def F := eps0.2.2.2.2.2.1
noncomputable def σ := eps0.2.2.2.2.2.2.1
noncomputable def O := eps0.2.2.2.2.2.2.2.1
noncomputable def x := eps0.2.2.2.2.2.2.2.2.1
noncomputable def y := eps0.2.2.2.2.2.2.2.2.2.1
noncomputable def p' := eps0.2.2.2.2.2.2.2.2.2.2.1
noncomputable def p1 := eps0.2.2.2.2.2.2.2.2.2.2.2.1
noncomputable def p2 := eps0.2.2.2.2.2.2.2.2.2.2.2.2.1
noncomputable def p3 := eps0.2.2.2.2.2.2.2.2.2.2.2.2.2.1
noncomputable def apos := eps0.2.2.2.2.2.2.2.2.2.2.2.2.2.2.1
noncomputable def pos := eps0.2.2.2.2.2.2.2.2.2.2.2.2.2.2.2.1
noncomputable def spos := eps0.2.2.2.2.2.2.2.2.2.2.2.2.2.2.2.2.1
noncomputable def pos2 := eps0.2.2.2.2.2.2.2.2.2.2.2.2.2.2.2.2.2.1
noncomputable def k1 := eps0.2.2.2.2.2.2.2.2.2.2.2.2.2.2.2.2.2.2.1
noncomputable def k2 := eps0.2.2.2.2.2.2.2.2.2.2.2.2.2.2.2.2.2.2.2.1
noncomputable def a1 := eps0.2.2.2.2.2.2.2.2.2.2.2.2.2.2.2.2.2.2.2.2.1
noncomputable def c1 := eps0.2.2.2.2.2.2.2.2.2.2.2.2.2.2.2.2.2.2.2.2.2.1
noncomputable def l := eps0.2.2.2.2.2.2.2.2.2.2.2.2.2.2.2.2.2.2.2.2.2.2
theorem main0 : Claim0 X w n env h₀ F σ O x y p' p1 p2 p3 apos pos spos pos2 k1 k2 a1 c1 l := fun fe hk hl hx hll hz hxy hb hd hp hs => fun A E s Q ok lv p => by
 have hn : starEach [Expr.Constant (.int 0) k1 p2] env = [(false, eval (Expr.Constant (.int 0) k1 p2) env)] := rfl
 have hm : ((((backTo pos (starEach [Expr.Constant (.int 0) k1 p2] env)).all fun x => !x.fst) && (backToKw pos (keywordEach [] env)).all fun x => x.fst.isSome) && decide (([Expr.Constant (.int 0) k1 p2].length + ([] : List Keyword).length + if ([] : List Keyword).isEmpty = true then 0 else 1) < 30)) = true := rfl
 refine wpAny_Assign_Name (Subscript_ (wpAny_Call_method hb hm hp PySem.F.plainAttrs_list PySem.F.slot_list_pop PySem.F.type_list_pop (name_at fe lv hl (fun v av vd => ?_) hd))) hs
 obtain ⟨a, m, vs, rfl, na, ea, sl⟩ := VD.listE vd
 refine ⟨⟨_, ea, rfl⟩, fun a' q => by cases q; exact ⟨_, ea, rfl⟩, ?_⟩
 rw [hn]
 have z := sizeLine_eq
 have hlen := sl.length
 obtain ⟨v0, e0, c0⟩ := sl.get (i := 0) rfl
 have hlen' : vs.length = l.length + 1 := hlen
 have sl' := sl.drop 1
 refine P.pop_at_list (wpAny_Constant_int (k := k1) (pos := p2) ⟨vs.toArray, m, 0, _, 0, v0, ?_, rfl, ea, ?_, ?_, ?_, ?_⟩)
 ·rw [List.size_toArray]; omega
 ·decide +kernel
 ·rw [List.size_toArray]; exact seq_at (by omega) (.inl rfl)
 ·rw [List.getElem?_toArray]; exact e0
 obtain ⟨m', eu⟩ := upd_list ea (fun xs => xs.eraseIdxIfInBounds 0)
 have ev : (vs.toArray.eraseIdxIfInBounds 0).toList = vs.drop 1 := by
  rw [Array.toList_eraseIdxIfInBounds]
  cases vs <;> rfl
 rw [ev] at eu
 have sb : Heap.SameBut a s.heap (s.heap.update a (Obj.mapSeq fun xs => xs.eraseIdxIfInBounds 0)) := Heap.SameBut.update ..
 have lv2 := lv.turned hx hl av sb eu sl' hll
 refine wpAny_Constant_int (k := k2) (pos := p3) ?_
 obtain ⟨ops, e⟩ := subscripted_ops (.Constant (.int 1) k2 p3) v0 (.int 1 (s.toks + 1))
 have c1' : VD (s.heap.update a (Obj.mapSeq fun xs => xs.eraseIdxIfInBounds 0)) v0 (.tuple [.int a1, .int c1]) := VD.butL ⟨fun c o ne e => (sb.2 c ne).trans e, _, _, ea⟩ c0 (.tuple (.cons (.int _) (.cons (.int _) .nil)))
 obtain ⟨t, _, ws, rfl, nt, et, slt⟩ := VD.tupleE c1'
 obtain ⟨y1, e9, c9⟩ := slt.get (i := 1) rfl
 obtain ⟨t9, rfl⟩ := VD.intE c9
 refine tail_any (s := { s with heap := s.heap.update a (Obj.mapSeq fun xs => xs.eraseIdxIfInBounds 0), toks := s.toks + 1 + 1 }) ⟨_, et, rfl⟩ look_tuple (getItem_tuple ⟨_, et, rfl, _, rfl⟩ (by decide) (by decide) (j := 1) (by rw [List.size_toArray, slt.length]; rfl) (by rw [List.getElem?_toArray]; exact e9) ?_) e
 refine store_low fe lv2 hk (.int _ t9) (.int _) fun h9 t9 _ lv9 => ?_
 exact p _ (X.st _ _ _) lv9
end Ksxpop0
section
variable {X : XRel} {w : World} {n : Nat} {env env' : Env} {h₀ h h' b : Heap} {F : Addr → Prop} {σ : List (Str × D)} {O : List Str}
theorem sx_pop0 {x y : Str} {p' p1 p2 p3 apos pos spos pos2 : Pos} {k1 k2 : Nat} {a1 c1 : Int} {l : List D} (fe : Fe env) (hk : Stored env y) (hl : σ.lookup x = some (.list (.tuple [.int a1, .int c1] :: l))) (hx : x ∈ O) (hll : Lows l) (hz : l.length < 1000) (hxy : x ≠ y)
  (hb : attributeBase (.Name x p1) (Str.ofString "pop") env (eval (.Name x p1) env) = eval (.Name x p1) env := by rfl)
  (hd : (x == ("__debug__" : Str)) = false := by decide)
  (hp : (apos.endLine == pos.line) = true := by rfl)
  (hs : swapsWith (.Subscript (.Call (.Attribute (.Name x p1) (Str.ofString "pop") apos) [.Constant (.int 0) k1 p2] [] pos) (.Constant (.int 1) k2 p3) spos) (some (.Name y p')) pos2.line env = pure false := by rfl) :
  SX X w n env h₀ F (exec (.Assign [.Name y p'] (.Subscript (.Call (.Attribute (.Name x p1) (Str.ofString "pop") apos) [.Constant (.int 0) k1 p2] [] pos) (.Constant (.int 1) k2 p3) spos) pos2) env) σ O (.next ((y, .int c1) :: (x, .list l) :: σ) (less O y)) :=
 by_eps (C := Ksxpop0.C0) _ Ksxpop0.main0 (X, w, n, env, h₀, F, σ, O, x, y, p', p1, p2, p3, apos, pos, spos, pos2, k1, k2, a1, c1, l) fe hk hl hx hll hz hxy hb hd hp hs
end
end Mine
-- MF39
namespace Mine
noncomputable abbrev FT (h : Heap) : Addr → Prop := fun c => (∃ o, h.get? c = some o) ∧ NT c
set_option tactic.hygienic true in
theorem enterC {w : World} {A : Around} {s : Shared} {b : Heap} {R : Result → Shared → Prop}
  {name qual : Str} {params : Arguments} {body : List Stmt} {scope : Scope} {dV kV doc pm cdv ct oc : Value} {an od : Option Addr} {osl : Array (Option Value)} {f : Addr} {x : Str} {v : Value} {d : D} {n : Nat}
  (G : Gr w b) (bs : b.StaysIn s.heap) (hbig : Big s.heap) (ok : Ok (n + 1) A)
  (ho : (hd.heap_1 w.params).lookup f = some ⟨oc, od, .func (fnX name qual params body scope [] dV kV doc pm an cdv ct), osl⟩)
  (hcd : codeIn (hd.heap_1 w.params) cdv qual = true)
  (hbind : bindArgs (fnX name qual params body scope [] dV kV doc pm an cdv ct) ⟨[v], []⟩ = pure [(x, v)])
  (hv : VD s.heap v d) (hloc : scope.names.lookup x = some .local) (hfl : OkD d)
  (hbody : ∀ h₁ tk, Fe (envOfC qual scope s.heap.objs.size f cdv) → s.heap.StaysIn h₁ → LV s.heap (FT s.heap) (envOfC qual scope s.heap.objs.size f cdv) [(x, d)] [] h₁ →
   wpAny (model PW w) (A.deeper (envOfC qual scope s.heap.objs.size f cdv)) (execs body (envOfC qual scope s.heap.objs.size f cdv)) (fun f s' => R (.ok (.ret (match f with | .ret v => v | _ => .none))) s')
    (fun e s' => wpAny (model PW w) (A.deeper (envOfC qual scope s.heap.objs.size f cdv)) (leaving (envOfC qual scope s.heap.objs.size f cdv) e) (fun _ s'' => R (.error e) s'') (fun e' s'' => R (.error e') s'') s')
    { s with heap := h₁, toks := tk })
  (hco : scope.isCoroutine = false := by rfl) (hgen : scope.isGenerator = false := by rfl) (hk : scope.kind = .function := by rfl) : codeAny (model PW w) A (.call (.ref f) ⟨[v], []⟩) R s := by
 obtain ⟨mean, mg, mb, T⟩ := G.t
 refine codeAny_call_cells (fd := fnX name qual params body scope [] dV kV doc pm an cdv ct) (body := body) (binds := [(x, v)]) ?_ (bs _ _ (G.k _ _ ho)) rfl (T.nolimit.keeps bs) (codeRec_of (fun a o e => bs a o (G.k a o e)) hcd) rfl hbind rfl ?_ (fun s₁ X => ?_) hco hgen hk
 ·have := ok.dp
  show A.depth < 1000
  omega
 ·intro y hy
  rw [List.mem_singleton.mp hy]
  exact .inl hloc
 obtain ⟨h₁, tk, rfl, k1⟩ := X.done
 have old : ∀ c, s.heap.objs.size ≤ c → ¬ FT s.heap c := fun c hc f => by
  obtain ⟨⟨o, e⟩, _⟩ := f
  exact absurd (Heap.lt_size e) (Nat.not_lt.mpr hc)
 refine hbody h₁ tk ⟨hk, rfl, rfl⟩ k1 ⟨fun c o _ e => k1 c o e, fun c f => f.1, hbig.up k1, ⟨_, X.toInCall.ns⟩, old _ (Nat.le_refl _), ?_, ?_, ?_, ?_, ?_, fun y a l q => nomatch q⟩
 ·intro y c q l
  exact ⟨old c (Nat.le_of_lt (X.above y c (PySem.mem_of_lookup l))), _, X.cell y c l⟩
 ·intro y z c _ _ ly lz
  exact PySem.name_of_addr X.apart (PySem.mem_of_lookup ly) (PySem.mem_of_lookup lz)
 ·intro y e hl
  rw [List.lookup_cons] at hl
  split at hl
  ·rename_i q
   have q : y = x := by simpa using q
   cases hl
   subst q
   refine ⟨v, .inl ⟨hloc, _, X.toInCall.ns, ?_⟩, hv.keep k1⟩
   have hloc' : (callEnvC (fnX name qual params body scope [] dV kV doc pm an cdv ct) s.heap.objs.size f).kindOf y = some .local := hloc
   simp only [bindL]
   rw [if_pos hloc']
   simp
  ·cases hl
 ·intro y e hl
  rw [List.lookup_cons] at hl
  split at hl
  ·cases hl; exact hfl
  ·cases hl
 ·intro y z a l m ne hy hz
  rw [List.lookup_cons] at hy hz
  split at hy
  ·split at hz
   ·rename_i q1 _ q2
    exact absurd ((by simpa using q1 : y = x).trans (by simpa using q2 : z = x).symm) ne
   ·cases hz
  ·cases hy
end Mine
-- MF40
namespace Mine
/-! what the law builds, in plain numbers: f, s are its two sums -/
noncomputable def rg (f : Nat) : Nat := 4 + f % 6
noncomputable def wd (f : Nat) : Nat := 2 + f / 6 % (min (rg f) 6 - 2)
noncomputable def cm (s : Nat) : Nat := s % 2
noncomputable def ldT : List (List Nat) := [[32], [9], [32, 9], [9, 32]]
noncomputable def ld (s : Nat) : List Nat := if s % 2 = 1 then [] else ldT.getD (s / 2 % 4) []
noncomputable def sg (s : Nat) : List Nat := if s % 2 = 1 then [44] else []
noncomputable def un (s : Nat) : Nat := (ld s).length + 1 + cm s
noncomputable def wi (f s : Nat) : Nat := un s * wd f + s / 8 % un s
noncomputable def hw (f s : Nat) : Nat := s / 32 % (un s * wd f + 2 - 3 * cm s)
noncomputable def rm (f s : Nat) : Nat := (wi f s - hw f s) / un s
noncomputable def du (f : Nat) : List (Nat × Nat) := euDue (rg f) (wd f)
noncomputable def lp (f : Nat) : Nat := ((du f).getLast?.getD (0, 0)).1
noncomputable def nf (f s : Nat) : Nat := rm f s + wd f * (lp f + 1)
noncomputable def fg (f s : Nat) : List Nat := (List.range (nf f s)).map fun p => 49 + (s / 256 + p) % rg f
noncomputable def tx (f s j : Nat) : List Nat := ((fg f s).drop (rm f s + j * wd f)).take (wd f)
noncomputable def pcs (f s : Nat) : List (List Nat) := (fg f s).take (rm f s) :: (List.range (lp f + 1)).map (tx f s)
noncomputable def brk (s : Nat) : List Nat := 59 :: ((ld s).take 1 ++ sg s)
noncomputable def rowT (s : Nat) (p : List Nat) : List Nat := (p.map fun c => ld s ++ [c] ++ sg s).flatten
noncomputable def rws (f s : Nat) : List (List Nat) := (pcs f s).map (rowT s)
noncomputable def fgs (f s : Nat) : List (List Nat) := (fg f s).map fun c => [c] ++ sg s
noncomputable def aln (f s : Nat) : List (List Nat) := ((fg f s).take 3).map fun c => [c] ++ [59]
noncomputable def prtOf (s : Nat) (p : List Nat) : List (List Nat) := p.dropLast.map (fun c => [c] ++ sg s) ++ [[p.getLast?.getD 0] ++ sg s ++ [59]]
noncomputable def prt (f s : Nat) : List (List Nat) := (((pcs f s).drop 1).take 3).flatMap (prtOf s)
noncomputable def whl (f s : Nat) : List (List Nat) := (((rws f s).drop 1).take 3).map (· ++ [59])
noncomputable def ful (f s : Nat) : Nat := un s * wd f + 1
noncomputable def lim1 (f s : Nat) : Nat := ful f s + s / 32 % (2 * ful f s)
noncomputable def mny (f s limit : Nat) : Nat := max 1 (limit / ful f s)
noncomputable def jnd (f s many : Nat) : List (List Nat) := (List.range ((3 + many - 1) / many)).map fun i => (((whl f s).drop (i * many)).take many).flatten
noncomputable def mk (s : Nat) : Nat := [124, 33, 48, 120, 47].getD (s / 2304 % 5) 0
noncomputable def rep (f s k : Nat) : List Nat := [50, 50, 57, 32, 97, 41, 32, 40] ++ ((mk s :: tx f s (k - 1)) ++ (mk s :: tx f s (k - 1))) ++ [mk s] ++ tx f s k ++ [mk s] ++ [41, 32, 40, 98, 41]
end Mine
-- MF41
namespace Mine
theorem fmod_bd (x : Int) : 0 ≤ x.fmod 1000003 ∧ x.fmod 1000003 < 1000003 := by
 rw [Int.fmod_eq_emod_of_nonneg _ (by omega)]
 exact ⟨Int.emod_nonneg _ (by omega), Int.emod_lt_of_pos _ (by omega)⟩
theorem sum_bd : ∀ {l : List Int} {B : Int}, (∀ x ∈ l, 0 ≤ x ∧ x < B) → 0 ≤ l.sum ∧ l.sum ≤ B * l.length
 | [], B, _ => by simp
 | a :: l, B, h => by
  have := sum_bd (l := l) (B := B) fun x hx => h x (.tail _ hx)
  have ha := h a (.head _)
  rw [List.sum_cons, List.length_cons, Int.natCast_add, Int.mul_add]
  omega
theorem mods_ok (l : List Int) (hl : l.length ≤ 1000) : (∀ x ∈ l.map (fun x => x.fmod 1000003), InLong x) ∧ ∀ k, k ≤ (l.map (fun x => x.fmod 1000003)).length → InLong ((l.map (fun x => x.fmod 1000003)).take k).sum := by
 have hb : ∀ x ∈ l.map (fun x => x.fmod 1000003), 0 ≤ x ∧ x < 1000003 := fun x hx => by
  obtain ⟨y, _, rfl⟩ := List.mem_map.mp hx
  exact fmod_bd y
 refine ⟨fun x hx => ?_, fun k hk => ?_⟩
 ·have := hb x hx
  unfold InLong
  omega
 ·have := sum_bd (l := (l.map (fun x => x.fmod 1000003)).take k) (B := 1000003) fun x hx => hb x (List.mem_of_mem_take hx)
  rw [List.length_take] at this
  unfold InLong
  have : (min k (l.map (fun x => x.fmod 1000003)).length : Int) ≤ 1000 := by rw [List.length_map]; omega
  omega
theorem cv_sumF {w : World} {n : Nat} {h : Heap} {l : List Int} {g : Int → Int} (hb : Big h) (hs : (∀ x ∈ l.map g, InLong x) ∧ ∀ k, k ≤ (l.map g).length → InLong ((l.map g).take k).sum) : CV w (n + 1) h (.builtin "sum") [.list (l.map fun y => .int (g y))] (.int (l.map g).sum) := by
 have := cv_sum (w := w) (n := n) hb hs.1 hs.2
 rw [List.map_map] at this
 exact this
theorem cut_len {α : Type} (l : List α) (lo hi : Option Int) (st : Int) : (cut l lo hi st).length ≤ (Builtin.Str.strSliceIndices lo hi st l.length).length := List.length_filterMap_le _ _
theorem cut_map {α β : Type} (g : α → β) (l : List α) (lo hi : Option Int) (st : Int) : cut (l.map g) lo hi st = (cut l lo hi st).map g := by
 unfold cut
 rw [List.length_map, List.map_filterMap]
 congr 1
 funext i
 rw [List.getElem?_map]
theorem slice_len : ((List.range 64).all fun n => decide ((Builtin.Str.strSliceIndices (some 0) none 2 n).length ≤ 64) && decide ((Builtin.Str.strSliceIndices (some 1) none 2 n).length ≤ 64)) = true := by decide +kernel
theorem slices_len {α : Type} {l : List α} (h : l.length ≤ 63) : (cut l (some 0) none 2).length ≤ 64 ∧ (cut l (some 1) none 2).length ≤ 64 := by
 have z := slice_len
 rw [List.all_eq_true] at z
 have := z l.length (List.mem_range.mpr (by omega))
 simp only [Bool.and_eq_true, decide_eq_true_eq] at this
 exact ⟨Nat.le_trans (cut_len _ _ _ _) this.1, Nat.le_trans (cut_len _ _ _ _) this.2⟩
noncomputable def immN : Imm (fun i : Nat => D.int (i : Nat)) where
 R := fun v x => ∃ t, v = .int (x : Nat) t
 to := fun h v x hv => by obtain ⟨t, rfl⟩ := VD.intE hv; exact ⟨t, rfl⟩
 of := fun h v x hv => by obtain ⟨t, rfl⟩ := hv; exact .int _ _
 uniq := fun v x y h1 h2 => by
  obtain ⟨t, rfl⟩ := h1
  obtain ⟨u, e⟩ := h2
  injection e with e1
  omega
noncomputable abbrev ND (l : List Nat) : List D := l.map fun i : Nat => D.int (i : Nat)
noncomputable abbrev steps (a c k : Nat) : List Nat := (List.range k).map fun i => a + i * c
theorem rsize {a b c : Nat} (hc : 0 < c) : Builtin.Range.rangeSize (a : Nat) (b : Nat) (c : Nat) = (((b - a + c - 1) / c : Nat) : Int) := by
 unfold Builtin.Range.rangeSize
 rw [if_pos (by omega)]
 split
 ·rename_i q
  have e1 : (b : Int) - a - 1 = ((b - a - 1 : Nat) : Int) := by omega
  have e2 : b - a + c - 1 = (b - a - 1) + c := by omega
  rw [e1, e2, Nat.add_div_right _ hc, Int.natCast_add, Int.natCast_ediv]
  rfl
 ·rename_i q
  have e2 : b - a + c - 1 = c - 1 := by omega
  rw [e2, Nat.div_eq_of_lt (by omega)]
  rfl
section
variable {w : World} {n : Nat} {env : Env} {h b : Heap}
theorem ei_eq {e : Expr} {ds ds' : List D} {fr kn : Bool} (x : EI w n env h e ds fr kn) (q : ds = ds') : EI w n env h e ds' fr kn := q ▸ x
theorem ei_rangeN {e : Expr} {a bb c : Nat} (hb : Big h) (he : EV w n env h e (.range (a : Nat) (bb : Nat) (c : Nat))) (ha : a < 1000000) (hbb : bb < 1000000) (hc : 0 < c) (hc' : c < 1000000) : EI w n env h e (ND (steps a c ((bb - a + c - 1) / c))) true true :=
 ei_eq (ei_range hb he (k := (bb - a + c - 1) / c) (small_any (by omega) (by omega) (by omega) (by omega) (by omega) (by omega)) (rsize hc)) (by
  show List.map _ _ = List.map _ (List.map _ _)
  rw [List.map_map]
  refine List.map_congr_left fun i _ => ?_
  show D.int _ = D.int _
  push_cast; rfl)
end
end Mine
-- MF42
namespace Mine
theorem max_fdiv {a b c : Nat} (hc : 0 < c) : max 0 (((a : Int) - b).fdiv c) = (((a - b) / c : Nat) : Int) := by
 by_cases q : b ≤ a
 ·have e : (a : Int) - b = ((a - b : Nat) : Int) := by omega
  rw [e, fdiv_nat]; exact Int.max_eq_right (Int.natCast_nonneg _)
 ·have e : a - b = 0 := by omega
  have h : ((a : Int) - b).fdiv c ≤ 0 := by
   rw [Int.fdiv_eq_ediv_of_nonneg _ (by omega)]
   exact Int.ediv_nonpos_of_nonpos_of_neg (by omega) (by omega)
  rw [e, Nat.zero_div]; omega
theorem rg_bd (f : Nat) : 4 ≤ rg f ∧ rg f ≤ 9 := by unfold rg; omega
theorem wd_bd (f : Nat) : 2 ≤ wd f ∧ wd f ≤ 5 ∧ wd f < rg f := by
 have := rg_bd f
 unfold wd
 have : f / 6 % (min (rg f) 6 - 2) < min (rg f) 6 - 2 := Nat.mod_lt _ (by omega)
 omega
theorem ldT_len : ∀ i < 4, (ldT.getD i []).length = 1 ∨ (ldT.getD i []).length = 2 := by decide
theorem ld_bd (q : Nat) : (ld q).length ≤ 2 ∧ 2 ≤ un q ∧ un q ≤ 3 ∧ cm q ≤ 1 ∧ un q = (ld q).length + 1 + cm q := by
 have h := ldT_len (q / 2 % 4) (by omega)
 unfold un cm ld
 generalize ldT.getD (q / 2 % 4) [] = l at *
 by_cases h2 : q % 2 = 1
 ·rw [if_pos h2, h2]; decide
 ·rw [if_neg h2]; omega
theorem ev_i {w : World} {n : Nat} {env : Env} {h : Heap} {e : Expr} {i j : Int} (x : EV w n env h e (.int i)) (q : i = j) : EV w n env h e (.int j) := q ▸ x
theorem ev_s {w : World} {n : Nat} {env : Env} {h : Heap} {e : Expr} {i j : List Nat} (x : EV w n env h e (.str (S i))) (q : i = j) : EV w n env h e (.str (S j)) := q ▸ x
theorem evf_l {w : World} {n : Nat} {env : Env} {h : Heap} {e : Expr} {i j : List D} (x : EVF w n env h e (.list i)) (q : i = j) : EVF w n env h e (.list j) := q ▸ x
theorem TL_map {α : Type} (l : List α) (g : α → List Nat) : (l.map fun y => D.str (S (g y))) = TL (l.map g) := by
 show _ = List.map _ (List.map _ _)
 rw [List.map_map]; rfl
theorem join_one (l : List Nat) : joinL [] (l.map fun c => [c]) = l := by
 induction l with
 | nil => rfl
 | cons a r ih =>
  cases r with
  | nil => rfl
  | cons b r =>
   show joinL [] ([a] :: [b] :: r.map _) = _
   rw [joinL_cons2]
   show [a] ++ [] ++ _ = _
   rw [show joinL [] ([b] :: List.map (fun c => [c]) r) = b :: r from ih]
   simp
theorem join_flat (l : List (List Nat)) : joinL [] l = l.flatten := by
 induction l with
 | nil => rfl
 | cons a r ih =>
  cases r with
  | nil => simp [joinL]
  | cons b r =>
   rw [joinL_cons2, ih]
   simp
noncomputable def duOk (r w : Nat) : Bool := !(decide (2 ≤ w) && decide (w < r)) || (decide (1 ≤ (euDue r w).length) && decide ((euDue r w).length ≤ 3) && decide (1 ≤ ((euDue r w).getLast?.getD (0, 0)).1) && decide (((euDue r w).getLast?.getD (0, 0)).1 ≤ 9))
theorem du_all : ((List.range 10).all fun r => (List.range 6).all fun w => duOk r w) = true := by decide +kernel
theorem du_bd (f : Nat) : 1 ≤ (du f).length ∧ (du f).length ≤ 3 ∧ 1 ≤ lp f ∧ lp f ≤ 9 := by
 have a := rg_bd f
 have c := wd_bd f
 have h := du_all
 rw [List.all_eq_true] at h
 have h := h (rg f) (List.mem_range.mpr (by omega))
 rw [List.all_eq_true] at h
 have h := h (wd f) (List.mem_range.mpr (by omega))
 unfold duOk at h
 simp only [c.1, c.2.2, decide_true, Bool.and_self, Bool.not_true, Bool.false_or, Bool.and_eq_true, decide_eq_true_eq] at h
 unfold lp du
 omega
theorem du_last (f : Nat) : ∃ e : Nat, (dueD (du f))[(du f).length - 1]? = some (.tuple [.int (lp f : Nat), .int (e : Nat)]) := by
 have c := du_bd f
 have h : (du f).getLast? = some ((du f).getLast?.getD (0, 0)) := by
  cases e : (du f).getLast? with
  | none => rw [List.getLast?_eq_none_iff] at e; rw [e] at c; simp at c
  | some _ => rfl
 refine ⟨((du f).getLast?.getD (0, 0)).2, ?_⟩
 rw [List.getLast?_eq_getElem?] at h
 rw [List.getElem?_map, h]
 unfold lp
 rw [List.getLast?_eq_getElem?]
 rfl
theorem wi_bd (f q : Nat) : wi f q ≤ 17 ∧ rm f q ≤ 5 := by
 have ⟨_, b, _⟩ := wd_bd f
 have ⟨_, c, d, _⟩ := ld_bd q
 have h1 : un q * wd f ≤ 15 := Nat.le_trans (Nat.mul_le_mul d b) (by decide)
 have h2 : q / 8 % un q < un q := Nat.mod_lt _ (by omega)
 refine ⟨by unfold wi; omega, ?_⟩
 unfold rm
 have : (wi f q - hw f q) / un q ≤ wi f q / un q := Nat.div_le_div_right (by omega)
 have e : wi f q / un q = wd f := by
  unfold wi
  rw [Nat.mul_add_div (by omega), Nat.div_eq_of_lt h2, Nat.add_zero]
 omega
theorem nf_bd (f q : Nat) : nf f q ≤ 55 := by
 have a := wi_bd f q
 have ⟨_, b, _⟩ := wd_bd f
 have c := du_bd f
 have : wd f * (lp f + 1) ≤ 5 * 10 := Nat.mul_le_mul b (by omega)
 unfold nf; omega
theorem fg_len (f q : Nat) : (fg f q).length = nf f q := by unfold fg; simp
theorem steps_one (k : Nat) : steps 0 1 ((k - 0 + 1 - 1) / 1) = List.range k := by
 unfold steps
 simp
theorem fg_dig (f q : Nat) : ∀ c ∈ fg f q, Dig c := by
 intro c hc
 have := rg_bd f
 obtain ⟨p, _, rfl⟩ := List.mem_map.mp hc
 have : (q / 256 + p) % rg f < rg f := Nat.mod_lt _ (by omega)
 unfold Dig; omega
noncomputable def immC : Imm (fun c : Nat => D.str (S [c])) where
 R := fun v x => ∃ t, v = .str (S [x]) t
 to := fun h v x hv => by obtain ⟨t, rfl⟩ := VD.strE hv; exact ⟨t, rfl⟩
 of := fun h v x hv => by obtain ⟨t, rfl⟩ := hv; exact .str _ _
 uniq := fun v x y h1 h2 => by
  obtain ⟨t, rfl⟩ := h1
  obtain ⟨u, e⟩ := h2
  injection e with e1
  have := S_inj e1
  simpa using this
theorem cmp_texts {w : World} {n : Nat} {h : Heap} {l m : List (List Nat)} (hl : ∀ x ∈ l, Asc x) (hm : ∀ x ∈ m, Asc x) (e : l = m) : Cmp w n h .NotEq (.list (TL l)) (.list (TL m)) false := by
 have := cmp_neD (w := w) (n := n) (h := h) (a := .list (TL l)) (b := .list (TL m)) (.list (pls_texts l)) (.list (pls_texts m)) (shaped_texts hl) (shaped_texts hm)
 have q : PyData.eqv (toP (.list (TL l))) (toP (.list (TL m))) = true := by
  show PyData.eqvAll (toPs (TL l)) (toPs (TL m)) = true
  rw [eqv_texts, decide_eq_true e]
 rw [q] at this
 exact this
theorem dig_asc {c : Nat} (h : Dig c) : c < 1000 := by unfold Dig at h; omega
theorem ld_asc (q : Nat) : Asc (ld q) := by
 have h : ∀ i < 4, ∀ c ∈ ldT.getD i [], c < 1000 := by decide
 unfold ld
 split
 ·intro c hc; cases hc
 ·intro c hc; exact h _ (by omega) c hc
theorem sg_asc (q : Nat) : Asc (sg q) := by
 unfold sg
 split
 ·intro c hc; rw [List.mem_singleton.mp hc]; decide
 ·intro c hc; cases hc
theorem sg_len (q : Nat) : (sg q).length = cm q := by
 unfold sg cm
 split
 ·rename_i h; rw [h]; rfl
 ·rename_i h; rw [show q % 2 = 0 from by omega]; rfl
theorem asc_app {a b : List Nat} (x : Asc a) (y : Asc b) : Asc (a ++ b) := fun c hc => (List.mem_append.mp hc).elim (x c) (y c)
theorem mem_take_asc {a : List Nat} (x : Asc a) (k : Nat) : Asc (a.take k) := fun c hc => x c (List.mem_of_mem_take hc)
theorem fg_asc (f q : Nat) : Asc (fg f q) := fun c hc => dig_asc (fg_dig f q c hc)
theorem tx_dig (f q j : Nat) : ∀ c ∈ tx f q j, Dig c := fun c hc => fg_dig f q c (List.mem_of_mem_drop (List.mem_of_mem_take hc))
theorem pcs_dig (f q : Nat) : ∀ p ∈ pcs f q, ∀ c ∈ p, Dig c := by
 intro p hp c hc
 rcases List.mem_cons.mp hp with rfl | hp
 ·exact fg_dig f q c (List.mem_of_mem_take hc)
 ·obtain ⟨j, _, rfl⟩ := List.mem_map.mp hp
  exact tx_dig f q j c hc
theorem tx_len {f q j : Nat} (h : j ≤ lp f) : (tx f q j).length = wd f := by
 unfold tx
 rw [List.length_take, List.length_drop, fg_len]
 unfold nf
 have : wd f * (lp f + 1) = wd f * j + wd f * (lp f + 1 - j) := by rw [← Nat.mul_add]; congr 1; omega
 have h2 : wd f * 1 ≤ wd f * (lp f + 1 - j) := Nat.mul_le_mul_left _ (by omega)
 rw [Nat.mul_comm j]
 omega
theorem rowT_asc {q : Nat} {p : List Nat} (h : ∀ c ∈ p, Dig c) : Asc (rowT q p) := by
 intro c hc
 obtain ⟨l, hl, hc⟩ := List.mem_flatten.mp hc
 obtain ⟨d, hd, rfl⟩ := List.mem_map.mp hl
 exact asc_app (asc_app (ld_asc q) (asc_one (dig_asc (h d hd)))) (sg_asc q) c hc
theorem rws_asc (f q : Nat) : ∀ r ∈ rws f q, Asc r := fun r hr => by
 obtain ⟨p, hp, rfl⟩ := List.mem_map.mp hr
 exact rowT_asc (pcs_dig f q p hp)
theorem brk_len (q : Nat) : (brk q).length ≤ 3 := by
 have := sg_len q
 have := ld_bd q
 unfold brk
 simp; omega
theorem nl_not {l : List Nat} (h : ∀ c ∈ l, c ≠ 10) : 10 ∉ l := fun q => h 10 q rfl
theorem rws_nl (f q : Nat) : ∀ r ∈ rws f q, 10 ∉ r := by
 intro r hr
 obtain ⟨p, hp, rfl⟩ := List.mem_map.mp hr
 refine nl_not fun c hc => ?_
 obtain ⟨l, hl, hc⟩ := List.mem_flatten.mp hc
 obtain ⟨d, hd, rfl⟩ := List.mem_map.mp hl
 have dg := pcs_dig f q p hp d hd
 rcases List.mem_append.mp hc with hc | hc
 ·rcases List.mem_append.mp hc with hc | hc
  ·have h : ∀ i < 4, ∀ c ∈ ldT.getD i [], c ≠ 10 := by decide
   unfold ld at hc
   split at hc
   ·cases hc
   ·exact h _ (by omega) c hc
  ·rw [List.mem_singleton.mp hc]; unfold Dig at dg; omega
 ·unfold sg at hc
  split at hc
  ·rw [List.mem_singleton.mp hc]; decide
  ·cases hc
noncomputable abbrev NoW (head mx : Int) (spl lead : List Nat) (texts : List (List Nat)) : Prop := (runC mx spl lead ⟨[], [], head⟩ texts).sz = 0 → lenP (nlP (runC mx spl lead ⟨[], [], head⟩ texts).ps) ≠ 0 → Txt.isspace (S (textP (nlP (runC mx spl lead ⟨[], [], head⟩ texts).ps))) = false
theorem tx0_len (f q : Nat) : (tx f q 0).length = wd f := tx_len (by omega)
theorem aln_len (f q : Nat) : (aln f q).length = 3 := by
 have c := du_bd f
 have a := wd_bd f
 have h : 2 * 2 ≤ wd f * (lp f + 1) := Nat.mul_le_mul a.1 (by omega)
 unfold aln
 rw [List.length_map, List.length_take, fg_len]
 unfold nf
 omega
theorem aln_asc (f q : Nat) : ∀ r ∈ aln f q, r.length = 2 ∧ Asc r ∧ 10 ∉ r := fun r hr => by
 obtain ⟨c, hc, rfl⟩ := List.mem_map.mp hr
 have dg := fg_dig f q c (List.mem_of_mem_take hc)
 refine ⟨rfl, asc_app (asc_one (dig_asc dg)) (asc_one (by decide)), nl_not fun d hd => ?_⟩
 simp at hd
 unfold Dig at dg
 omega
theorem TL_get {l : List (List Nat)} {i : Nat} {x : List Nat} (h : l[i]? = some x) : (TL l)[i]? = some (.str (S x)) := by
 rw [List.getElem?_map, h]; rfl
theorem TL_cut (l : List (List Nat)) (lo hi : Option Int) : cut (TL l) lo hi 1 = TL (cut l lo hi 1) := cut_map _ _ _ _ _
theorem ev_l {w : World} {n : Nat} {env : Env} {h : Heap} {e : Expr} {i j : List D} (x : EV w n env h e (.list i)) (q : i = j) : EV w n env h e (.list j) := q ▸ x
section
variable {X : XRel} {w : World} {n : Nat} {env : Env} {h₀ h h' : Heap} {F : Addr → Prop} {σ : List (Str × D)} {O : List Str}
theorem LV.nloc (lv : LV h₀ F env σ O h) {c : Addr} {o : Obj} (e : h.get? c = some o) (d : ∀ es ep, o.data ≠ .dict es ep) : c ≠ env.locals := fun z => by
 obtain ⟨m, o', es, ep, e', d', _⟩ := lv.ns
 rw [← z, e] at e'; cases e'; exact d _ _ d'
end
namespace KLVrenew
noncomputable def Claim0 (env : Env) (h₀ : Heap) (h : Heap) (h' : Heap) (F : Addr → Prop) (σ : List (Str × D)) (O : List Str) (y : Str) (v : Value) (l : List D) : Prop :=
 ∀ (lv : LV h₀ F env σ O h) (k : ∀ c o, c ≠ env.locals → h.get? c = some o → h'.get? c = some o) (hn : ∃ m, h.Ns env.locals m ∧ h'.Ns env.locals (fun z => if z = y then some v else m z)) (hy : env.kindOf y = some .local) (hv : VD h' v (.list l)) (hl : Lows l) (fr : ∀ a, v = .ref a → h.get? a = none), LV h₀ F env ((y, .list l) :: σ) (y :: less O y) h'
noncomputable abbrev Ty0 := (Env) × (Heap) × (Heap) × (Heap) × (Addr → Prop) × (List (Str × D)) × (List Str) × (Str) × (Value) × (List D)
noncomputable def C0 (p : Ty0) : Prop := Claim0 p.1 p.2.1 p.2.2.1 p.2.2.2.1 p.2.2.2.2.1 p.2.2.2.2.2.1 p.2.2.2.2.2.2.1 p.2.2.2.2.2.2.2.1 p.2.2.2.2.2.2.2.2.1 p.2.2.2.2.2.2.2.2.2
noncomputable def eps0 : Ty0 := @Classical.epsilon Ty0 ⟨((default : Env), (default : Heap), (default : Heap), (default : Heap), (fun _ => True), (default : List (Str × D)), (default : List Str), (default : Str), (default : Value), (default : List D))⟩ (fun p => ¬ C0 p)
noncomputable def env := eps0.1
noncomputable def h₀ := eps0.2.1
noncomputable def h := eps0.2.2.1
noncomputable def h' := eps0.2.2.2.1
noncomputable def F := eps0.2.2.2.2.1
noncomputable def σ := eps0.2.2.2.2.2.1
noncomputable def O := eps0.2.2.2.2.2.2.1
noncomputable def y := eps0.2.2.2.2.2.2.2.1
noncomputable def v := eps0.2.2.2.2.2.2.2.2.1
noncomputable def l := eps0.2.2.2.2.2.2.2.2.2
theorem main0 : Claim0 env h₀ h h' F σ O y v l := by
 intro lv k hn hy hv hl fr
 obtain ⟨m, hm, hm'⟩ := hn
 have on : ∀ {z u}, z ≠ y → At h env z u → At h' env z u := fun {z u} ne a => by
  rcases a with ⟨q, m1, n1, e⟩ | ⟨q, c, lk, o, g, d⟩
  ·refine .inl ⟨q, _, hm', ?_⟩
   have := n1.agree hm z
   rw [if_neg ne, ← this]; exact e
  ·exact .inr ⟨q, c, lk, o, k _ _ (lv.nloc g fun _ _ z => by rw [d] at z; cases z) g, d⟩
 have aty : At h' env y v := .inl ⟨hy, _, hm', if_pos rfl⟩
 have sq : SeqLe h h' := fun a o _ e d => k a o (lv.nloc e fun es ep z => by rcases d with ⟨_, _, d⟩ | ⟨_, d⟩ <;> (rw [d] at z; cases z)) e
 have bk : ∀ {z d u}, z ≠ y → σ.lookup z = some d → At h' env z u → At h env z u := fun {z d u} ne hl a => by
  obtain ⟨u', au, _⟩ := lv.rd z d hl
  exact (on ne au).uniq a ▸ au
 have lk : ∀ z, z ≠ y → ((y, D.list l) :: σ).lookup z = σ.lookup z := fun z hz => by rw [List.lookup_cons, beq_eq_false_iff_ne.mpr hz]
 have lky : ((y, D.list l) :: σ).lookup y = some (.list l) := by rw [List.lookup_cons, beq_self_eq_true]
 have old : ∀ {z a m}, z ≠ y → σ.lookup z = some (.list m) → At h' env z (.ref a) → v ≠ .ref a := fun {z a m} ne hz az q => by
  obtain ⟨vs, kk, e⟩ := lv.own_at hz (bk ne hz az)
  rw [fr a q] at e; cases e
 have bg : Big h' := by
  refine lv.big.but (c := env.locals) (fun a o ne e => k a o ne e) fun o vs e d => ?_
  obtain ⟨m, o', es, ep, e', d', _⟩ := lv.ns
  rw [e] at e'; cases e'; rw [d] at d'; cases d'
 refine ⟨fun c o f e => k c o (fun q => lv.fr (q ▸ f)) (lv.st c o f e), lv.fd, bg, ⟨_, hm'⟩, lv.fr, ?_, lv.inj, ?_, ?_, ?_, ?_⟩
 ·intro z c q lz
  obtain ⟨f, u, o, g, d⟩ := lv.cl z c q lz
  exact ⟨f, u, o, k _ _ (lv.nloc g fun _ _ z => by rw [d] at z; cases z) g, d⟩
 ·intro z d hz
  by_cases q : z = y
  ·subst q
   rw [lky] at hz; cases hz
   exact ⟨v, aty, hv⟩
  ·rw [lk z q] at hz
   obtain ⟨u, au, vd⟩ := lv.rd z d hz
   exact ⟨u, on q au, vd.mono sq⟩
 ·intro z d hz
  by_cases q : z = y
  ·subst q
   rw [lky] at hz; cases hz
   exact .inl (.inr ⟨_, rfl, hl⟩)
  ·rw [lk z q] at hz
   exact lv.fl z d hz
 ·intro x z a l1 m1 ne hx hz ax az
  by_cases q1 : x = y
  ·subst q1
   rw [lk z (Ne.symm ne)] at hz
   exact old (Ne.symm ne) hz az (aty.uniq ax)
  ·rw [lk x q1] at hx
   by_cases q2 : z = y
   ·subst q2
    exact old q1 hx ax (aty.uniq az)
   ·rw [lk z q2] at hz
    exact lv.af x z a l1 m1 ne hx hz (bk q1 hx ax) (bk q2 hz az)
 ·intro z a l1 hz hl1 az f
  by_cases q : z = y
  ·subst q
   obtain ⟨o, e⟩ := lv.dom f
   rw [fr a (aty.uniq az)] at e; cases e
  ·rw [lk z q] at hl1
   rcases List.mem_cons.mp hz with rfl | hz
   ·exact q rfl
   ·exact lv.ow z a l1 (List.mem_filter.mp hz).1 hl1 (bk q hl1 az) f
end KLVrenew
section
variable {X : XRel} {w : World} {n : Nat} {env : Env} {h₀ h h' : Heap} {F : Addr → Prop} {σ : List (Str × D)} {O : List Str}
theorem LV.renew {y : Str} {v : Value} {l : List D} (lv : LV h₀ F env σ O h) (k : ∀ c o, c ≠ env.locals → h.get? c = some o → h'.get? c = some o) (hn : ∃ m, h.Ns env.locals m ∧ h'.Ns env.locals (fun z => if z = y then some v else m z))
  (hy : env.kindOf y = some .local) (hv : VD h' v (.list l)) (hl : Lows l) (fr : ∀ a, v = .ref a → h.get? a = none) : LV h₀ F env ((y, .list l) :: σ) (y :: less O y) h' :=
 by_eps (C := KLVrenew.C0) _ KLVrenew.main0 (env, h₀, h, h', F, σ, O, y, v, l) lv k hn hy hv hl fr
theorem sx_comp {α β : Type} {a : α → D} {c : β → D} (ia : Imm a) (ic : Imm c) {g : α → β} {l : List α} {elt iter : Expr} {x y : Str} {px py pos spos : Pos} {scope : Scope} {cl : List (Str × Addr)} {fl kn : Bool} (fe : Fe env)
  (hi : ∀ h, LV h₀ F env σ O h → EI w n env h iter (l.map a) fl kn) (hz : l.length ≤ sizeLine) (hlo : ∀ y, Low (c y))
  (hclos : closureFor scope env = pure cl) (hy : env.kindOf y = some .local)
  (he : ∀ h, LV h₀ F env σ O h → ∀ y ∈ l, ∀ C h' m v, h.StaysIn h' → h'.Ns C m → m x = some v → VD h' v (a y) → EV w n (compEnvC scope cl C env) h' elt (c (g y)))
  (hsw : swapsWith (.ListComp elt [⟨.Name x px, iter, [], 0⟩] scope pos) (some (.Name y py)) spos.line env = pure true := by rfl)
  (hcell : ∀ y ∈ scope.names, y.2 ≠ .cell := by decide) (hkind : scope.kind = .function := by rfl)
  (hnames : ∀ y ∈ scope.names, y.2 = .local → scope.names.lookup y.1 = some .local := by decide) (hx : scope.names.lookup x = some .local := by rfl)
  (hs : ∀ x, foldedSetIterable iter env x = pure x := by intro _; rfl) :
  SX X w n env h₀ F (exec (.Assign [.Name y py] (.ListComp elt [⟨.Name x px, iter, [], 0⟩] scope pos) spos) env) σ O (.next ((y, .list (l.map fun y => c (g y))) :: σ) (y :: less O y)) := fun A E s Q ok lv p => by
 obtain ⟨m0, hm0⟩ := lv.ns
 refine wpAny_Assign_ListComp_free (fun _ => true) (fun v y => ∀ x, ia.R v x → x ∈ l → ic.R y (g x)) hsw hclos hcell hkind hnames hx hy (by rw [fe.kind]; rfl) (hi _ lv A E s _ ok.1 (stays_refl _) fun I h' tk fp P St W hS hfp hI hI2 k hP hfp2 _ => ?_) hs
 have nIL : env.locals ≠ I := fun q => by
  obtain ⟨o, es, ep, e, _⟩ := hm0
  rw [q, hI] at e; cases e
 refine ⟨I, fp, [I], (l.map a).length, (fun i v => i < (l.map a).length ∧ P i v), St, m0, rfl, ?_, by rw [List.length_map]; exact hz, hS, hfp, (fun q => nIL (List.mem_singleton.mp q)), hm0.keeps k, ⟨?_, ?_⟩, ?_⟩
 ·have W0 := W A ok.1.hd
  exact ⟨W0.sub, W0.frame, fun i s Q E hi st hQ => W0.item i s Q E hi st fun v h' tk hp => hQ v h' tk ⟨hi, hp⟩, W0.done, W0.self⟩
 ·intro C i v s3 m3 E' hC hPv hn hm hk htk
  exact wpAny_pure ⟨rfl, _, _, rfl, fun _ _ e => e⟩
 ·intro C i v s3 m3 E' hC hPv hp hn hm hk htk
  obtain ⟨hi', hPv⟩ := hPv
  obtain ⟨d, e1, e2⟩ := hP i v hi' hPv
  rw [List.getElem?_map] at e1
  obtain ⟨y, e3, rfl⟩ := Option.map_eq_some_iff.mp e1
  have hy : y ∈ l := List.mem_of_getElem? e3
  have k3 : s.heap.StaysIn s3.heap := fun c o e => hk c o (fun q => by
   rw [List.mem_singleton.mp q] at e
   rw [e] at hI; cases hI) (k _ _ e)
  refine he _ lv y hy C s3.heap m3 v k3 hn hm (ia.of _ _ _ (ia.to _ _ _ e2)) A E' s3 _ ok.1 (stays_refl _) fun r h4 t4 k4 v4 => ⟨fun x hx hxl => ?_, ?_⟩
  ·rw [← ia.uniq _ _ _ (ia.to _ _ _ e2) hx]
   exact ic.to _ _ _ v4
  ·exact ⟨h4, t4, rfl, k4⟩
 ·intro Dd h2 t2 ys vs hD hl hpl hlen hPv hF hn2 hk
  have k3 : ∀ c o, c ≠ env.locals → s.heap.get? c = some o → h2.get? c = some o := fun c o ne e => hk c o ne (fun q => by
   rw [List.mem_singleton.mp q] at e
   rw [e] at hI; cases hI) (k _ _ e)
  have hDs : s.heap.get? Dd = none := not_old k hD
  obtain ⟨kk, e⟩ := hpl
  have hDl : NT Dd := (lv.big.up k).nt hD
  obtain ⟨ysl⟩ := ys
  refine p { s with heap := h2, toks := t2 } (X.st _ _ _) (lv.renew k3 ⟨m0, hm0, hn2⟩ hy (.list hDl e (vds_paired ia ic (vs := vs) (l := l) ?_ (fun _ hx => hx) ?_ ?_)) (lows_map (fun z => hlo (g z)) l) fun a q => by cases q; exact hDs)
  ·have e0 : vs.filter (fun _ => true) = vs := List.filter_eq_self.mpr fun _ _ => rfl
   rw [e0] at hF
   exact hF
  ·simpa using hlen
  ·intro j v hv
   obtain ⟨hi', hp⟩ := hPv j v hv
   obtain ⟨d, e1, e2⟩ := hP j v hi' hp
   rw [List.getElem?_map] at e1
   obtain ⟨y, e3, rfl⟩ := Option.map_eq_some_iff.mp e1
   exact ⟨y, e3, ia.to _ _ _ e2⟩
end
theorem eic_tupleF {w : World} {n : Nat} {env : Env} {h : Heap} {e : Expr} {ds : List D} (hb : Big h) (he : EVF w n env h e (.tuple ds)) : EIc (fun c => c = .type "tuple_iterator") w n env h e ds true := fun A E s Q ok st hQ => by
 refine he A E s _ ok st fun v h1 t1 k1 v1 nw => ?_
 obtain ⟨a, _, vs, rfl, hl, e, sl⟩ := VD.tupleE v1
 have hne : a ≠ h1.objs.size := Nat.ne_of_lt (Heap.lt_size e)
 refine wpAny_pyIter_tuple ⟨_, e, rfl, _, rfl⟩ ?_
 refine hQ h1.objs.size _ t1 [h1.objs.size, a] (fun i v => vs.toArray[i]? = some v) (fun i h => h.IsTupleIter h1.objs.size a i ∧ h.IsTuple a vs.toArray) (fun A' hh => ?_) ⟨⟨_, get_push _ _, rfl, rfl⟩, ⟨_, stays_push _ _ _ _ e, rfl, _, rfl⟩⟩ ?_ (not_old k1 (fresh_size _)) (hb.up (stays_trans st k1)).size (stays_trans k1 (stays_push _ _)) ?_ ?_ ?_
 ·have := Walks.tuple (prog := PW) (w := w) hh h1.objs.size a hne vs.toArray
  have e3 : vs.toArray.size = ds.length := by rw [List.size_toArray, sl.length]
  rw [e3] at this
  exact this
 ·intro c hc
  rw [Heap.size_push]
  rcases List.mem_cons.mp hc with rfl | hc
  ·exact Nat.lt_succ_self _
  ·rcases List.mem_cons.mp hc with rfl | hc
   ·exact Nat.lt_succ_of_lt (Heap.lt_size e)
   ·cases hc
 ·intro i v hi hv
  rw [List.getElem?_toArray] at hv
  obtain ⟨y, e1, e2⟩ := sl.get (i := i) (d := ds[i]) (List.getElem?_eq_getElem hi)
  rw [hv] at e1; cases e1
  exact ⟨_, List.getElem?_eq_getElem hi, e2.keep (stays_push _ _)⟩
 ·intro c hc hci
  rcases List.mem_cons.mp hc with rfl | hc
  ·exact absurd rfl hci
  ·rcases List.mem_cons.mp hc with rfl | hc
   ·exact ⟨fun _ => nw _ rfl, hl, _, _, _, stays_push _ _ _ _ e, rfl⟩
   ·cases hc
 ·intro i h hS
  obtain ⟨⟨o, g, c, d⟩, _⟩ := hS
  exact ⟨o, _, g, d, by rw [c]; decide, c⟩
section
variable {X : XRel} {w : World} {n : Nat} {env : Env} {h₀ h h' : Heap} {F : Addr → Prop} {σ : List (Str × D)} {O : List Str}
theorem evf_cut_list {value : Expr} {lower upper step : Option Expr} {p pos : Pos} {x : List D} {lo hi st : Option Int} (hb : Big h) (ha : EV w n env h value (.list x)) (hl : PV w n env h lower lo) (hu : PV w n env h upper hi) (hs : PV w n env h step st) (h0 : st ≠ some 0) (hx : x.length ≤ sizeLine) :
  EVF w n env h (.Subscript value (.Slice lower upper step p) pos) (.list (cut x lo hi (st.getD 1))) := fun A E s Q ok stt hQ => by
 refine Subscript_ (ha A E s _ ok stt fun u h1 t1 k1 v1 => slice_eval hl hu hs ok (stays_trans stt k1) fun a h2 t2 l u' k k2 hsl e1 e2 e3 => ?_)
 obtain ⟨_, _, _, rfl, hl, e, sl⟩ := VD.listE v1
 obtain ⟨ops, eo⟩ := subscripted_ops (.Slice lower upper step p) (.ref _) (.ref a)
 subst e1 e2 e3
 obtain ⟨os, f1, f2, f3⟩ := hsl
 refine tail_any (T := "list") ⟨_, k2 _ _ e, rfl⟩ look_list (wpAny_getItem_list_slice ⟨_, k2 _ _ e, rfl, _, rfl⟩ ⟨os, f1, f2, f3⟩ (isPart_of l) (isPart_of u') (isPart_of k) h0 ?_ (by rw [List.size_toArray, sl.length]; exact hx)) eo
 refine hQ _ _ _ (stays_trans k1 (stays_trans k2 (stays_push _ _))) ?_ fun a q => by cases q; exact not_old (stays_trans k1 k2) (fresh_size _)
 rw [slicePick_cut]
 exact vd_new_list (hb.up (stays_trans stt (stays_trans k1 k2))) (vds_cut (sl.keep k2) _ _ _)
theorem go_tuple {M : Model} {A : Around} {E : Value → Shared → Prop} {s : Shared} {Q : Unit → Shared → Prop} {elts : List Expr} {k : Nat} {pos : Pos} {I : Addr} {v : Value} {o : Obj} {fs : Array Value} (e : s.heap.get? I = some o) (d : o.data = .fields fs) (c : o.cls = .type "tuple_iterator") (hq : Q () s) :
  wpAny M A (letOwnedTupleGo (.Tuple elts k pos) (.ref I) v) Q E s := by
 unfold letOwnedTupleGo
 cases v with
 | ref a =>
  refine wpAny_bind (wpAny_loadPart e ?_)
  rw [c, d]
  dsimp only
  rw [if_neg (by simp)]
  exact wpAny_pure hq
 | _ => exact wpAny_pure hq
theorem sx_for_pair {x y : Str} {px py tpos pos : Pos} {kk : Nat} {iter : Expr} {body : List Stmt} {ds : List (List Nat × Int)} {σ' : List (Str × D)} (fe : Fe env) (hsx : Stored env x) (hsy : Stored env y) (hx : x ∉ O) (hy : y ∉ O)
  (hi : ∀ h, LV h₀ F env σ O h → EVF w n env h iter (.tuple (ds.map fun p => .tuple [.str (S p.1), .int p.2]))) (h0 : Sub σ' σ)
  (turn : ∀ h₁ F', (∀ c, F c → F' c) → (∀ c, F' c → F c ∨ NT c) → (∀ c o, F c → h₀.get? c = some o → h₁.get? c = some o) → ∀ p ∈ ds, SX X w n env h₁ F' (execs body env) ((y, .int p.2) :: (x, .str (S p.1)) :: σ') O (.next σ' O))
  (hs : ∀ x, foldedSetIterable iter env x = pure x := by intro _; rfl) :
  SX X w n env h₀ F (exec (.For (.Tuple [.Name x px, .Name y py] kk tpos) iter body [] pos) env) σ O (.next σ' O) := by
 have ld : ∀ (i : Nat) d, (ds.map fun p => D.tuple [.str (S p.1), .int p.2])[i]? = some d → ∃ p ∈ ds, d = .tuple [.str (S p.1), .int p.2] := fun i d e => by
  rw [List.getElem?_map] at e
  obtain ⟨p, e1, rfl⟩ := Option.map_eq_some_iff.mp e
  exact ⟨p, List.mem_of_getElem? e1, rfl⟩
 refine sx_forG (tgt := .Tuple [.Name x px, .Name y py] kk tpos) (bnd := fun d => match d with | .tuple [a, c] => [(y, c), (x, a)] | _ => []) (fun _ => σ') _ none fe ?_ (fun h lv => eic_tupleF lv.big (hi h lv)) (fun A E s Q I v o fs e d c hq => go_tuple e d c hq) (.inl rfl) (fun i d e => ?_) h0 (hlen := .inl ⟨rfl, rfl⟩) (turn := fun h₁ F' a c t i d hi he => ?_) (hs := hs)
 ·intro h₁ F' i d A E s Q v ok he lv hv hQ
  obtain ⟨p, hp, rfl⟩ := ld i d he
  obtain ⟨a, m, vs, rfl, na, ea, sl⟩ := VD.tupleE hv
  refine assign_Tuple_tuple ok.hd ⟨_, ea, rfl, _, rfl⟩ (by rw [List.size_toArray, sl.length]; rfl) rfl fun h2 x2 => ?_
  have k2 := stays_ext x2
  have := assign_names (X := X) (w := w) (A := A) (E := E) (s := { s with heap := h2 }) (Q := Q) (ps := [(x, px), (y, py)]) fe (by intro z hz; simp at hz; rcases hz with rfl | rfl; exact hsx; exact hsy) (sl.keep k2) (.cons (.str _) (.cons (.int _) .nil)) rfl (lv.keep k2) fun s' x' l' => hQ s' (X.tr (X.st s h2 s.toks) x') (by
   have e : less (less O x) y = O := by rw [less_of hx, less_of hy]
   have l' : LV h₁ F' env _ (less (less O x) y) s'.heap := l'
   rw [e] at l'
   exact l')
  exact this
 ·obtain ⟨p, _, rfl⟩ := ld i d e
  exact .tuple (.cons (.str _) (.cons (.int _) .nil))
 ·obtain ⟨p, hp, rfl⟩ := ld i d he
  exact turn h₁ F' a c t p hp
end
section
variable {X : XRel} {w : World} {n : Nat} {env : Env} {h₀ h h' : Heap} {F : Addr → Prop} {σ : List (Str × D)} {O : List Str}
theorem sx_for_nt {x : Str} {px pos : Pos} {iter : Expr} {body : List Stmt} {ds : List D} {fr : Bool} {σ' : List (Str × D)} (fe : Fe env) (hk : Stored env x)
  (hi : ∀ h, LV h₀ F env σ O h → EI w n env h iter ds fr true) (hfr : fr = true ∨ O = []) (hlow : ∀ (i : Nat) d, ds[i]? = some d → Low d) (hx : x ∉ O) (h0 : Sub σ' σ)
  (turn : ∀ h₁ F', (∀ c, F c → F' c) → (∀ c, F' c → F c ∨ NT c) → (∀ c o, F c → h₀.get? c = some o → h₁.get? c = some o) → ∀ d ∈ ds, SX X w n env h₁ F' (execs body env) ((x, d) :: σ') O (.next σ' O))
  (hs : ∀ x, foldedSetIterable iter env x = pure x := by intro _; rfl) :
  SX X w n env h₀ F (exec (.For (.Name x px) iter body [] pos) env) σ O (.next σ' O) := by
 refine sx_forG (tgt := .Name x px) (bnd := fun d => [(x, d)]) (fun _ => σ') _ none fe ?_ (fun h lv => eic_of_ei (hi h lv)) (fun A E s Q I v o fs e d c hq => wpAny_pure hq) hfr hlow h0 (hlen := .inl ⟨rfl, rfl⟩) (turn := fun h₁ F' a c t i d hi he => turn h₁ F' a c t d (List.mem_of_getElem? he)) (hs := hs)
 intro h₁ F' i d A E s Q v ok he lv hv hQ
 refine wpAny_assign_Name (store_low fe lv hk hv (hlow i d he) fun h2 tk2 _ l3 => ?_)
 rw [less_of hx] at l3
 exact hQ _ (X.st _ _ _) l3
end
theorem cut_some {α : Type} (l : List α) (a b : Nat) (hab : a ≤ b) (ha : a ≤ l.length) : cut l (some a) (some b) 1 = (l.take b).drop a := by
 by_cases h : b ≤ l.length
 ·exact cut_mid l a b h hab
 ·have e : Builtin.Str.strSliceIndices (some (a : Int)) (some (b : Int)) 1 l.length = Builtin.Str.strSliceIndices (some (a : Int)) (some (l.length : Int)) 1 l.length := by
   unfold Builtin.Str.strSliceIndices
   simp only [show ((1 : Int) > 0) = True from by simp, if_true]
   rw [if_neg (by omega), if_neg (by omega)]
   congr 1
   omega
  have := cut_mid l a l.length (Nat.le_refl _) ha
  unfold cut at this ⊢
  rw [e, this, List.take_of_length_le (Nat.le_refl _), List.take_of_length_le (by omega)]
theorem whl_asc (f q : Nat) : ∀ r ∈ whl f q, Asc r ∧ 10 ∉ r ∧ r.length ≤ 221 := by
 intro r hr
 obtain ⟨p, hp, rfl⟩ := List.mem_map.mp hr
 have hp := List.mem_of_mem_drop (List.mem_of_mem_take hp)
 refine ⟨asc_app (rws_asc f q p hp) (asc_one (by decide)), nl_not fun c hc => ?_, ?_⟩
 ·rcases List.mem_append.mp hc with hc | hc
  ·intro q1; exact rws_nl f q p hp (q1 ▸ hc)
  ·rw [List.mem_singleton.mp hc]; decide
 ·obtain ⟨t, ht, rfl⟩ := List.mem_map.mp hp
  have hb := ld_bd q
  have hs := sg_len q
  have htl : t.length ≤ 55 := by
   rcases List.mem_cons.mp ht with rfl | ht
   ·rw [List.length_take, fg_len]; have := nf_bd f q; omega
   ·obtain ⟨j, _, rfl⟩ := List.mem_map.mp ht
    unfold tx
    rw [List.length_take, List.length_drop, fg_len]; have := nf_bd f q; omega
  have key : ∀ t : List Nat, (rowT q t).length ≤ 4 * t.length := by
   intro t
   induction t with
   | nil => simp [rowT]
   | cons c t ih =>
    have e : rowT q (c :: t) = (ld q ++ [c] ++ sg q) ++ rowT q t := by simp [rowT]
    rw [e]
    simp only [List.length_append, List.length_cons, List.length_nil]
    omega
  have := key t
  simp only [List.length_append, List.length_cons, List.length_nil]
  omega
theorem flat_asc {l : List (List Nat)} (h : ∀ r ∈ l, Asc r) : Asc l.flatten := fun c hc => by
 obtain ⟨r, hr, hc⟩ := List.mem_flatten.mp hc
 exact h r hr c hc
theorem jnd_asc (f q m : Nat) : ∀ r ∈ jnd f q m, Asc r ∧ 10 ∉ r := by
 intro r hr
 obtain ⟨i, _, rfl⟩ := List.mem_map.mp hr
 have hm : ∀ t ∈ ((whl f q).drop (i * m)).take m, t ∈ whl f q := fun t ht => List.mem_of_mem_drop (List.mem_of_mem_take ht)
 refine ⟨flat_asc fun t ht => (whl_asc f q t (hm t ht)).1, fun h => ?_⟩
 obtain ⟨t, ht, hc⟩ := List.mem_flatten.mp h
 exact (whl_asc f q t (hm t ht)).2.1 hc
theorem prt_ok (f q : Nat) : ∀ t ∈ prt f q, (ld q).length + t.length ≤ 9 ∧ Asc t := by
 intro t ht
 obtain ⟨p, hp, ht⟩ := List.mem_flatMap.mp ht
 have hp := List.mem_of_mem_drop (List.mem_of_mem_take hp)
 have dg := pcs_dig f q p hp
 have hb := ld_bd q
 have hs := sg_len q
 unfold prtOf at ht
 rcases List.mem_append.mp ht with ht | ht
 ·obtain ⟨c, hc, rfl⟩ := List.mem_map.mp ht
  exact ⟨by simp; omega, asc_app (asc_one (dig_asc (dg c (List.dropLast_subset p hc)))) (sg_asc q)⟩
 ·rw [List.mem_singleton.mp ht]
  refine ⟨by simp; omega, asc_app (asc_app (asc_one ?_) (sg_asc q)) (asc_one (by decide))⟩
  cases e : p.getLast? with
  | none => decide
  | some c => exact dig_asc (dg c (List.mem_of_getLast? e))
noncomputable def pc (f q k : Nat) : List Nat := (pcs f q).getD k []
noncomputable def repl (f q k : Nat) : List Nat := [50, 50, 57, 32, 97, 41, 32, 40] ++ ((mk q :: pc f q (k - 1)) ++ (mk q :: pc f q (k - 1))) ++ [mk q] ++ pc f q k ++ [mk q] ++ [41, 32, 40, 98, 41]
noncomputable def near (f q : Nat) : Nat → Int × List (Nat × Nat)
 | 0 => (2 * (wd f : Nat), du f)
 | i + 1 => match (near f q i).2 with
  | (a, c) :: r => if i + 1 = a then ((c : Nat), r) else near f q i
  | [] => near f q i
noncomputable def goodT (f q : Nat) : List Nat := [mk q, mk q, mk q] ++ tx f q 0 ++ [mk q]
noncomputable def spT (f q : Nat) : List (List Nat) := [goodT f q ++ [41], [41, 40] ++ goodT f q, [40] ++ goodT f q ++ [45, 41], [40] ++ (goodT f q).drop 1 ++ [41], [40] ++ [mk q] ++ goodT f q ++ [41], [40, 41]]
noncomputable def codeT : List (List Nat) := [[50, 50, 56], [49, 50, 57], [50, 50], []]
noncomputable def wayI (f q : Nat) : Int := ((((f % (lp f + 1) : Nat) : Int) - ((q % (lp f + 1) : Nat) : Int)) * (wd f : Nat)).fmod (rg f : Nat)
noncomputable def apI (f q : Nat) : Int := min (2 * (wd f : Nat)) (4 * min (wayI f q) ((rg f : Nat) - wayI f q))
theorem cmp_far {w : World} {n : Nat} {h : Heap} {k : Int} : Cmp w n h .NotEq (.tuple [.str (S (Str.ofString "far").cps.toList), .int k]) (.tuple [.str (S (Str.ofString "far").cps.toList), .int k]) false := by
 have hs : SeqAt.shaped (toP (.tuple [.str (S (Str.ofString "far").cps.toList), .int k])) = true := by
  have ha : Asc (Str.ofString "far").cps.toList := by
   intro c hc
   have : ∀ c ∈ (Str.ofString "far").cps.toList, c < 1000 := by decide +kernel
   exact this c hc
  show SeqAt.shaped (.tuple [.str (S _), .int k]) = true
  simp [SeqAt.shaped, PyData.canLay0, PyData.canLayAll0, PyData.depth, PyData.depthAll, strOk_of ha]
 have := cmp_neD (w := w) (n := n) (h := h) (a := .tuple [.str (S (Str.ofString "far").cps.toList), .int k]) (b := .tuple [.str (S (Str.ofString "far").cps.toList), .int k]) (.tuple (.cons (.str _) (.cons (.int _) .nil))) (.tuple (.cons (.str _) (.cons (.int _) .nil))) hs hs
 have q : PyData.eqv (toP (.tuple [.str (S (Str.ofString "far").cps.toList), .int k])) (toP (.tuple [.str (S (Str.ofString "far").cps.toList), .int k])) = true := by
  simp [toP, toPs, PyData.eqv, PyData.eqvAll]
 rw [q] at this
 exact this
theorem cmp_same {w : World} {n : Nat} {h : Heap} {x y : List Nat} (e : x = y) : Cmp w n h .NotEq (.str (S x)) (.str (S y)) false := by
 have := cmp_nes (w := w) (n := n) (h := h) (x := x) (y := y)
 rw [show (x != y) = false from by simp [e]] at this
 exact this
structure Fa (f q : Nat) : Prop where
 r1 : rowsOf (hw f q : Nat) (wi f q : Nat) (brk q) (ld q) (fgs f q) = rws f q
 n1 : NoW (hw f q : Nat) (wi f q : Nat) (brk q) (ld q) (fgs f q)
 r2 : rowsOf (un q : Nat) (un q : Nat) ((ld q).take 1 ++ [59]) [] ([] :: aln f q) = [[], [32] ++ (aln f q).getD 0 []] ++ (aln f q).drop 1
 n2 : NoW (un q : Nat) (un q : Nat) ((ld q).take 1 ++ [59]) [] ([] :: aln f q)
 p3 : ((pcs f q).drop 1).take 3 = [tx f q 0, tx f q 1, tx f q 2]
 lp2 : 2 ≤ lp f
 r3 : ∀ p ∈ [(brk q, lim1 f q), (59 :: (ld q).drop 1, hw f q)], rowsOf 0 (p.2 : Nat) p.1 (ld q) (prt f q) = jnd f q (mny f q p.2) ∧ NoW 0 (p.2 : Nat) p.1 (ld q) (prt f q)
 sl : ∀ p ∈ pcs f q, cut (rowT q p) (some ((ld q).length : Nat)) none (un q : Nat) = p
 told : ∀ k, 1 ≤ k → k ≤ lp f + 1 → ∃ port l r m parts, Told (repl f q k) port l r m parts ∧ PySem.intText? (S (pc f q k)) = some port ∧ Str.ofString (toString port) = S (pc f q k) ∧ port.natAbs.log2 < 1920
 lv : ∀ i < lp f, ∃ a c r, (near f q i).2 = (a, c) :: r ∧ (i + 1 = a → lev (tx f q 0) (tx f q (i + 1)) ((near f q i).1 - 1) = (c : Nat)) ∧ (i + 1 ≠ a → (near f q i).1 ≤ lev (tx f q 0) (tx f q (i + 1)) ((near f q i).1 - 1))
 ap : lev (tx f q (f % (lp f + 1))) (tx f q (q % (lp f + 1))) (apI f q) = apI f q
 sp : ∀ x ∈ spT f q, Ref ([50, 50, 57, 32] ++ x) "error_proto" 217
 cd : ∀ c ∈ codeT, Ref (c ++ [32, 40] ++ goodT f q ++ [41]) "error_reply" 205
end Mine
-- MF43
namespace Mine
namespace Klawwp
noncomputable def Claim0 (w : World) (A : Around) (E : Value → Shared → Prop) (s : Shared) (b : Heap) (v : Value) (sc : List Int) (f : Nat) (q : Nat) (Q : Value → Shared → Prop) : Prop :=
 ∀ (G : Gr w b) (bs : b.StaysIn s.heap) (hb0 : b.get? 140 = none ∧ b.get? 147 = none) (hbig : Big s.heap) (ok : Ok 60 A) (hA : A.frames = some []) (hv : VD s.heap v (.list (sc.map .int))) (hsc : sc.length ≤ 63) (hf : 15 + ((cut sc (some 0) none 2).map fun x => x.fmod 1000003).sum = (f : Int)) (hq : 740 + ((cut sc (some 1) none 2).map fun x => x.fmod 1000003).sum = (q : Int)) (fa : Fa f q) (hQ : ∀ s', RX s s' → StF s.heap (FT s.heap) s'.heap → Big s'.heap → Q (.bool true) s'), wpAny (model PW w) A (call (.ref 266) [v]) Q E s
noncomputable abbrev Ty0 := (World) × (Around) × (Value → Shared → Prop) × (Shared) × (Heap) × (Value) × (List Int) × (Nat) × (Nat) × (Value → Shared → Prop)
noncomputable def C0 (p : Ty0) : Prop := Claim0 p.1 p.2.1 p.2.2.1 p.2.2.2.1 p.2.2.2.2.1 p.2.2.2.2.2.1 p.2.2.2.2.2.2.1 p.2.2.2.2.2.2.2.1 p.2.2.2.2.2.2.2.2.1 p.2.2.2.2.2.2.2.2.2
noncomputable def eps0 : Ty0 := @Classical.epsilon Ty0 ⟨(aWorld 1, ({} : Around), (fun _ _ => True), ({} : Shared), (default : Heap), (default : Value), (default : List Int), (default : Nat), (default : Nat), (fun _ _ => True))⟩ (fun p => ¬ C0 p)
noncomputable def w := eps0.1
noncomputable def A := eps0.2.1
noncomputable def E := eps0.2.2.1
noncomputable def s := eps0.2.2.2.1
noncomputable def b := eps0.2.2.2.2.1
noncomputable def v := eps0.2.2.2.2.2.1
noncomputable def sc := eps0.2.2.2.2.2.2.1
noncomputable def f := eps0.2.2.2.2.2.2.2.1
noncomputable def q := eps0.2.2.2.2.2.2.2.2.1
noncomputable def Q := eps0.2.2.2.2.2.2.2.2.2
set_option maxHeartbeats 64000000 in
set_option tactic.hygienic true in
theorem main0 : Claim0 w A E s b v sc f q Q := by
 intro G bs hb0 hbig ok hA hv hsc hf hq fa hQ
 have hh := Eq.refl (PySem.Challenge.rw_xl0021_01, hd.heap_1)
 revert hh
 k_fill
 intro _
 have geu : nsIn (hd.heap_1 w.params) mainGlobals "_law_euclid" = some (some (.ref 247)) := by k_is
 have oeu : ∃ o fd, (hd.heap_1 w.params).lookup 247 = some o ∧ o.data = .func fd := ⟨_, _, by k_is, rfl⟩
 have gpa : nsIn (hd.heap_1 w.params) mainGlobals "parse229" = some (some (.ref 226)) := by k_is
 have opa : ∃ o fd, (hd.heap_1 w.params).lookup 226 = some o ∧ o.data = .func fd := ⟨_, _, by k_is, rfl⟩
 have gle : nsIn (hd.heap_1 w.params) mainGlobals "_levenshtein_distance" = some (some (.ref 240)) := by k_is
 have ole : ∃ o fd, (hd.heap_1 w.params).lookup 240 = some o ∧ o.data = .func fd := ⟨_, _, by k_is, rfl⟩
 refine' wpAny_call (enterC (x := Str.ofString "script") (d := .list (sc.map .int)) (n := 59) G bs hbig ok ?k1 ?k2 ?k3 hv ?k4 ?k5 ?k6 ?k7 ?k8 ?k9)
 case k1 => k_is
 case k2 => k_is
 case k3 => rfl
 case k4 => rfl
 case k5 => exact .inl (.inr ⟨_, rfl, lows_map (fun _ => .int _) _⟩)
 case k7 => rfl
 case k8 => rfl
 case k9 => rfl
 case k6 =>
  intro h₁ tk fe kp lv
  have hb : Bs b s.heap (FT s.heap) := fun c o e => ⟨⟨⟨o, bs c o e⟩, fun q => (by rw [q, hb0.1] at e; cases e), fun q => (by rw [q, hb0.2] at e; cases e)⟩, bs c o e⟩
  have z := sizeLine_eq
  refine (show SX (XW _) w 59 _ s.heap (FT s.heap) _ _ [] (.ret (.bool true) false) from ?_) _ _ _ _ ⟨ok.deeper, Around.frames_deeper hA⟩ lv ?_
  case refine_2 =>
   intro v s' x st bg hv _
   obtain rfl := VD.boolE hv
   obtain ⟨g1, e1, e2⟩ := x
   exact hQ s' ⟨g1, e1, e2⟩ st bg
  have hF0 : ∀ c, FT s.heap c → NT c := fun c f => f.2
  clear kp lv
  have hc1 := cut_map D.int sc (some 0) none 2
  have hc2 := cut_map D.int sc (some 1) none 2
  obtain ⟨hl1, hl2⟩ := slices_len hsc
  obtain ⟨rb1, rb2⟩ := rg_bd f
  obtain ⟨wb1, wb2, wb3⟩ := wd_bd f
  obtain ⟨lb1, ub1, ub2, cb1, ub3⟩ := ld_bd q
  obtain ⟨wib, rmb⟩ := wi_bd f q
  refine sx_cons (sx_assign (d := .int f) fe (.inl rfl) (fun h lv => ev_i (ev_add ev_int (ev_call (f := .builtin "sum") (ev_builtin fe G (hb.stays lv) g_sum b_sum (by decide) rfl)
   (av_one (EVF.ev (ev_comp (l := cut sc (some 0) none 2) (g := fun x : Int => x.fmod 1000003) (cl := []) immI immI lv.big (ei_list lv.big (ev_eq (ev_cut_list (lo := some 0) (hi := none) (st := some 2) lv.big (ev_name fe lv rfl) (pv_some ev_int) pv_none (pv_some ev_int) (by decide) (by simp; omega)) (by rw [Option.getD_some, hc1]))) (by omega) rfl
    (fun y hy C h' m v k hn hm hv => ev_mod (ev_local rfl rfl hn hm hv) ev_int (by decide)))))
   (cv_sumF lv.big (mods_ok _ (by omega))) (.inl ⟨_, rfl⟩))) (by rw [← hf])) (.int _)) ?_
  refine sx_cons (sx_assign (d := .int q) fe (.inr ⟨rfl, _, rfl⟩) (fun h lv => ev_i (ev_add ev_int (ev_call (f := .builtin "sum") (ev_builtin fe G (hb.stays lv) g_sum b_sum (by decide) rfl)
   (av_one (EVF.ev (ev_comp (l := cut sc (some 1) none 2) (g := fun x : Int => x.fmod 1000003) (cl := []) immI immI lv.big (ei_list lv.big (ev_eq (ev_cut_list (lo := some 1) (hi := none) (st := some 2) lv.big (ev_name fe lv rfl) (pv_some ev_int) pv_none (pv_some ev_int) (by decide) (by simp; omega)) (by rw [Option.getD_some, hc2]))) (by omega) rfl
    (fun y hy C h' m v k hn hm hv => ev_mod (ev_local rfl rfl hn hm hv) ev_int (by decide)))))
   (cv_sumF lv.big (mods_ok _ (by omega))) (.inl ⟨_, rfl⟩))) (by rw [← hq])) (.int _)) ?_
  refine sx_cons (sx_assign (d := .int (rg f : Nat)) fe (.inr ⟨rfl, _, rfl⟩) (fun h lv => ev_i (ev_add ev_int (ev_mod (ev_name fe lv rfl) ev_int (by decide))) (by rw [show (f : Int).fmod 6 = ((f % 6 : Nat) : Int) from fmod_nat f 6]; unfold rg; omega)) (.int _)) ?_
  have ew : (2 : Int) + ((f : Int).fdiv 6).fmod (min (rg f : Int) 6 - 2) = (wd f : Nat) := by
   rw [show (f : Int).fdiv 6 = ((f / 6 : Nat) : Int) from fdiv_nat f 6, show min (rg f : Int) 6 - 2 = ((min (rg f) 6 - 2 : Nat) : Int) from by omega, fmod_nat]
   unfold wd; omega
  refine sx_cons (sx_assign (d := .int (wd f : Nat)) fe (.inr ⟨rfl, _, rfl⟩) (fun h lv => ev_i (ev_add ev_int (ev_mod (ev_floordiv (ev_name fe lv rfl) ev_int (by decide) (PyProof.noPylong_small (by decide))) (ev_sub (ev_min fe G (hb.stays lv) (ev_name fe lv rfl) ev_int) ev_int) (by omega))) ew) (.int _)) ?_
  refine sx_cons (sx_assign (d := .int (cm q : Nat)) fe (.inl rfl) (fun h lv => ev_i (ev_mod (ev_name fe lv rfl) ev_int (by decide)) (fmod_nat q 2)) (.int _)) ?_
  have ei4 : ((q : Int).fdiv 2).fmod 4 = ((q / 2 % 4 : Nat) : Int) := by rw [show (q : Int).fdiv 2 = ((q / 2 : Nat) : Int) from fdiv_nat q 2]; exact fmod_nat _ 4
  have ldk : ∀ i, i < 4 → ([.str (S (Str.ofString " ").cps.toList), .str (S (Str.ofString "\t").cps.toList), .str (S (Str.ofString " \t").cps.toList), .str (S (Str.ofString "\t ").cps.toList)] : List D)[i]? = some (.str (S (ldT.getD i []))) := by
   intro i hi
   match i, hi with
   | 0, _ => rfl
   | 1, _ => rfl
   | 2, _ => rfl
   | 3, _ => rfl
  have hldT := ldT_len (q / 2 % 4) (by omega)
  refine sx_cons (sx_assign (d := .str (S (ld q))) fe (.inr ⟨rfl, _, rfl⟩) (fun h lv => ev_s (ev_muls (x := ldT.getD (q / 2 % 4) []) (ev_idx_tuple (k := q / 2 % 4) (ev_tuple lv.big (av_cons ev_strS (av_cons ev_strS (av_cons ev_strS (av_cons ev_strS av_nil)))) (by simp; omega)) (ev_mod (ev_floordiv (ev_name fe lv rfl) ev_int (by decide) (PyProof.noPylong_small (by decide))) ev_int (by decide)) (by rw [ei4]; exact seq_at (by simp; omega) (.inl rfl)) (ldk _ (by omega)) (by rw [ei4]; omega) (by rw [ei4]; omega)) (ev_sub ev_int (ev_name fe lv rfl)) (by omega) (by omega) (by omega)) ?_) (.str _)) ?_
  ·unfold ld cm
   by_cases h2 : q % 2 = 1
   ·rw [if_pos h2, h2]; rfl
   ·rw [if_neg h2, show q % 2 = 0 from by omega]
    show (List.replicate 1 _).flatten = _
    simp
  refine sx_cons (sx_assign (d := .str (S (sg q))) fe (.inr ⟨rfl, _, rfl⟩) (fun h lv => ev_s (ev_muls ev_strS (ev_name fe lv rfl) (by omega) (by omega) (by decide)) ?_) (.str _)) ?_
  ·unfold sg cm
   by_cases h2 : q % 2 = 1
   ·rw [if_pos h2, h2]; rfl
   ·rw [if_neg h2, show q % 2 = 0 from by omega]; rfl
  refine sx_cons (sx_assign (d := .int (un q : Nat)) fe (.inl rfl) (fun h lv => ev_i (ev_add (ev_add (ev_len fe G (hb.stays lv) (ev_name fe lv rfl) (by omega)) ev_int) (ev_name fe lv rfl)) (by rw [ub3]; omega)) (.int _)) ?_
  have e8 : ((q : Int).fdiv 8).fmod (un q : Nat) = ((q / 8 % un q : Nat) : Int) := by rw [show (q : Int).fdiv 8 = ((q / 8 : Nat) : Int) from fdiv_nat q 8]; exact fmod_nat _ _
  refine sx_cons (sx_assign (d := .int (wi f q : Nat)) fe (.inl rfl) (fun h lv => ev_i (ev_add (ev_mul (ev_name fe lv rfl) (ev_name fe lv rfl) (mul_ok (.inr (by omega)))) (ev_mod (ev_floordiv (ev_name fe lv rfl) ev_int (by decide) (PyProof.noPylong_small (by decide))) (ev_name fe lv rfl) (by omega))) (by rw [e8]; unfold wi; push_cast; rfl)) (.int _)) ?_
  have uw : un q * wd f ≤ 15 := Nat.le_trans (Nat.mul_le_mul ub2 wb2) (by decide)
  have uw4 : 4 ≤ un q * wd f := Nat.le_trans (by decide) (Nat.mul_le_mul ub1 wb1)
  have eh : (un q : Int) * (wd f : Nat) + 2 - 3 * (cm q : Nat) = ((un q * wd f + 2 - 3 * cm q : Nat) : Int) := by
   rw [Int.natCast_sub (by omega)]; push_cast; rfl
  have e32 : (q : Int).fdiv 32 = ((q / 32 : Nat) : Int) := fdiv_nat q 32
  refine sx_cons (sx_assign (d := .int (hw f q : Nat)) fe (.inl rfl) (fun h lv => ev_i (ev_mod (ev_floordiv (ev_name fe lv rfl) ev_int (by decide) (PyProof.noPylong_small (by decide))) (ev_sub (ev_add (ev_mul (ev_name fe lv rfl) (ev_name fe lv rfl) (mul_ok (.inr (by omega)))) ev_int) (ev_mul ev_int (ev_name fe lv rfl) (mul_ok (.inr (by decide))))) (by rw [eh]; omega)) (by rw [eh, e32, fmod_nat]; rfl)) (.int _)) ?_
  refine sx_cons (sx_assign (d := .int (rm f q : Nat)) fe (.inl rfl) (fun h lv => ev_i (ev_max fe G (hb.stays lv) ev_int (ev_floordiv (ev_sub (ev_name fe lv rfl) (ev_name fe lv rfl)) (ev_name fe lv rfl) (by omega) (PyProof.noPylong_small (by omega)))) (max_fdiv (by omega))) (.int _)) ?_
  obtain ⟨oo, ofd, oe1, oe2⟩ := oeu
  refine sx_cons (sx_assignF (l := dueD (du f)) fe (.inl rfl) (fun h lv => evf_fn fe G (hb.stays lv) geu oe1 oe2 (av_two (ev_name fe lv rfl) (ev_name fe lv rfl)) (eu_cv (n := 57) G (hb.stays lv) lv.big (r := rg f) (v := wd f) (by omega) (by omega) wb1 wb3) rfl) (lows_map (fun _ => .tuple (.cons (.int _) (.cons (.int _) .nil))) _)) ?_
  obtain ⟨db1, db2, lp1, lp9⟩ := du_bd f
  obtain ⟨de, dl⟩ := du_last f
  refine sx_cons (sx_assign (d := .int (lp f : Nat)) fe (.inl rfl) (fun h lv => ev_idx_tuple (k := 0) (ev_idx_neg (k := (du f).length - 1) (ev_name fe lv rfl) ev_neg1 (seq_at (by simp; omega) (.inr (by simp; omega))) dl (by decide) (by decide) (by simp; omega)) ev_int (by rfl) rfl (by decide) (by decide)) (.int _)) ?_
  have hnf := nf_bd f q
  have hfl := fg_len f q
  have enf : (rm f q : Int) + (wd f : Nat) * ((lp f : Nat) + 1) = (nf f q : Nat) := by unfold nf; push_cast; rfl
  have e256 : (q : Int).fdiv 256 = ((q / 256 : Nat) : Int) := fdiv_nat q 256
  refine sx_cons (sx_assign (d := .str (S (fg f q))) fe (.inr ⟨rfl, _, rfl⟩) (fun h lv => ev_s (ev_method_str (ev_strS (x := Str.ofString "")) (av_one (ev_eq (EVF.ev (ev_comp (l := List.range (nf f q)) (g := fun p : Nat => [49 + (q / 256 + p) % rg f]) (cl := [(Str.ofString "second", s.heap.objs.size + 1), (Str.ofString "ring", s.heap.objs.size + 2)]) immN immS lv.big
    (ei_eq (ei_rangeN (a := 0) (bb := nf f q) (c := 1) lv.big (ev_eq (ev_range1 fe G (hb.stays lv) lv.big (ev_i (ev_add (ev_name fe lv rfl) (ev_mul (ev_name fe lv rfl) (ev_add (ev_name fe lv rfl) ev_int) (mul_ok (.inr (by omega))))) enf)) rfl) (by decide) (by omega) (by decide) (by decide)) (by rw [steps_one])) (by rw [List.length_range]; omega) rfl
    (fun p hp C h' m v k hn hm hv => ev_call (f := .builtin "chr") (ev_builtin ⟨rfl, rfl, rfl⟩ G (stays_trans (hb.stays lv) k) g_chr b_chr (by decide) rfl) (av_one (ev_i (ev_add ev_int (ev_mod (ev_add (ev_floordiv (ev_free lv k rfl rfl rfl rfl rfl) ev_int (by decide) (PyProof.noPylong_small (by decide))) (ev_local rfl rfl hn hm hv)) (ev_free lv k rfl rfl rfl rfl rfl) (by omega))) (show _ = ((49 + (q / 256 + p) % rg f : Nat) : Int) from by rw [e256, ← Int.natCast_add, fmod_nat]; push_cast; rfl))) (cv_chr (by omega) (by have := Nat.mod_lt (q / 256 + p) (show 0 < rg f by omega); omega)) (.inl ⟨_, rfl⟩))))
    (by rw [TL_map]))) PySem.F.plainAttrs_str PySem.F.slot_str_join PySem.F.type_str_join (cv_join (join_ok (by decide) (by simp; omega) (by intro x hx; obtain ⟨p, _, rfl⟩ := List.mem_map.mp hx; simp)))) ?_) (.str _)) ?_
  ·have e : (fun p : Nat => [49 + (q / 256 + p) % rg f]) = (fun c : Nat => [c]) ∘ (fun p : Nat => 49 + (q / 256 + p) % rg f) := rfl
   show joinL [] _ = _
   rw [e, ← List.map_map]
   exact join_one _
  have ecnt : (nf f q - rm f q + wd f - 1) / wd f = lp f + 1 := by
   have e : nf f q - rm f q + wd f - 1 = wd f * (lp f + 1) + (wd f - 1) := by unfold nf; omega
   rw [e, Nat.mul_add_div (by omega), Nat.div_eq_of_lt (by omega), Nat.add_zero]
  have hlen1 : ∀ y ∈ steps (rm f q) (wd f) (lp f + 1), y + wd f ≤ nf f q := by
   intro y hy
   obtain ⟨i, hi, rfl⟩ := List.mem_map.mp hy
   have hi := List.mem_range.mp hi
   have : i * wd f + wd f ≤ wd f * (lp f + 1) := by
    rw [Nat.mul_comm i, ← Nat.mul_succ]
    exact Nat.mul_le_mul_left _ (by omega)
   unfold nf; omega
  refine sx_cons (sx_assignF (l := TL (pcs f q)) fe (.inl rfl) (fun h lv => evf_l (evf_addl (x := TL [(fg f q).take (rm f q)]) lv.big (ev_list lv.big (av_one (ev_s (ev_cut_str (lo := none) (hi := some (rm f q : Nat)) (ev_name fe lv rfl) pv_none (pv_some (ev_name fe lv rfl)) (by omega)) (cut_upto _ _))) (by simp; omega))
   (EVF.ev (ev_comp (l := steps (rm f q) (wd f) (lp f + 1)) (g := fun p : Nat => ((fg f q).drop p).take (wd f)) (cl := [(Str.ofString "wide", s.heap.objs.size + 3), (Str.ofString "figures", s.heap.objs.size + 6)]) immN immS lv.big
    (ei_eq (ei_rangeN (a := rm f q) (bb := nf f q) (c := wd f) lv.big (ev_eq (ev_range3 fe G (hb.stays lv) lv.big (ev_name fe lv rfl) (ev_i (ev_len fe G (hb.stays lv) (ev_name fe lv rfl) (by omega)) (by rw [hfl])) (ev_name fe lv rfl) (by omega) (by omega)) rfl) (by omega) (by omega) (by omega) (by omega)) (by rw [ecnt])) (by simp; omega) rfl
    (fun p hp C h' m v k hn hm hv => ev_s (ev_cut_str (lo := some (p : Nat)) (hi := some ((p + wd f : Nat) : Int)) (ev_free lv k rfl rfl rfl rfl rfl) (pv_some (ev_local rfl rfl hn hm hv)) (pv_some (ev_i (ev_add (ev_local rfl rfl hn hm hv) (ev_free lv k rfl rfl rfl rfl rfl)) (by omega))) (by omega)) (by
     have := hlen1 p hp
     rw [cut_mid _ _ _ (by omega) (by omega), List.drop_take]; congr 1; omega)))) (by simp; omega)) (by
   rw [TL_map]
   show TL _ ++ TL _ = TL (_ :: _)
   rw [← List.map_append]
   congr 1
   show _ :: List.map _ (List.map _ _) = _ :: List.map _ _
   rw [List.map_map]; rfl)) (lows_TL _)) ?_
  refine sx_cons (sx_assign (d := .str (S (brk q))) fe (.inl rfl) (fun h lv => ev_s (ev_addS (ev_addS (x := [59]) (y := (ld q).take 1) (ev_eq ev_strS rfl) (ev_s (ev_cut_str (lo := none) (hi := some ((1 : Nat) : Int)) (ev_name fe lv rfl) pv_none (pv_some ev_int) (by omega)) (cut_upto _ _)) (by simp; omega)) (ev_name fe lv rfl) (by have := sg_len q; simp; omega)) rfl) (.str _)) ?_
  have hsgl := sg_len q
  have hbl := brk_len q
  have hfgs : ∀ t ∈ fgs f q, (ld q).length + t.length ≤ 9 ∧ Asc t := by
   intro t ht
   obtain ⟨c, hc, rfl⟩ := List.mem_map.mp ht
   exact ⟨by simp; omega, asc_app (asc_one (dig_asc (fg_dig f q c hc))) (sg_asc q)⟩
  have hhw : hw f q < 17 := by
   have : hw f q < un q * wd f + 2 - 3 * cm q := Nat.mod_lt _ (by omega)
   omega
  have rne : rws f q ≠ [] := fun e => by
   have := congrArg List.length e
   simp [rws, pcs] at this
  refine sx_cons (sx_assignX (l := TL (rws f q)) fe (.inl rfl) (fa.r1 ▸ ex_rows (n := 19) (head := (hw f q : Nat)) (mx := (wi f q : Nat)) (spl := brk q) (lead := ld q) (texts := fgs f q) fe G hb hb0 hF0
   (fun h lv => av_cons (ev_name fe lv rfl) (av_cons (ev_name fe lv rfl) (av_cons (ev_name fe lv rfl) (av_cons (ev_name fe lv rfl) (av_cons (ev_eq (EVF.ev (ev_comp (l := fg f q) (g := fun c : Nat => [c] ++ sg q) (cl := [(Str.ofString "sign", s.heap.objs.size + 5)]) immC immS lv.big (ei_str lv.big (ev_name fe lv rfl)) (by omega) rfl
    (fun c hc C h' m v k hn hm hv => ev_addS (ev_local rfl rfl hn hm hv) (ev_free lv k rfl rfl rfl rfl rfl) (by simp; omega)))) (by rw [TL_map]; rfl)) av_nil)))))
   (by show (List.map _ _).length ≤ 300; rw [List.length_map]; omega) hfgs (ld_asc q) (by omega) (by omega) (by omega) fa.n1 (by rw [fa.r1]; exact rne) (by rw [fa.r1]; exact rws_nl f q)) (lows_TL _)) ?_
  have hpl : ∀ p ∈ pcs f q, p.length ≤ 55 := by
   intro p hp
   rcases List.mem_cons.mp hp with rfl | hp
   ·rw [List.length_take]; omega
   ·obtain ⟨j, _, rfl⟩ := List.mem_map.mp hp
    unfold tx
    rw [List.length_take]; omega
  refine sx_cons (sx_if_false (fun h lv => bv_cmp (ev_name fe lv rfl) (ev_eq (EVF.ev (ev_comp (l := pcs f q) (g := rowT q) (cl := [(Str.ofString "sign", s.heap.objs.size + 5), (Str.ofString "lead", s.heap.objs.size + 4)]) immS immS lv.big (ei_list lv.big (ev_name fe lv rfl)) (by simp [pcs]; omega) rfl
   (fun p hp C h' m v k hn hm hv => ev_s (ev_method_str (ev_strS (x := Str.ofString "")) (av_one (ev_eq (EVF.ev (ev_comp (l := p) (g := fun c : Nat => ld q ++ [c] ++ sg q) (cl := [(Str.ofString "sign", s.heap.objs.size + 5), (Str.ofString "lead", s.heap.objs.size + 4)]) immC immS (lv.big.up k) (ei_str (lv.big.up k) (ev_local rfl rfl hn hm hv)) (by
     have := hpl p hp
     omega) rfl
    (fun c hc C2 h2 m2 v2 k2 hn2 hm2 hv2 => ev_addS (ev_addS (ev_free lv (stays_trans k k2) rfl rfl rfl rfl rfl) (ev_local rfl rfl hn2 hm2 hv2) (by simp; omega)) (ev_free lv (stays_trans k k2) rfl rfl rfl rfl rfl) (by simp; omega)))) (congrArg D.list (TL_map _ _)))) PySem.F.plainAttrs_str PySem.F.slot_str_join PySem.F.type_str_join (cv_join (join_ok (by decide) (by have := hpl p hp; simp; omega) (by intro x hx; obtain ⟨c, _, rfl⟩ := List.mem_map.mp hx; simp; omega)))) (join_flat _)))) (congrArg D.list (TL_map _ _))) (cmp_texts (rws_asc f q) (rws_asc f q) rfl)) sx_nil) ?_
  refine sx_cons (show SX (XW _) w 59 _ s.heap (FT s.heap) _ _ _ (.next ((Str.ofString "alone", .list (TL (aln f q))) :: _) _) from (TL_map ((fg f q).take 3) fun c => [c] ++ [59]) ▸ sx_comp (l := (fg f q).take 3) (g := fun c : Nat => [c] ++ [59]) (cl := []) immC immS fe (fun h lv => ei_str lv.big (ev_s (ev_cut_str (lo := none) (hi := some ((3 : Nat) : Int)) (ev_name fe lv rfl) pv_none (pv_some ev_int) (by omega)) (cut_upto _ _))) (by rw [List.length_take]; omega) (fun _ => .str _) rfl rfl
   (fun h lv c hc C h' m v k hn hm hv => ev_addS (ev_local rfl rfl hn hm hv) (ev_eq ev_strS rfl) (by simp; omega))) ?_
  have hal := aln_len f q
  have hala := aln_asc f q
  obtain ⟨a0, a1, a2, ea⟩ : ∃ a0 a1 a2, aln f q = [a0, a1, a2] := by
   match aln f q, hal with
   | [x, y, z], _ => exact ⟨x, y, z, rfl⟩
  have ha0 := hala a0 (by rw [ea]; simp)
  have ha1 := hala a1 (by rw [ea]; simp)
  have ha2 := hala a2 (by rw [ea]; simp)
  have hr2 := fa.r2
  have hn2 := fa.n2
  rw [ea] at hr2 hn2
  have hr2 : rowsOf (un q : Nat) (un q : Nat) ((ld q).take 1 ++ [59]) [] [[], a0, a1, a2] = [[], [32] ++ a0, a1, a2] := hr2
  have asc4 : ∀ x ∈ [[], [32] ++ a0, a1, a2], Asc x := by
   intro x hx
   simp only [List.mem_cons, List.not_mem_nil, or_false] at hx
   rcases hx with rfl | rfl | rfl | rfl
   ·exact asc_nil
   ·exact asc_app (asc_one (by decide)) ha0.2.1
   ·exact ha1.2.1
   ·exact ha2.2.1
  refine sx_cons (sx_if_neX (d1 := .list (TL [[], [32] ++ a0, a1, a2])) (d2 := .list (TL [[], [32] ++ a0, a1, a2])) (hr2 ▸ ex_rows (n := 19) (head := (un q : Nat)) (mx := (un q : Nat)) (spl := (ld q).take 1 ++ [59]) (lead := []) (texts := [[], a0, a1, a2]) fe G hb hb0 hF0
   (fun h lv => av_cons (ev_name fe lv rfl) (av_cons (ev_name fe lv rfl) (av_cons (ev_addS (ev_s (ev_cut_str (lo := none) (hi := some ((1 : Nat) : Int)) (ev_name fe lv rfl) pv_none (pv_some ev_int) (by omega)) (cut_upto _ _)) (ev_eq ev_strS rfl) (by simp; omega)) (av_cons (ev_eq ev_strS rfl) (av_cons (ev_eq (ev_addl (x := TL [[]]) (y := TL (aln f q)) lv.big (ev_list lv.big (av_one (ev_eq ev_strS rfl)) (by simp; omega)) (ev_name fe lv rfl) (by simp; omega)) (by rw [ea]; rfl)) av_nil)))))
   (by simp) (by
    intro t ht
    simp only [List.mem_cons, List.not_mem_nil, or_false] at ht
    rcases ht with rfl | rfl | rfl | rfl
    ·exact ⟨by simp, asc_nil⟩
    ·exact ⟨by simp [ha0.1], ha0.2.1⟩
    ·exact ⟨by simp [ha1.1], ha1.2.1⟩
    ·exact ⟨by simp [ha2.1], ha2.2.1⟩) asc_nil (by simp; omega) (by omega) (by omega) hn2 (by rw [hr2]; simp) (by
    rw [hr2]
    intro r hr
    simp only [List.mem_cons, List.not_mem_nil, or_false] at hr
    rcases hr with rfl | rfl | rfl | rfl
    ·simp
    ·simpa using ha0.2.2
    ·exact ha1.2.2
    ·exact ha2.2.2))
   (fun h lv => ev_eq (ev_addl (x := TL [[], [32] ++ a0]) (y := TL [a1, a2]) lv.big (ev_list lv.big (av_two (ev_eq ev_strS rfl) (ev_addS (x := [32]) (y := a0) (ev_eq ev_strS rfl) (ev_idx_list (k := 0) (ev_name fe lv rfl) ev_int (seq_at (by simp [ea]) (.inl rfl)) (TL_get (by rw [ea]; rfl)) (by decide) (by decide)) (by simp; omega))) (by simp; omega))
    (ev_eq (ev_cut_list (lo := some ((1 : Nat) : Int)) (hi := none) (st := none) lv.big (ev_name fe lv rfl) (pv_some ev_int) pv_none pv_none (by decide) (by simp; omega)) (by rw [Option.getD_none, TL_cut, cut_from, ea]; rfl)) (by simp; omega)) rfl) (fun h => cmp_texts asc4 asc4 rfl) sx_nil) ?_
  refine sx_cons (sx_assignF (l := []) fe (.inl rfl) (fun h lv => evf_list lv.big av_nil (by decide)) .nil) ?_
  refine sx_weak (σ' := [(Str.ofString "parts", .list []), (Str.ofString "first", .int (f : Nat)), (Str.ofString "second", .int (q : Nat)), (Str.ofString "ring", .int (rg f : Nat)), (Str.ofString "wide", .int (wd f : Nat)), (Str.ofString "lead", .str (S (ld q))), (Str.ofString "sign", .str (S (sg q))), (Str.ofString "unit", .int (un q : Nat)), (Str.ofString "head", .int (hw f q : Nat)), (Str.ofString "due", .list (dueD (du f))), (Str.ofString "laps", .int (lp f : Nat)), (Str.ofString "pieces", .list (TL (pcs f q))), (Str.ofString "breaks", .str (S (brk q))), (Str.ofString "rows", .list (TL (rws f q)))]) (O' := [Str.ofString "parts", Str.ofString "due"]) ?_ (sub_cons rfl (sub_cons rfl (sub_cons rfl (sub_cons rfl (sub_cons rfl (sub_cons rfl (sub_cons rfl (sub_cons rfl (sub_cons rfl (sub_cons rfl (sub_cons rfl (sub_cons rfl (sub_cons rfl (sub_cons rfl sub_nil)))))))))))))) (by
   intro y l hy _
   simp only [List.mem_cons, List.not_mem_nil, or_false] at hy
   rcases hy with rfl | rfl <;> decide)
  have lp2 := fa.lp2
  have h3p : ((pcs f q).drop 1).take 3 = [tx f q 0, tx f q 1, tx f q 2] := fa.p3
  have htl : ∀ j, j ≤ lp f → (tx f q j).length = wd f := fun j hj => tx_len hj
  refine sx_cons (sx_for_all (ds := TL [tx f q 0, tx f q 1, tx f q 2]) (fun i => [(Str.ofString "parts", .list (TL (([tx f q 0, tx f q 1, tx f q 2].take i).flatMap (prtOf q)))), (Str.ofString "first", .int (f : Nat)), (Str.ofString "second", .int (q : Nat)), (Str.ofString "ring", .int (rg f : Nat)), (Str.ofString "wide", .int (wd f : Nat)), (Str.ofString "lead", .str (S (ld q))), (Str.ofString "sign", .str (S (sg q))), (Str.ofString "unit", .int (un q : Nat)), (Str.ofString "head", .int (hw f q : Nat)), (Str.ofString "due", .list (dueD (du f))), (Str.ofString "laps", .int (lp f : Nat)), (Str.ofString "pieces", .list (TL (pcs f q))), (Str.ofString "breaks", .str (S (brk q))), (Str.ofString "rows", .list (TL (rws f q)))]) fe (.inl rfl) (fun h lv => ei_listF lv.big (evf_l (evf_cut_list (lo := some ((1 : Nat) : Int)) (hi := some ((4 : Nat) : Int)) (st := none) lv.big (ev_name fe lv rfl) (pv_some ev_int) (pv_some ev_int) pv_none (by decide) (by simp [pcs]; omega)) (by
    rw [Option.getD_none, TL_cut, cut_mid _ _ _ (by simp [pcs]; omega) (by decide), List.drop_take, h3p]))) (.inl rfl) (fun i d hd => by
    obtain ⟨p, _, rfl⟩ := List.mem_map.mp (List.mem_of_getElem? hd)
    exact .str _) (by decide) (Sub.refl _) (fun h₁ F' a c i d hd => ?_)) ?_
  ·rw [List.getElem?_map] at hd
   obtain ⟨p, hp, rfl⟩ := Option.map_eq_some_iff.mp hd
   have hpl2 : p.length = wd f := by
    have := List.mem_of_getElem? hp
    simp only [List.mem_cons, List.not_mem_nil, or_false] at this
    rcases this with rfl | rfl | rfl <;> exact htl _ (by omega)
   have hil : i < 3 := by
    cases h : decide (i < 3) with
    | true => exact of_decide_eq_true h
    | false => rw [List.getElem?_eq_none (by simpa using of_decide_eq_false h)] at hp; cases hp
   have hpd : p.getLast? = p[p.length - 1]? := List.getLast?_eq_getElem? ..
   obtain ⟨z9, hz9⟩ : ∃ z9, p[p.length - 1]? = some z9 := ⟨_, List.getElem?_eq_getElem (by omega)⟩
   have hpt : prtOf q p = p.dropLast.map (fun c => [c] ++ sg q) ++ [[z9] ++ sg q ++ [59]] := by
    unfold prtOf
    rw [hpd, hz9]; rfl
   have hlsm : ((([tx f q 0, tx f q 1, tx f q 2].take i).flatMap (prtOf q))).length ≤ 15 := by
    have key : ∀ j, j ≤ lp f → (prtOf q (tx f q j)).length ≤ 5 := fun j hj => by
     unfold prtOf
     rw [List.length_append, List.length_map, List.length_dropLast, htl j hj]
     simp; omega
    have := key 0 (by omega)
    have := key 1 (by omega)
    have := key 2 (by omega)
    match i, hil with
    | 0, _ => simp
    | 1, _ => simp; omega
    | 2, _ => simp; omega
   refine sx_one (sx_post (sx_extend (r := TL (prtOf q p)) fe rfl (by decide) (fun h lv => evf_l (evf_addl (x := TL (p.dropLast.map fun c => [c] ++ sg q)) (y := TL [[z9] ++ sg q ++ [59]]) lv.big (ev_l (EVF.ev (ev_comp (l := p.dropLast) (g := fun c : Nat => [c] ++ sg q) (cl := [(Str.ofString "sign", s.heap.objs.size + 5)]) immC immS lv.big (ei_str lv.big (ev_s (ev_cut_str (lo := none) (hi := some (-((1 : Nat) : Int))) (ev_name fe lv rfl) pv_none (pv_some ev_neg1) (by omega)) (by rw [cut_neg _ _ (by decide), List.dropLast_eq_take]))) (by simp; omega) rfl
     (fun c hc C h' m v k hn hm hv => ev_addS (ev_local rfl rfl hn hm hv) (ev_free lv k rfl rfl rfl rfl rfl) (by simp; omega)))) (TL_map _ _))
     (ev_list lv.big (av_one (ev_addS (ev_addS (x := [z9]) (y := sg q) (ev_idx_str (k := p.length - 1) (ev_name fe lv rfl) ev_neg1 (seq_at (by omega) (.inr (by omega))) hz9 (by decide) (by decide)) (ev_name fe lv rfl) (by simp; omega)) (ev_eq ev_strS rfl) (by simp; omega))) (by simp; omega)) (by simp; omega)) (by rw [hpt]; simp)) (lows_TL _) (lows_TL _) (by
      have h9 : (prtOf q p).length ≤ 5 := by rw [hpt]; simp; omega
      simp only [List.length_map] at *; omega)) ?_ (fun _ _ q _ => q))
   have et : [tx f q 0, tx f q 1, tx f q 2].take (i + 1) = [tx f q 0, tx f q 1, tx f q 2].take i ++ [p] := by
    rw [List.take_add_one, hp]; rfl
   rw [et, List.flatMap_append]
   refine sub_cons ?_ (sub_cons rfl (sub_cons rfl (sub_cons rfl (sub_cons rfl (sub_cons rfl (sub_cons rfl (sub_cons rfl (sub_cons rfl (sub_cons rfl (sub_cons rfl (sub_cons rfl (sub_cons rfl (sub_cons rfl sub_nil)))))))))))))
   show some _ = some _
   simp [List.map_append]
  have eprt : [tx f q 0, tx f q 1, tx f q 2].flatMap (prtOf q) = prt f q := by unfold prt; rw [h3p]
  rw [show [tx f q 0, tx f q 1, tx f q 2].take (TL [tx f q 0, tx f q 1, tx f q 2]).length = [tx f q 0, tx f q 1, tx f q 2] from rfl, eprt]
  have hrwl : (rws f q).length = lp f + 2 := by simp [rws, pcs]
  have hwl : whl f q = (((rws f q).drop 1).take 3).map fun r => r ++ [59] := rfl
  refine sx_cons (sx_assignF (l := TL (whl f q)) fe (.inr ⟨rfl, _, rfl⟩) (fun h lv => evf_l (ev_comp (l := ((rws f q).drop 1).take 3) (g := fun r : List Nat => r ++ [59]) (cl := []) immS immS lv.big (ei_list lv.big (ev_l (ev_cut_list (lo := some ((1 : Nat) : Int)) (hi := some ((4 : Nat) : Int)) (st := none) lv.big (ev_name fe lv rfl) (pv_some ev_int) (pv_some ev_int) pv_none (by decide) (by simp; omega)) (by
    rw [Option.getD_none, TL_cut, cut_some _ _ _ (by decide) (by omega), List.drop_take]))) (by simp; omega) rfl
   (fun r hr C h' m v k hn hm hv => ev_addS (ev_local rfl rfl hn hm hv) (ev_eq ev_strS rfl) (by
    have := (whl_asc f q (r ++ [59]) (hwl ▸ List.mem_map_of_mem hr)).2.2
    simp at this ⊢
    omega))) (TL_map _ _)) (lows_TL _)) ?_
  refine sx_cons (sx_assign (d := .int (ful f q : Nat)) fe (.inl rfl) (fun h lv => ev_i (ev_add (ev_mul (ev_name fe lv rfl) (ev_name fe lv rfl) (mul_ok (.inr (by omega)))) ev_int) (by unfold ful; push_cast; rfl)) (.int _)) ?_
  refine sx_weak (σ' := [(Str.ofString "whole", .list (TL (whl f q))), (Str.ofString "full", .int (ful f q : Nat)), (Str.ofString "parts", .list (TL (prt f q))), (Str.ofString "first", .int (f : Nat)), (Str.ofString "second", .int (q : Nat)), (Str.ofString "ring", .int (rg f : Nat)), (Str.ofString "wide", .int (wd f : Nat)), (Str.ofString "lead", .str (S (ld q))), (Str.ofString "sign", .str (S (sg q))), (Str.ofString "unit", .int (un q : Nat)), (Str.ofString "head", .int (hw f q : Nat)), (Str.ofString "due", .list (dueD (du f))), (Str.ofString "laps", .int (lp f : Nat)), (Str.ofString "pieces", .list (TL (pcs f q))), (Str.ofString "breaks", .str (S (brk q))), (Str.ofString "rows", .list (TL (rws f q)))]) (O' := [Str.ofString "due"]) ?_ (sub_cons rfl (sub_cons rfl (sub_cons rfl (sub_cons rfl (sub_cons rfl (sub_cons rfl (sub_cons rfl (sub_cons rfl (sub_cons rfl (sub_cons rfl (sub_cons rfl (sub_cons rfl (sub_cons rfl (sub_cons rfl (sub_cons rfl (sub_cons rfl sub_nil)))))))))))))))) (by
   intro y l hy _
   simp only [List.mem_cons, List.not_mem_nil, or_false] at hy
   rcases hy with rfl
   decide)
  have hful : 5 ≤ ful f q ∧ ful f q ≤ 16 := by unfold ful; omega
  have hl1m : lim1 f q < 48 := by
   have : q / 32 % (2 * ful f q) < 2 * ful f q := Nat.mod_lt _ (by omega)
   unfold lim1; omega
  have el1 : (ful f q : Int) + ((q : Int).fdiv 32).fmod (2 * (ful f q : Nat)) = (lim1 f q : Nat) := by
   rw [e32, show (2 : Int) * (ful f q : Nat) = ((2 * ful f q : Nat) : Int) from by push_cast; rfl, fmod_nat]
   unfold lim1; push_cast; rfl
  have hprt : (prt f q).length ≤ 15 := by
   have key : ∀ j, j ≤ lp f → (prtOf q (tx f q j)).length ≤ 5 := fun j hj => by
    unfold prtOf
    rw [List.length_append, List.length_map, List.length_dropLast, htl j hj]
    simp; omega
   have := key 0 (by omega)
   have := key 1 (by omega)
   have := key 2 (by omega)
   rw [← eprt]
   simp; omega
  refine sx_cons (sx_for_pair (ds := [(brk q, lim1 f q), (59 :: (ld q).drop 1, hw f q)].map fun p => (p.1, ((p.2 : Nat) : Int))) (σ' := [(Str.ofString "whole", .list (TL (whl f q))), (Str.ofString "full", .int (ful f q : Nat)), (Str.ofString "parts", .list (TL (prt f q))), (Str.ofString "first", .int (f : Nat)), (Str.ofString "second", .int (q : Nat)), (Str.ofString "ring", .int (rg f : Nat)), (Str.ofString "wide", .int (wd f : Nat)), (Str.ofString "lead", .str (S (ld q))), (Str.ofString "sign", .str (S (sg q))), (Str.ofString "unit", .int (un q : Nat)), (Str.ofString "head", .int (hw f q : Nat)), (Str.ofString "due", .list (dueD (du f))), (Str.ofString "laps", .int (lp f : Nat)), (Str.ofString "pieces", .list (TL (pcs f q))), (Str.ofString "breaks", .str (S (brk q))), (Str.ofString "rows", .list (TL (rws f q)))]) fe (.inl rfl) (.inl rfl) (by decide) (by decide)
   (fun h lv => evf_tuple lv.big (av_two (ev_tuple lv.big (av_two (ev_name fe lv rfl) (ev_i (ev_add (ev_name fe lv rfl) (ev_mod (ev_floordiv (ev_name fe lv rfl) ev_int (by decide) (PyProof.noPylong_small (by decide))) (ev_mul ev_int (ev_name fe lv rfl) (mul_ok (.inr (by omega)))) (by omega))) el1)) (by simp; omega)) (ev_tuple lv.big (av_two (ev_addS (x := [59]) (ev_eq ev_strS rfl) (ev_s (ev_cut_str (lo := some ((1 : Nat) : Int)) (hi := none) (ev_name fe lv rfl) (pv_some ev_int) pv_none (by omega)) (cut_from _ _)) (by simp; omega)) (ev_name fe lv rfl)) (by simp; omega))) (by simp; omega)) (Sub.refl _) (fun h₁ F' ff fn fs p hp => ?_)) ?_
  ·obtain ⟨⟨spl, lim⟩, hpm, rfl⟩ := List.mem_map.mp hp
   obtain ⟨r3, n3⟩ := fa.r3 _ hpm
   have hlim : lim < 48 ∧ spl.length ≤ 3 := by
    simp only [List.mem_cons, List.not_mem_nil, or_false, Prod.mk.injEq] at hpm
    rcases hpm with ⟨rfl, rfl⟩ | ⟨rfl, rfl⟩
    ·exact ⟨hl1m, hbl⟩
    ·exact ⟨by omega, by simp; omega⟩
   have hb' := hb.up ff fs
   have hF' : ∀ c, F' c → NT c := fun c hc => (fn c hc).elim (hF0 c) id
   dsimp only
   have hm1 : 1 ≤ mny f q lim := by unfold mny; omega
   have hm2 : mny f q lim ≤ 48 := by
    have : lim / ful f q ≤ lim := Nat.div_le_self _ _
    unfold mny; omega
   refine sx_cons (sx_assign (d := .int (mny f q lim : Nat)) fe (.inr ⟨rfl, _, rfl⟩) (fun h lv => ev_i (ev_max fe G (hb'.stays lv) ev_int (ev_floordiv (ev_name fe lv rfl) (ev_name fe lv rfl) (by omega) (PyProof.noPylong_small (by omega)))) (by rw [fdiv_nat]; unfold mny; omega)) (.int _)) ?_
   have hj := jnd_asc f q (mny f q lim)
   refine sx_one (sx_if_neX (d1 := .list (TL (jnd f q (mny f q lim)))) (d2 := .list (TL (jnd f q (mny f q lim)))) (r3 ▸ ex_rows (n := 19) (head := 0) (mx := (lim : Nat)) (spl := spl) (lead := ld q) (texts := prt f q) fe G hb' hb0 hF'
    (fun h lv => av_cons ev_int (av_cons (ev_name fe lv rfl) (av_cons (ev_name fe lv rfl) (av_cons (ev_name fe lv rfl) (av_cons (ev_name fe lv rfl) av_nil)))))
    (by omega) (prt_ok f q) (ld_asc q) (by omega) (by decide) (by decide) n3 (by
     rw [r3]
     intro e
     have := congrArg List.length e
     unfold jnd at this
     rw [List.length_map, List.length_range, List.length_nil] at this
     have h0 : 0 < (3 + mny f q lim - 1) / mny f q lim := Nat.div_pos (by omega) (by omega)
     dsimp only at this
     omega) (by rw [r3]; exact fun r hr => (hj r hr).2))
    (fun h lv => ev_l (EVF.ev (ev_comp (l := steps 0 (mny f q lim) ((3 - 0 + mny f q lim - 1) / mny f q lim)) (g := fun k : Nat => ((((whl f q).take (k + mny f q lim)).drop k).flatten)) (cl := [(Str.ofString "whole", s.heap.objs.size + 7), (Str.ofString "many", s.heap.objs.size + 8)]) immN immS lv.big
     (ei_rangeN (a := 0) (bb := 3) (c := mny f q lim) lv.big (ev_eq (ev_range3 fe G (hb'.stays lv) lv.big ev_int ev_int (ev_name fe lv rfl) (by omega) (by omega)) rfl) (by decide) (by decide) (by omega) (by omega)) (by
      have : (3 - 0 + mny f q lim - 1) / mny f q lim ≤ 3 - 0 + mny f q lim - 1 := Nat.div_le_self _ _
      rw [List.length_map, List.length_range]; omega) rfl
     (fun k hk C h' m v kk hn hm hv => ev_s (ev_method_str (ev_strS (x := Str.ofString "")) (av_one (ev_l (ev_cut_list (lo := some (k : Nat)) (hi := some ((k + mny f q lim : Nat) : Int)) (st := none) (lv.big.up kk) (ev_free lv kk rfl rfl rfl rfl rfl) (pv_some (ev_local rfl rfl hn hm hv)) (pv_some (ev_i (ev_add (ev_local rfl rfl hn hm hv) (ev_free lv kk rfl rfl rfl rfl rfl)) (by omega))) pv_none (by decide) (by simp [whl]; omega)) (by
       have : k ≤ 3 := by
        obtain ⟨i, hi, rfl⟩ := List.mem_map.mp hk
        have hi := List.mem_range.mp hi
        rw [show 3 - 0 + mny f q lim - 1 = 2 + mny f q lim from by omega, Nat.add_div_right _ (by omega)] at hi
        have h1 := Nat.div_mul_le_self 2 (mny f q lim)
        have h2 : i * mny f q lim ≤ 2 / mny f q lim * mny f q lim := Nat.mul_le_mul_right _ (by omega)
        omega
       rw [Option.getD_none, TL_cut, cut_some _ _ _ (by omega) (by simp [whl]; omega)]))) PySem.F.plainAttrs_str PySem.F.slot_str_join PySem.F.type_str_join (cv_join (join_ok (by decide) (by simp [whl]; omega) (fun x hx => by
        have := (whl_asc f q x (List.mem_of_mem_take (List.mem_of_mem_drop hx))).2.2
        omega)))) (join_flat _)))) (by
      rw [TL_map]
      congr 1
      unfold jnd
      rw [List.map_map]
      refine List.map_congr_left fun i _ => ?_
      show (((whl f q).take (0 + i * mny f q lim + mny f q lim)).drop (0 + i * mny f q lim)).flatten = _
      rw [List.drop_take, Nat.add_sub_cancel_left, Nat.zero_add])) (fun h => cmp_texts (fun r hr => (hj r hr).1) (fun r hr => (hj r hr).1) rfl) (sx_post sx_nil (sub_cons rfl (sub_cons rfl (sub_cons rfl (sub_cons rfl (sub_cons rfl (sub_cons rfl (sub_cons rfl (sub_cons rfl (sub_cons rfl (sub_cons rfl (sub_cons rfl (sub_cons rfl (sub_cons rfl (sub_cons rfl (sub_cons rfl (sub_cons rfl sub_nil)))))))))))))))) (fun _ _ q _ => q)))
  have e2304 : ((q : Int).fdiv 2304).fmod 5 = ((q / 2304 % 5 : Nat) : Int) := by rw [show (q : Int).fdiv 2304 = ((q / 2304 : Nat) : Int) from fdiv_nat q 2304]; exact fmod_nat _ 5
  have hmk : ∀ i, i < 5 → (Str.ofString "|!0x/").cps.toList[i]? = some ([124, 33, 48, 120, 47].getD i 0) := by decide +kernel
  have hmkl : (Str.ofString "|!0x/").cps.toList.length = 5 := by decide +kernel
  refine sx_cons (sx_assign (d := .str (S [mk q])) fe (.inl rfl) (fun h lv => ev_idx_str (k := q / 2304 % 5) ev_strS (ev_mod (ev_floordiv (ev_name fe lv rfl) ev_int (by decide) (PyProof.noPylong_small (by decide))) ev_int (by decide)) (by rw [e2304, hmkl]; exact seq_at (by omega) (.inl rfl)) (hmk _ (by omega)) (by rw [e2304]; omega) (by rw [e2304]; omega)) (.str _)) ?_
  refine sx_cons (sx_assignF (l := []) fe (.inl rfl) (fun h lv => evf_list lv.big av_nil (by decide)) .nil) ?_
  refine sx_weak (σ' := [(Str.ofString "texts", .list (TL ((List.range 0).map (tx f q)))), (Str.ofString "mark", .str (S [mk q])), (Str.ofString "first", .int (f : Nat)), (Str.ofString "second", .int (q : Nat)), (Str.ofString "ring", .int (rg f : Nat)), (Str.ofString "wide", .int (wd f : Nat)), (Str.ofString "lead", .str (S (ld q))), (Str.ofString "unit", .int (un q : Nat)), (Str.ofString "due", .list (dueD (du f))), (Str.ofString "laps", .int (lp f : Nat)), (Str.ofString "pieces", .list (TL (pcs f q))), (Str.ofString "rows", .list (TL (rws f q)))]) (O' := [Str.ofString "texts", Str.ofString "due"]) ?_ (sub_cons rfl (sub_cons rfl (sub_cons rfl (sub_cons rfl (sub_cons rfl (sub_cons rfl (sub_cons rfl (sub_cons rfl (sub_cons rfl (sub_cons rfl (sub_cons rfl (sub_cons rfl sub_nil)))))))))))) (by
   intro y l hy _
   simp only [List.mem_cons, List.not_mem_nil, or_false] at hy
   rcases hy with rfl | rfl <;> decide)
  have hpcl : (pcs f q).length = lp f + 2 := by simp [pcs]
  have hrwl2 : (rws f q).length = lp f + 2 := by simp [rws, pcs]
  have hpc : ∀ k, k ≤ lp f + 1 → (pcs f q)[k]? = some (pc f q k) ∧ (rws f q)[k]? = some (rowT q (pc f q k)) ∧ pc f q k ∈ pcs f q := fun k hk => by
   have h : k < (pcs f q).length := by omega
   have e : (pcs f q)[k]? = some (pc f q k) := by
    unfold pc
    rw [List.getD_eq_getElem?_getD, List.getElem?_eq_getElem h]; rfl
   exact ⟨e, by unfold rws; rw [List.getElem?_map, e]; rfl, List.mem_of_getElem? e⟩
  have hpx : ∀ i, i ≤ lp f → pc f q (i + 1) = tx f q i := fun i hi => by
   have e := (hpc (i + 1) (by omega)).1
   unfold pcs at e
   rw [List.getElem?_cons_succ, List.getElem?_map, List.getElem?_range (by omega)] at e
   injection e with e
   exact e.symm
  have hpcb : ∀ p ∈ pcs f q, p.length ≤ 55 ∧ (rowT q p).length ≤ 220 := by
   intro p hp
   have h1 : p.length ≤ 55 := by
    rcases List.mem_cons.mp hp with rfl | hp
    ·rw [List.length_take]; omega
    ·obtain ⟨j, _, rfl⟩ := List.mem_map.mp hp
     unfold tx
     rw [List.length_take]; omega
   refine ⟨h1, ?_⟩
   have key : ∀ t : List Nat, (rowT q t).length ≤ 4 * t.length := by
    intro t
    induction t with
    | nil => simp [rowT]
    | cons c t ih =>
     have e : rowT q (c :: t) = (ld q ++ [c] ++ sg q) ++ rowT q t := by simp [rowT]
     rw [e]
     simp only [List.length_append, List.length_cons, List.length_nil]
     omega
   have := key p
   omega
  obtain ⟨po, pfd, po1, po2⟩ := opa
  refine sx_cons (sx_for_all (ds := ND (steps 1 1 (lp f + 1))) (fun i => [(Str.ofString "texts", .list (TL ((List.range i).map (tx f q)))), (Str.ofString "mark", .str (S [mk q])), (Str.ofString "first", .int (f : Nat)), (Str.ofString "second", .int (q : Nat)), (Str.ofString "ring", .int (rg f : Nat)), (Str.ofString "wide", .int (wd f : Nat)), (Str.ofString "lead", .str (S (ld q))), (Str.ofString "unit", .int (un q : Nat)), (Str.ofString "due", .list (dueD (du f))), (Str.ofString "laps", .int (lp f : Nat)), (Str.ofString "pieces", .list (TL (pcs f q))), (Str.ofString "rows", .list (TL (rws f q)))]) fe (.inl rfl) (fun h lv => ei_eq (ei_rangeN (a := 1) (bb := lp f + 2) (c := 1) lv.big (ev_eq (ev_range2 fe G (hb.stays lv) lv.big ev_int (ev_add (ev_name fe lv rfl) ev_int)) rfl) (by decide) (by omega) (by decide) (by decide)) (by
    rw [show (lp f + 2 - 1 + 1 - 1) / 1 = lp f + 1 from by rw [Nat.div_one]; omega])) (.inl rfl) (fun i d hd => by
    obtain ⟨p, _, rfl⟩ := List.mem_map.mp (List.mem_of_getElem? hd)
    exact .int _) (by decide) (Sub.refl _) (fun h₁ F' ff fs i d hd => ?_)) ?_
  ·rw [List.getElem?_map] at hd
   obtain ⟨k, hk, rfl⟩ := Option.map_eq_some_iff.mp hd
   obtain ⟨i', hi1, rfl⟩ : ∃ i', i < lp f + 1 ∧ k = 1 + i := by
    rw [List.getElem?_map] at hk
    obtain ⟨j, hj, rfl⟩ := Option.map_eq_some_iff.mp hk
    have hil : i < lp f + 1 := by
     cases h : decide (i < lp f + 1) with
     | true => exact of_decide_eq_true h
     | false => rw [List.getElem?_eq_none (by simpa using of_decide_eq_false h)] at hj; cases hj
    rw [List.getElem?_range hil] at hj
    cases hj
    exact ⟨0, hil, by omega⟩
   have hb' := hb.up ff fs
   obtain ⟨port, l, r, m, parts, T, hit, hst, hlog⟩ := fa.told (1 + i) (by omega) (by omega)
   obtain ⟨pe, re, pm⟩ := hpc (1 + i) (by omega)
   obtain ⟨pe0, re0, pm0⟩ := hpc i (by omega)
   have b1 := hpcb _ pm
   have b0 := hpcb _ pm0
   have hsl1 := fa.sl _ pm
   have hsl0 := fa.sl _ pm0
   have ek : (((1 + i : Nat) : Int)) - 1 = (i : Nat) := by omega
   have eun : 1 < (un q : Int) := by omega
   refine sx_cons (sx_assign (d := .str (S (mk q :: pc f q i))) fe (.inl rfl) (fun h lv => ev_addS (x := [mk q]) (y := pc f q i) (ev_name fe lv rfl) (ev_s (ev_cut_str_step (x := rowT q (pc f q i)) (lo := some ((ld q).length : Nat)) (hi := none) (c := (un q : Nat)) (ev_idx_list (k := i) (ev_name fe lv rfl) (ev_i (ev_sub (ev_name fe lv rfl) ev_int) ek) (seq_at (by simp; omega) (.inl rfl)) (TL_get re0) (by omega) (by omega)) (pv_some (ev_len fe G (hb'.stays lv) (ev_name fe lv rfl) (by omega))) pv_none (ev_name fe lv rfl) (by omega) eun (by rw [hsl0]; omega)) hsl0) (by simp; omega)) (.str _)) ?_
   have erep : repl f q (1 + i) = [50, 50, 57, 32, 97, 41, 32, 40] ++ ((mk q :: pc f q i) ++ (mk q :: pc f q i)) ++ [mk q] ++ pc f q (1 + i) ++ [mk q] ++ [41, 32, 40, 98, 41] := by
    unfold repl
    rw [show 1 + i - 1 = i from by omega]
   refine sx_cons (sx_assign (d := .tuple [.str (S (Str.ofString "far").cps.toList), .int port]) fe (.inl rfl) (fun h lv => ev_fn fe G (hb'.stays lv) gpa po1 po2 (av_two (ev_s (ev_addS (y := [41, 32, 40, 98, 41]) (ev_addS (ev_addS (ev_addS (ev_addS (x := [50, 50, 57, 32, 97, 41, 32, 40]) (ev_eq ev_strS rfl) (ev_s (ev_muls (x := mk q :: pc f q i) (ev_name fe lv rfl) ev_int (by decide) (by decide) (by simp; omega)) (show _ = (mk q :: pc f q i) ++ (mk q :: pc f q i) from by simp [List.replicate])) (by simp; omega)) (ev_name fe lv rfl) (by simp; omega)) (ev_s (ev_cut_str_step (x := rowT q (pc f q (1 + i))) (lo := some ((ld q).length : Nat)) (hi := none) (c := (un q : Nat)) (ev_idx_list (k := 1 + i) (ev_name fe lv rfl) (ev_name fe lv rfl) (seq_at (by simp; omega) (.inl rfl)) (TL_get re) (by omega) (by omega)) (pv_some (ev_len fe G (hb'.stays lv) (ev_name fe lv rfl) (by omega))) pv_none (ev_name fe lv rfl) (by omega) eun (by rw [hsl1]; omega)) hsl1) (by simp; omega)) (ev_name fe lv rfl) (by simp; omega)) (ev_eq ev_strS rfl) (by simp; omega)) erep.symm) (ev_tuple lv.big (av_two ev_strS ev_int) (by simp; omega))) (parse_cv (n := 57) G (hb'.stays lv) lv.big T).cv rfl) (.tuple (.cons (.str _) (.cons (.int _) .nil)))) ?_
   have hst' : Str.ofString (toString port) = S (tx f q i) := by rw [hst, ← hpx i (by omega), Nat.add_comm]
   refine sx_cons (sx_append (d := .str (S (tx f q i))) fe rfl (by decide) (fun h lv => ev_eq (ev_call (f := .type "str") (ev_builtin fe G (hb'.stays lv) g_str b_str (by decide) rfl) (av_one (ev_idx_tuple (k := 1) (ev_name fe lv rfl) ev_int (by rfl) rfl (by decide) (by decide))) (cv_str_int hlog) (.inr (.inl ⟨_, rfl⟩))) (by rw [hst'])) (.str _) (lows_TL _) (by simp; omega)) ?_
   have et : TL ((List.range i).map (tx f q)) ++ [D.str (S (tx f q i))] = TL ((List.range (i + 1)).map (tx f q)) := by
    rw [List.range_succ]; simp
   rw [et]
   have hpi : pc f q (1 + i) = tx f q i := by rw [← hpx i (by omega), Nat.add_comm]
   refine sx_one (sx_if_false (fun h lv => bv_eq (bv_or2 (bv_cmp (ev_name fe lv rfl) (ev_tuple lv.big (av_two ev_strS (ev_call (f := .type "int") (ev_builtin fe G (hb'.stays lv) g_int b_int (by decide) rfl) (av_one (ev_idx_list (k := 1 + i) (ev_name fe lv rfl) (ev_name fe lv rfl) (seq_at (by simp; omega) (.inl rfl)) (TL_get pe) (by omega) (by omega))) (cv_int_str hit (by omega)) (.inr (.inl ⟨_, rfl⟩)))) (by simp; omega)) (cmp_far (k := port)))
    (fun _ => bv_cmp (ev_idx_neg (k := i) (c := .str (S (tx f q i))) (ev_name fe lv rfl) ev_neg1 (seq_at (by simp) (.inr (by simp; omega))) (TL_get (by rw [List.getElem?_map, List.getElem?_range (by omega)]; rfl)) (by decide) (by decide) (by simp; omega)) (ev_idx_list (k := 1 + i) (ev_name fe lv rfl) (ev_name fe lv rfl) (seq_at (by simp; omega) (.inl rfl)) (TL_get pe) (by omega) (by omega)) cmp_nes)) (by rw [hpi]; simp)) (sx_post sx_nil (sub_cons rfl (sub_cons rfl (sub_cons rfl (sub_cons rfl (sub_cons rfl (sub_cons rfl (sub_cons rfl (sub_cons rfl (sub_cons rfl (sub_cons rfl (sub_cons rfl (sub_cons rfl sub_nil)))))))))))) (fun _ _ q _ => q)))
  have estl : (ND (steps 1 1 (lp f + 1))).length = lp f + 1 := by simp
  rw [estl]
  refine sx_cons (sx_assign (d := .int (2 * (wd f : Nat))) fe (.inl rfl) (fun h lv => ev_mul ev_int (ev_name fe lv rfl) (mul_ok (.inr (by decide)))) (.int _)) ?_
  refine sx_weak (σ' := [(Str.ofString "best", .int (near f q 0).1), (Str.ofString "due", .list (dueD (near f q 0).2)), (Str.ofString "mark", .str (S [mk q])), (Str.ofString "first", .int (f : Nat)), (Str.ofString "second", .int (q : Nat)), (Str.ofString "ring", .int (rg f : Nat)), (Str.ofString "wide", .int (wd f : Nat)), (Str.ofString "laps", .int (lp f : Nat)), (Str.ofString "texts", .list (TL ((List.range (lp f + 1)).map (tx f q))))]) (O' := [Str.ofString "due"]) ?_ (sub_cons rfl (sub_cons rfl (sub_cons rfl (sub_cons rfl (sub_cons rfl (sub_cons rfl (sub_cons rfl (sub_cons rfl (sub_cons rfl sub_nil))))))))) (by
   intro y l hy _
   simp only [List.mem_cons, List.not_mem_nil, or_false] at hy
   rcases hy with rfl
   decide)
  have htx : ∀ i, i ≤ lp f → (TL ((List.range (lp f + 1)).map (tx f q)))[i]? = some (.str (S (tx f q i))) := fun i hi => TL_get (by rw [List.getElem?_map, List.getElem?_range (by omega)]; rfl)
  have htxl : (TL ((List.range (lp f + 1)).map (tx f q))).length = lp f + 1 := by simp
  obtain ⟨lo, lfd, lo1, lo2⟩ := ole
  have hnl : ∀ i, ((near f q i).2).length ≤ 3 := by
   intro i
   induction i with
   | zero => exact db2
   | succ i ih =>
    unfold near
    split
    ·rename_i a c r e
     rw [e] at ih
     simp at ih
     split
     ·show r.length ≤ 3; omega
     ·rw [e]; simp; omega
    ·exact ih
  refine sx_cons (sx_for_all (ds := ND (steps 1 1 (lp f))) (fun i => [(Str.ofString "best", .int (near f q i).1), (Str.ofString "due", .list (dueD (near f q i).2)), (Str.ofString "mark", .str (S [mk q])), (Str.ofString "first", .int (f : Nat)), (Str.ofString "second", .int (q : Nat)), (Str.ofString "ring", .int (rg f : Nat)), (Str.ofString "wide", .int (wd f : Nat)), (Str.ofString "laps", .int (lp f : Nat)), (Str.ofString "texts", .list (TL ((List.range (lp f + 1)).map (tx f q))))]) fe (.inl rfl) (fun h lv => ei_eq (ei_rangeN (a := 1) (bb := lp f + 1) (c := 1) lv.big (ev_eq (ev_range2 fe G (hb.stays lv) lv.big ev_int (ev_add (ev_name fe lv rfl) ev_int)) rfl) (by decide) (by omega) (by decide) (by decide)) (by
    rw [show (lp f + 1 - 1 + 1 - 1) / 1 = lp f from by rw [Nat.div_one]; omega])) (.inl rfl) (fun i d hd => by
    obtain ⟨p, _, rfl⟩ := List.mem_map.mp (List.mem_of_getElem? hd)
    exact .int _) (by decide) (Sub.refl _) (fun h₁ F' ff fs i d hd => ?_)) ?_
  ·rw [List.getElem?_map] at hd
   obtain ⟨k, hk, rfl⟩ := Option.map_eq_some_iff.mp hd
   obtain ⟨hi1, rfl⟩ : i < lp f ∧ k = i + 1 := by
    rw [List.getElem?_map] at hk
    obtain ⟨j, hj, rfl⟩ := Option.map_eq_some_iff.mp hk
    have hil : i < lp f := by
     cases h : decide (i < lp f) with
     | true => exact of_decide_eq_true h
     | false => rw [List.getElem?_eq_none (by simpa using of_decide_eq_false h)] at hj; cases hj
    rw [List.getElem?_range hil] at hj
    cases hj
    exact ⟨hil, by omega⟩
   have hb' := hb.up ff fs
   obtain ⟨a, c, r, en, h1, h2⟩ := fa.lv i hi1
   have hnl := hnl i
   have es : near f q (i + 1) = if i + 1 = a then (((c : Nat) : Int), r) else near f q i := by
    show (match (near f q i).2 with | (a, c) :: r => if i + 1 = a then (((c : Nat) : Int), r) else near f q i | [] => near f q i) = _
    rw [en]
   rw [en] at hnl
   simp only [List.length_cons] at hnl
   have ed : dueD (near f q i).2 = .tuple [.int (a : Nat), .int (c : Nat)] :: dueD r := by rw [en]; rfl
   rw [ed, es]
   refine sx_cons (sx_assign (d := .int (lev (tx f q 0) (tx f q (i + 1)) ((near f q i).1 - 1))) fe (.inl rfl) (fun h lv => ev_fn fe G (hb'.stays lv) gle lo1 lo2 (av_three (ev_idx_list (k := 0) (ev_name fe lv rfl) ev_int (seq_at (by rw [htxl]; omega) (.inl rfl)) (htx 0 (by omega)) (by decide) (by decide)) (ev_idx_list (k := i + 1) (ev_name fe lv rfl) (ev_name fe lv rfl) (seq_at (by rw [htxl]; omega) (.inl rfl)) (htx (i + 1) (by omega)) (by omega) (by omega)) (ev_sub (ev_name fe lv rfl) ev_int)) (lev_cv (n := 56) G (hb'.stays lv) lv.big (tx_dig f q 0) (tx_dig f q (i + 1)) (by rw [htl 0 (by omega), htl (i + 1) (by omega)]) (by rw [htl 0 (by omega)]; omega)).cv rfl) (.int _)) ?_
   by_cases e : i + 1 = a
   ·rw [if_pos e]
    refine sx_one (sx_if_true (fun h lv => bv_eq (bv_cmp (ev_name fe lv rfl) (ev_idx_tuple (k := 0) (ev_idx_list (k := 0) (ev_name fe lv rfl) ev_int (seq_at (by simp) (.inl rfl)) rfl (by decide) (by decide)) ev_int (by rfl) rfl (by decide) (by decide)) cmp_eq) (by simp; omega)) ?_)
    refine sx_cons (sx_pop0 (x := Str.ofString "due") (l := dueD r) fe (.inl rfl) rfl (by decide) (lows_map (fun _ => .tuple (.cons (.int _) (.cons (.int _) .nil))) _) (by simp; omega) (by decide)) ?_
    refine sx_one (sx_if_false (fun h lv => bv_eq (bv_cmp (ev_name fe lv rfl) (ev_name fe lv rfl) cmp_ne) (by rw [h1 e]; simp)) (sx_post sx_nil (sub_cons rfl (sub_cons rfl (sub_cons rfl (sub_cons rfl (sub_cons rfl (sub_cons rfl (sub_cons rfl (sub_cons rfl (sub_cons rfl sub_nil))))))))) (fun _ _ q _ => q)))
   ·rw [if_neg e]
    refine sx_one (sx_if_false (fun h lv => bv_eq (bv_cmp (ev_name fe lv rfl) (ev_idx_tuple (k := 0) (ev_idx_list (k := 0) (ev_name fe lv rfl) ev_int (seq_at (by simp) (.inl rfl)) rfl (by decide) (by decide)) ev_int (by rfl) rfl (by decide) (by decide)) cmp_eq) (by simp; omega)) ?_)
    refine sx_one (sx_if_false (fun h lv => bv_eq (bv_cmp (ev_name fe lv rfl) (ev_name fe lv rfl) cmp_lt) (by have := h2 e; simp; omega)) (sx_post sx_nil (sub_cons rfl (sub_cons (show some _ = some _ from by rw [ed]) (sub_cons rfl (sub_cons rfl (sub_cons rfl (sub_cons rfl (sub_cons rfl (sub_cons rfl (sub_cons rfl sub_nil))))))))) (fun _ _ q _ => q)))
  refine sx_weak (σ' := [(Str.ofString "mark", .str (S [mk q])), (Str.ofString "first", .int (f : Nat)), (Str.ofString "second", .int (q : Nat)), (Str.ofString "ring", .int (rg f : Nat)), (Str.ofString "wide", .int (wd f : Nat)), (Str.ofString "laps", .int (lp f : Nat)), (Str.ofString "texts", .list (TL ((List.range (lp f + 1)).map (tx f q))))]) (O' := []) ?_ (sub_cons rfl (sub_cons rfl (sub_cons rfl (sub_cons rfl (sub_cons rfl (sub_cons rfl (sub_cons rfl sub_nil))))))) (fun _ _ h _ => nomatch h)
  refine sx_cons (sx_two (d := .int ((f % (lp f + 1) : Nat) : Int)) (e := .int ((q % (lp f + 1) : Nat) : Int)) fe (.inl rfl) (.inl rfl) (fun h lv => ev_tuple lv.big (av_two (ev_i (ev_mod (ev_name fe lv rfl) (ev_add (ev_name fe lv rfl) ev_int) (by omega)) (fmod_nat f (lp f + 1))) (ev_i (ev_mod (ev_name fe lv rfl) (ev_add (ev_name fe lv rfl) ev_int) (by omega)) (fmod_nat q (lp f + 1)))) (by simp; omega)) (.int _) (.int _)) ?_
  have hon : f % (lp f + 1) < lp f + 1 := Nat.mod_lt _ (by omega)
  have hot : q % (lp f + 1) < lp f + 1 := Nat.mod_lt _ (by omega)
  refine sx_cons (sx_assign (d := .int (wayI f q)) fe (.inl rfl) (fun h lv => ev_mod (ev_mul (ev_sub (ev_name fe lv rfl) (ev_name fe lv rfl)) (ev_name fe lv rfl) (mul_ok (.inl (by omega)))) (ev_name fe lv rfl) (by omega)) (.int _)) ?_
  refine sx_cons (sx_assign (d := .int (apI f q)) fe (.inl rfl) (fun h lv => ev_min fe G (hb.stays lv) (ev_mul ev_int (ev_name fe lv rfl) (mul_ok (.inr (by decide)))) (ev_mul ev_int (ev_min fe G (hb.stays lv) (ev_name fe lv rfl) (ev_sub (ev_name fe lv rfl) (ev_name fe lv rfl))) (mul_ok (.inr (by decide))))) (.int _)) ?_
  refine sx_cons (sx_if_false (fun h lv => bv_eq (bv_cmp (ev_fn fe G (hb.stays lv) gle lo1 lo2 (av_three (ev_idx_list (k := f % (lp f + 1)) (ev_name fe lv rfl) (ev_name fe lv rfl) (seq_at (by rw [htxl]; omega) (.inl rfl)) (htx _ (by omega)) (by omega) (by omega)) (ev_idx_list (k := q % (lp f + 1)) (ev_name fe lv rfl) (ev_name fe lv rfl) (seq_at (by rw [htxl]; omega) (.inl rfl)) (htx _ (by omega)) (by omega) (by omega)) (ev_name fe lv rfl)) (lev_cv (n := 56) G (hb.stays lv) lv.big (tx_dig f q _) (tx_dig f q _) (by rw [htl _ (by omega), htl _ (by omega)]) (by rw [htl _ (by omega)]; omega)).cv rfl) (ev_name fe lv rfl) cmp_ne) (by rw [fa.ap]; simp)) sx_nil) ?_
  have htx0 := htl 0 (by omega)
  refine sx_cons (sx_assign (d := .str (S (goodT f q))) fe (.inl rfl) (fun h lv => ev_addS (x := [mk q, mk q, mk q] ++ tx f q 0) (y := [mk q]) (ev_addS (ev_s (ev_muls (x := [mk q]) (ev_name fe lv rfl) ev_int (by decide) (by decide) (by simp)) (show _ = [mk q, mk q, mk q] from by simp [List.replicate])) (ev_idx_list (k := 0) (ev_name fe lv rfl) ev_int (seq_at (by rw [htxl]; omega) (.inl rfl)) (htx 0 (by omega)) (by decide) (by decide)) (by simp; omega)) (ev_name fe lv rfl) (by simp; omega)) (.str _)) ?_
  have hgl : (goodT f q).length ≤ 9 := by unfold goodT; simp; omega
  have hspl : ∀ x ∈ spT f q, x.length ≤ 15 := by
   intro x hx
   simp only [spT, List.mem_cons, List.not_mem_nil, or_false] at hx
   rcases hx with rfl | rfl | rfl | rfl | rfl | rfl <;> simp <;> omega
  refine sx_cons (sx_for_nt (ds := TL (spT f q)) (σ' := [(Str.ofString "good", .str (S (goodT f q))), (Str.ofString "mark", .str (S [mk q]))]) fe (.inl rfl) (fun h lv => ei_tupleF lv.big (evf_tuple lv.big (av_cons (ev_addS (ev_name fe lv rfl) (ev_eq ev_strS rfl) (by simp; omega)) (av_cons (ev_addS (x := [41, 40]) (ev_eq ev_strS rfl) (ev_name fe lv rfl) (by simp; omega)) (av_cons (ev_addS (y := [45, 41]) (ev_addS (x := [40]) (ev_eq ev_strS rfl) (ev_name fe lv rfl) (by simp; omega)) (ev_eq ev_strS rfl) (by simp; omega)) (av_cons (ev_addS (y := [41]) (ev_addS (x := [40]) (ev_eq ev_strS rfl) (ev_s (ev_cut_str (lo := some ((1 : Nat) : Int)) (hi := none) (ev_name fe lv rfl) (pv_some ev_int) pv_none (by omega)) (cut_from _ _)) (by simp; omega)) (ev_eq ev_strS rfl) (by simp; omega)) (av_cons (ev_addS (y := [41]) (ev_addS (ev_addS (x := [40]) (ev_eq ev_strS rfl) (ev_name fe lv rfl) (by simp; omega)) (ev_name fe lv rfl) (by simp; omega)) (ev_eq ev_strS rfl) (by simp; omega)) (av_cons (ev_eq ev_strS rfl) av_nil)))))) (by show 6 ≤ _; omega))) (.inl rfl) (fun i d hd => by
    obtain ⟨p, _, rfl⟩ := List.mem_map.mp (List.mem_of_getElem? hd)
    exact .str _) (by decide) (sub_cons rfl (sub_cons rfl sub_nil)) (fun h₁ F' ff fn fs d hd => ?_)) ?_
  ·obtain ⟨x, hx, rfl⟩ := List.mem_map.mp hd
   have hb' := hb.up ff fs
   have hF' : ∀ c, F' c → NT c := fun c hc => (fn c hc).elim (hF0 c) id
   have hxl := hspl x hx
   refine sx_one (sx_if_neX (d1 := .str (S (preOf 217 ++ ([50, 50, 57, 32] ++ x)))) (d2 := .str (S ([112, 114, 111, 116, 111, 32, 50, 50, 57, 32] ++ x))) (ex_refusal (n := 19) (fa.sp x hx) fe G hb' hF' rfl (fun h lv => ev_addS (x := [50, 50, 57, 32]) (y := x) (ev_eq ev_strS rfl) (ev_name fe lv rfl) (by simp; omega)) (by simp; omega))
    (fun h lv => ev_addS (x := [112, 114, 111, 116, 111, 32, 50, 50, 57, 32]) (y := x) (ev_eq ev_strS rfl) (ev_name fe lv rfl) (by simp; omega)) (fun h => cmp_same rfl) (sx_post sx_nil (sub_cons rfl (sub_cons rfl sub_nil)) (fun _ _ q _ => q)))
  refine sx_cons (sx_for_nt (ds := TL codeT) (σ' := [(Str.ofString "good", .str (S (goodT f q))), (Str.ofString "mark", .str (S [mk q]))]) fe (.inl rfl) (fun h lv => ei_tupleF lv.big (evf_tuple lv.big (av_cons (ev_eq ev_strS rfl) (av_cons (ev_eq ev_strS rfl) (av_cons (ev_eq ev_strS rfl) (av_cons (ev_eq ev_strS rfl) av_nil)))) (by show 4 ≤ _; omega))) (.inl rfl) (fun i d hd => by
    obtain ⟨p, _, rfl⟩ := List.mem_map.mp (List.mem_of_getElem? hd)
    exact .str _) (by decide) (Sub.refl _) (fun h₁ F' ff fn fs d hd => ?_)) ?_
  ·obtain ⟨x, hx, rfl⟩ := List.mem_map.mp hd
   have hb' := hb.up ff fs
   have hF' : ∀ c, F' c → NT c := fun c hc => (fn c hc).elim (hF0 c) id
   have hxl : x.length ≤ 3 := (show ∀ x ∈ codeT, x.length ≤ 3 from by decide) x hx
   refine sx_one (sx_if_neX (d1 := .str (S (preOf 205 ++ (x ++ [32, 40] ++ goodT f q ++ [41])))) (d2 := .str (S ([114, 101, 112, 108, 121, 32] ++ x ++ [32, 40] ++ goodT f q ++ [41]))) (ex_refusal (n := 19) (fa.cd x hx) fe G hb' hF' rfl (fun h lv => ev_addS (y := [41]) (ev_addS (ev_addS (y := [32, 40]) (ev_name fe lv rfl) (ev_eq ev_strS rfl) (by simp; omega)) (ev_name fe lv rfl) (by simp; omega)) (ev_eq ev_strS rfl) (by simp; omega)) (by simp; omega))
    (fun h lv => ev_addS (y := [41]) (ev_addS (ev_addS (y := [32, 40]) (ev_addS (x := [114, 101, 112, 108, 121, 32]) (ev_eq ev_strS rfl) (ev_name fe lv rfl) (by simp; omega)) (ev_eq ev_strS rfl) (by simp; omega)) (ev_name fe lv rfl) (by simp; omega)) (ev_eq ev_strS rfl) (by simp; omega)) (fun h => cmp_same (by rw [show preOf 205 = [114, 101, 112, 108, 121, 32] from rfl]; simp)) (sx_post sx_nil (sub_cons rfl (sub_cons rfl sub_nil)) (fun _ _ q _ => q)))
  exact sx_one (sx_return (fun h lv => ev_bool))
end Klawwp
theorem law_wp {w : World} {A : Around} {E : Value → Shared → Prop} {s : Shared} {b : Heap} {v : Value} {sc : List Int} {f q : Nat} {Q : Value → Shared → Prop} (G : Gr w b) (bs : b.StaysIn s.heap) (hb0 : b.get? 140 = none ∧ b.get? 147 = none) (hbig : Big s.heap) (ok : Ok 60 A) (hA : A.frames = some [])
  (hv : VD s.heap v (.list (sc.map .int))) (hsc : sc.length ≤ 63) (hf : 15 + ((cut sc (some 0) none 2).map fun x => x.fmod 1000003).sum = (f : Int)) (hq : 740 + ((cut sc (some 1) none 2).map fun x => x.fmod 1000003).sum = (q : Int)) (fa : Fa f q)
  (hQ : ∀ s', RX s s' → StF s.heap (FT s.heap) s'.heap → Big s'.heap → Q (.bool true) s') : wpAny (model PW w) A (call (.ref 266) [v]) Q E s :=
 by_eps (C := Klawwp.C0) _ Klawwp.main0 (w, A, E, s, b, v, sc, f, q, Q) G bs hb0 hbig ok hA hv hsc hf hq fa hQ
end Mine
-- MP1
namespace Mine
/-! the rows of the formatter, plainly -/
section
variable {lead sgn : List Nat} {mx : Int} {spl : List Nat}
noncomputable abbrev pcOf (lead sgn : List Nat) (c : Nat) : Piece := (lead, [c] ++ sgn)
theorem lenP_pcs (lead sgn cs : List Nat) : lenP (cs.map (pcOf lead sgn)) = cs.length * (lead.length + 1 + sgn.length) := by
 unfold lenP
 rw [List.map_map]
 induction cs with
 | nil => simp
 | cons c cs ih =>
  rw [List.map_cons, List.sum_cons, ih, List.length_cons, Nat.succ_mul]
  simp; omega
theorem lenP_app (a b : List Piece) : lenP (a ++ b) = lenP a + lenP b := by unfold lenP; simp
theorem fill (cs ps : List Nat) (L : List (List Nat)) (sz : Int) (h : sz + ((ps.length + cs.length : Nat) : Int) * ((lead.length + 1 + sgn.length : Nat) : Int) ≤ mx) :
  runC mx spl lead ⟨L, ps.map (pcOf lead sgn), sz⟩ (cs.map fun c => [c] ++ sgn) = ⟨L, (ps ++ cs).map (pcOf lead sgn), sz⟩ := by
 induction cs generalizing ps with
 | nil => simp [runC]
 | cons c cs ih =>
  have e : runC mx spl lead ⟨L, ps.map (pcOf lead sgn), sz⟩ ((c :: cs).map fun c => [c] ++ sgn) = runC mx spl lead (chunk mx spl ⟨L, ps.map (pcOf lead sgn), sz⟩ (pcOf lead sgn c)) (cs.map fun c => [c] ++ sgn) := rfl
  rw [e]
  have e2 : ps.map (pcOf lead sgn) ++ [pcOf lead sgn c] = (ps ++ [c]).map (pcOf lead sgn) := by simp
  have h1 : ¬ mx < sz + (lenP ((ps ++ [c]).map (pcOf lead sgn)) : Int) := by
   rw [lenP_pcs]
   have : ((ps ++ [c]).length * (lead.length + 1 + sgn.length)) ≤ (ps.length + (c :: cs).length) * (lead.length + 1 + sgn.length) := Nat.mul_le_mul_right _ (by simp)
   have h' : sz + (((ps.length + (c :: cs).length) * (lead.length + 1 + sgn.length) : Nat) : Int) ≤ mx := by rw [Int.natCast_mul]; exact h
   omega
  have e3 : chunk mx spl ⟨L, ps.map (pcOf lead sgn), sz⟩ (pcOf lead sgn c) = ⟨L, (ps ++ [c]).map (pcOf lead sgn), sz⟩ := by
   unfold chunk
   dsimp only
   rw [e2, if_neg h1]
  rw [e3, ih (ps ++ [c]) (by
   have : (ps ++ [c]).length + cs.length = ps.length + (c :: cs).length := by simp; omega
   rw [this]; exact h)]
  simp
theorem over (c : Nat) (ps : List Nat) (L : List (List Nat)) (sz : Int) (hp : ps ≠ []) (hs : seek spl ((ps ++ [c]).map (pcOf lead sgn)) = some ps.length) (h : mx < sz + ((ps.length + 1 : Nat) : Int) * ((lead.length + 1 + sgn.length : Nat) : Int)) :
  chunk mx spl ⟨L, ps.map (pcOf lead sgn), sz⟩ (pcOf lead sgn c) = ⟨L ++ [textP (ps.map (pcOf lead sgn))], [pcOf lead sgn c], 0⟩ := by
 have e2 : ps.map (pcOf lead sgn) ++ [pcOf lead sgn c] = (ps ++ [c]).map (pcOf lead sgn) := by simp
 have h1 : mx < sz + (lenP ((ps ++ [c]).map (pcOf lead sgn)) : Int) := by
  rw [lenP_pcs, Int.natCast_mul]
  simpa using h
 unfold chunk
 dsimp only
 rw [e2, if_pos h1, hs]
 simp
theorem over0 (c : Nat) (L : List (List Nat)) (sz : Int) (hl : lead ≠ []) (hs : seek spl [pcOf lead sgn c] = none) (h0 : 0 < sz) (h : mx < sz + ((lead.length + 1 + sgn.length : Nat) : Int)) :
  chunk mx spl ⟨L, [], sz⟩ (pcOf lead sgn c) = ⟨L ++ [[]], [pcOf lead sgn c], 0⟩ := by
 have e : lenP ([] ++ [pcOf lead sgn c]) = lead.length + 1 + sgn.length := by simp [lenP]; omega
 unfold chunk
 dsimp only
 rw [e, if_pos h, List.nil_append, hs]
 dsimp only
 rw [if_pos h0, if_neg hl]
 unfold nlL
 have e3 : nlP [] = [([], [])] := by rfl
 rw [e3]
 have e4 : lenP [([], [])] = 0 := rfl
 rw [e4, if_pos (by omega)]
 rfl
theorem textP_row (q : Nat) (p : List Nat) : textP (p.map (pcOf (ld q) (sg q))) = rowT q p := by
 unfold textP rowT
 rw [List.map_map]
 congr 1
 refine List.map_congr_left fun c _ => ?_
 show ld q ++ ([c] ++ sg q) = ld q ++ [c] ++ sg q
 rw [List.append_assoc]
end
end Mine
-- MP2
namespace Mine
theorem runC_app (mx : Int) (spl lead : List Nat) (s : FSt) (a b : List (List Nat)) : runC mx spl lead s (a ++ b) = runC mx spl lead (runC mx spl lead s a) b := by unfold runC; rw [List.foldl_append]
theorem runC_cons (mx : Int) (spl lead : List Nat) (s : FSt) (a : List Nat) (b : List (List Nat)) : runC mx spl lead s (a :: b) = runC mx spl lead (chunk mx spl s (lead, a)) b := rfl
theorem runRows {lead sgn spl : List Nat} {mx : Int} {n : Nat} (hn : 1 ≤ n) (hu : 1 ≤ lead.length + 1 + sgn.length)
  (hs : ∀ (ps : List Nat) (c : Nat), ps ≠ [] → (∀ x ∈ ps, Dig x) → seek spl ((ps ++ [c]).map (pcOf lead sgn)) = some ps.length)
  (h1 : ((n : Nat) : Int) * ((lead.length + 1 + sgn.length : Nat) : Int) ≤ mx) (h2 : mx < ((n + 1 : Nat) : Int) * ((lead.length + 1 + sgn.length : Nat) : Int)) :
  ∀ (rows : List (List Nat)) (L : List (List Nat)) (r : List Nat), r.length = n → (∀ x ∈ r, Dig x) → (∀ p ∈ rows, p.length = n ∧ ∀ x ∈ p, Dig x) →
   runC mx spl lead ⟨L, r.map (pcOf lead sgn), 0⟩ (rows.flatten.map fun c => [c] ++ sgn) = ⟨L ++ ((r :: rows).dropLast).map (fun p => textP (p.map (pcOf lead sgn))), ((r :: rows).getLast?.getD []).map (pcOf lead sgn), 0⟩ := by
 intro rows
 induction rows with
 | nil => intro L r hr hd _; simp [runC]
 | cons p rows ih =>
  intro L r hr hd hp
  obtain ⟨hpl, hpd⟩ := hp p (.head _)
  obtain ⟨c, p', rfl⟩ : ∃ c p', p = c :: p' := by
   cases p with
   | nil => simp at hpl; omega
   | cons c p' => exact ⟨c, p', rfl⟩
  have hrn : r ≠ [] := fun q => by rw [q] at hr; simp at hr; omega
  have e : ((c :: p') :: rows).flatten.map (fun c => [c] ++ sgn) = ([c] ++ sgn) :: (p'.map (fun c => [c] ++ sgn) ++ rows.flatten.map fun c => [c] ++ sgn) := by simp
  rw [e, runC_cons, over c r L 0 hrn (hs r c hrn hd) (by rw [hr]; simpa using h2), runC_app]
  have e2 := fill (lead := lead) (sgn := sgn) (mx := mx) (spl := spl) p' [c] (L ++ [textP (r.map (pcOf lead sgn))]) 0 (by
   have : [c].length + p'.length = n := by simp at hpl ⊢; omega
   rw [this]; simpa using h1)
  rw [show [pcOf lead sgn c] = [c].map (pcOf lead sgn) from rfl, e2]
  have := ih (L ++ [textP (r.map (pcOf lead sgn))]) (c :: p') hpl hpd fun x hx => hp x (.tail _ hx)
  rw [show [c] ++ p' = c :: p' from rfl, this]
  simp [List.getLast?_cons_cons]
theorem isWs59 : isWs 59 = false := by decide +kernel
theorem seek_lead {lead sgn : List Nat} {ps : List Nat} {c ch : Nat} {spl : List Nat} (hp : ps ≠ []) (hf : found ((ps ++ [c]).map (pcOf lead sgn)) 59 = false) (hh : hit ch ((ps ++ [c]).map (pcOf lead sgn)) ps.length = true) : seek (59 :: ch :: spl) ((ps ++ [c]).map (pcOf lead sgn)) = some ps.length := by
 have hl : ((ps ++ [c]).map (pcOf lead sgn)).length = ps.length + 1 := by simp
 have hp0 : 0 < ps.length := List.length_pos_iff.mpr hp
 have ea : at1 ch ((ps ++ [c]).map (pcOf lead sgn)) = 0 := by
  unfold at1
  rw [hl, Nat.add_sub_cancel]
  cases hn : ps.length with
  | zero => omega
  | succ k =>
   rw [hn] at hh
   rw [List.range_succ_eq_map, List.findIdx_cons]
   show (bif hit ch _ (k + 1 - 0) then 0 else _) = 0
   rw [Nat.sub_zero, hh]; rfl
 have ef : found ((ps ++ [c]).map (pcOf lead sgn)) ch = true := by
  unfold found
  rw [ea, hl]; simp; omega
 unfold seek
 rw [List.find?_cons, hf, List.find?_cons, ef]
 show some (_ - 1 - at1 ch _) = _
 rw [ea, hl]; simp
theorem found_no {ch : Nat} {ps : List Piece} (h : ∀ i, 1 ≤ i → i < ps.length → hit ch ps i = false) : found ps ch = false := by
 unfold found at1
 simp only [decide_eq_false_iff_not]
 intro q
 have hl : (List.range (ps.length - 1)).findIdx (fun t => hit ch ps (ps.length - 1 - t)) < (List.range (ps.length - 1)).length := by simpa using q
 have := List.findIdx_getElem (w := hl)
 rw [List.getElem_range, h _ (by simp at hl; omega) (by simp at hl; omega)] at this
 cases this
theorem getD_pcs {lead sgn cs : List Nat} {i : Nat} (h : i < cs.length) : (cs.map (pcOf lead sgn)).getD i ([], []) = pcOf lead sgn cs[i] := by
 rw [List.getD_eq_getElem?_getD, List.getElem?_map, List.getElem?_eq_getElem h]; rfl
theorem hitB_no {lead sgn cs : List Nat} {i ch : Nat} (hi : 1 ≤ i) (h : i < cs.length) (hc : (([cs[i - 1]'(by omega)] ++ sgn).getLast? == some ch) = false) : hitB ch (cs.map (pcOf lead sgn)) i = false := by
 unfold hitB
 rw [getD_pcs (by omega)]
 show (_ && _) = false
 rw [show (pcOf lead sgn (cs[i - 1]'(by omega))).2 = [cs[i - 1]'(by omega)] ++ sgn from rfl, hc, Bool.and_false]
theorem ld_cases (q : Nat) : (q % 2 = 1 ∧ ld q = [] ∧ sg q = [44] ∧ brk q = 59 :: [44]) ∨ (q % 2 = 0 ∧ sg q = [] ∧ ∃ ch r, ld q = ch :: r ∧ isWs ch = true ∧ (ch = 32 ∨ ch = 9) ∧ brk q = 59 :: ch :: []) := by
 by_cases h : q % 2 = 1
 ·refine .inl ⟨h, ?_, ?_, ?_⟩
  ·unfold ld; rw [if_pos h]
  ·unfold sg; rw [if_pos h]
  ·unfold brk ld sg; rw [if_pos h, if_pos h]; rfl
 ·refine .inr ⟨by omega, by unfold sg; rw [if_neg h], ?_⟩
  have key : ∀ i < 4, ∃ ch r, ldT.getD i [] = ch :: r ∧ isWs ch = true ∧ (ch = 32 ∨ ch = 9) := by
   intro i hi
   match i, hi with
   | 0, _ => exact ⟨32, [], rfl, by decide +kernel, .inl rfl⟩
   | 1, _ => exact ⟨9, [], rfl, by decide +kernel, .inr rfl⟩
   | 2, _ => exact ⟨32, [9], rfl, by decide +kernel, .inl rfl⟩
   | 3, _ => exact ⟨9, [32], rfl, by decide +kernel, .inr rfl⟩
  obtain ⟨ch, r, e, hw, ho⟩ := key (q / 2 % 4) (by omega)
  have el : ld q = ch :: r := by unfold ld; rw [if_neg h, e]
  refine ⟨ch, r, el, hw, ho, ?_⟩
  unfold brk sg
  rw [el, if_neg h]; rfl
theorem seek_rows (q : Nat) (ps : List Nat) (c : Nat) (hp : ps ≠ []) (hd : ∀ x ∈ ps, Dig x) : seek (brk q) ((ps ++ [c]).map (pcOf (ld q) (sg q))) = some ps.length := by
 have hp0 : 0 < ps.length := List.length_pos_iff.mpr hp
 have hprev : ∀ i, 1 ≤ i → (h : i < (ps ++ [c]).length) → ∃ hx : i - 1 < (ps ++ [c]).length, Dig ((ps ++ [c])[i - 1]'hx) := fun i hi h => by
  refine ⟨by omega, ?_⟩
  have : i - 1 < ps.length := by simp at h; omega
  rw [List.getElem_append_left this]
  exact hd _ (List.getElem_mem _)
 have nof : found ((ps ++ [c]).map (pcOf (ld q) (sg q))) 59 = false := by
  refine found_no fun i hi h => ?_
  rw [List.length_map] at h
  obtain ⟨hx, dg⟩ := hprev i hi h
  unfold hit hitA
  rw [isWs59, Bool.false_and, Bool.false_or]
  refine hitB_no hi h ?_
  rcases ld_cases q with ⟨_, _, e, _⟩ | ⟨_, e, _⟩
  ·rw [e]; simp
  ·rw [e]
   simp
   intro z
   unfold Dig at dg; omega
 rcases ld_cases q with ⟨_, el, es, eb⟩ | ⟨_, es, ch, r, el, hw, _, eb⟩
 ·rw [eb]
  refine seek_lead hp nof ?_
  unfold hit hitB
  rw [getD_pcs (by simp; omega)]
  simp [es]
 ·rw [eb]
  refine seek_lead hp nof ?_
  unfold hit hitA
  rw [getD_pcs (by simp), hw]
  simp [el]
theorem seek_one (q c : Nat) (spl : List Nat) : seek spl [pcOf (ld q) (sg q) c] = none := by
 unfold seek
 have : spl.find? (found [pcOf (ld q) (sg q) c]) = none := by
  rw [List.find?_eq_none]
  intro ch _
  unfold found
  simp
 rw [this]; rfl
end Mine
-- MP3
namespace Mine
theorem chunks {n : Nat} : ∀ (k : Nat) (l : List Nat), l.length = n * k → ((List.range k).map fun j => (l.drop (j * n)).take n).flatten = l
 | 0, l, h => by
  have : l = [] := List.length_eq_zero_iff.mp (by simpa using h)
  simp [this]
 | k + 1, l, h => by
  rw [List.range_succ_eq_map, List.map_cons, List.map_map, List.flatten_cons]
  have e : ((fun j => (l.drop (j * n)).take n) ∘ Nat.succ) = fun j => ((l.drop n).drop (j * n)).take n := by
   funext j
   show (l.drop ((j + 1) * n)).take n = _
   rw [List.drop_drop]
   congr 2
   rw [Nat.succ_mul]; omega
  rw [e, chunks k (l.drop n) (by rw [List.length_drop, h, Nat.mul_succ]; omega)]
  simp
theorem fg_split (f q : Nat) : fg f q = (fg f q).take (rm f q) ++ ((List.range (lp f + 1)).map (tx f q)).flatten := by
 have h := chunks (n := wd f) (lp f + 1) ((fg f q).drop (rm f q)) (by rw [List.length_drop, fg_len]; unfold nf; omega)
 have e : (fun j => (((fg f q).drop (rm f q)).drop (j * wd f)).take (wd f)) = tx f q := by
  funext j
  unfold tx
  rw [List.drop_drop]
 rw [e] at h
 rw [h, List.take_append_drop]
theorem nlP_pcs (lead sgn : List Nat) {r : List Nat} (h : r ≠ []) : nlP (r.map (pcOf lead sgn)) = r.map (pcOf lead sgn) := by
 obtain ⟨r', c, rfl⟩ : ∃ r' c, r = r' ++ [c] := ⟨r.dropLast, r.getLast h, (List.dropLast_concat_getLast h).symm⟩
 unfold nlP
 rw [List.map_append, List.map_singleton, List.getLast?_append]
 simp
namespace Kr1ok
noncomputable def Claim0 (f : Nat) (q : Nat) : Prop :=
 rowsOf (hw f q : Nat) (wi f q : Nat) (brk q) (ld q) (fgs f q) = rws f q ∧ ∃ L r, r ≠ [] ∧ (∀ x ∈ r, Dig x) ∧ runC (wi f q : Nat) (brk q) (ld q) ⟨[], [], (hw f q : Nat)⟩ (fgs f q) = ⟨L, r.map (pcOf (ld q) (sg q)), 0⟩
noncomputable abbrev Ty0 := (Nat) × (Nat)
noncomputable def C0 (p : Ty0) : Prop := Claim0 p.1 p.2
noncomputable def eps0 : Ty0 := @Classical.epsilon Ty0 ⟨((default : Nat), (default : Nat))⟩ (fun p => ¬ C0 p)
noncomputable def f := eps0.1
noncomputable def q := eps0.2
theorem main0 : Claim0 f q := by
 unfold Claim0
 obtain ⟨wb1, wb2, wb3⟩ := wd_bd f
 obtain ⟨lb1, ub1, ub2, cb1, ub3⟩ := ld_bd q
 obtain ⟨db1, db2, lp1, lp9⟩ := du_bd f
 have hsg := sg_len q
 have hu : (ld q).length + 1 + (sg q).length = un q := by omega
 have hm := Nat.mod_lt (q / 8) (show 0 < un q by omega)
 have hwi : wi f q = un q * wd f + q / 8 % un q := rfl
 have uw4 : un q * 2 ≤ un q * wd f := Nat.mul_le_mul_left _ wb1
 have hdiv : (wi f q - hw f q) / un q = rm f q := rfl
 have d1 : rm f q * un q ≤ wi f q - hw f q := Nat.div_mul_le_self _ _
 have d2 : wi f q - hw f q < (rm f q + 1) * un q := (Nat.div_lt_iff_lt_mul (by omega)).mp (by omega)
 have hhw : hw f q < un q * wd f + 2 - 3 * cm q := Nat.mod_lt _ (by omega)
 have e0 : fgs f q = ((fg f q).take (rm f q)).map (fun c => [c] ++ sg q) ++ (((List.range (lp f + 1)).map (tx f q)).flatten).map (fun c => [c] ++ sg q) := by
  unfold fgs
  rw [← List.map_append, ← fg_split]
 have hfl : ((fg f q).take (rm f q)).length = rm f q := by rw [List.length_take, fg_len]; unfold nf; omega
 have hfd : ∀ x ∈ (fg f q).take (rm f q), Dig x := fun x hx => fg_dig f q x (List.mem_of_mem_take hx)
 have htx : ∀ j, j ≤ lp f → (tx f q j).length = wd f := fun j h => tx_len h
 obtain ⟨rest, er⟩ : ∃ rest, rest = (List.range (lp f)).map (tx f q ∘ Nat.succ) := ⟨_, rfl⟩
 have erow : (List.range (lp f + 1)).map (tx f q) = tx f q 0 :: rest := by rw [List.range_succ_eq_map, List.map_cons, List.map_map, er]
 have hrest : ∀ p ∈ rest, p.length = wd f ∧ ∀ x ∈ p, Dig x := by
  intro p hp
  rw [er] at hp
  obtain ⟨j, hj, rfl⟩ := List.mem_map.mp hp
  have hj := List.mem_range.mp hj
  exact ⟨htx (j + 1) (by omega), tx_dig f q (j + 1)⟩
 obtain ⟨c, p', et⟩ : ∃ c p', tx f q 0 = c :: p' := by
  have := htx 0 (by omega)
  cases h : tx f q 0 with
  | nil => rw [h] at this; simp at this; omega
  | cons c p' => exact ⟨c, p', rfl⟩
 have hpl : p'.length + 1 = wd f := by have := htx 0 (by omega); rw [et] at this; simpa using this
 have hp0d : ∀ x ∈ c :: p', Dig x := et ▸ tx_dig f q 0
 have step : chunk (wi f q : Nat) (brk q) (runC (wi f q : Nat) (brk q) (ld q) ⟨[], [], (hw f q : Nat)⟩ (((fg f q).take (rm f q)).map (fun c => [c] ++ sg q))) (pcOf (ld q) (sg q) c) = ⟨[rowT q ((fg f q).take (rm f q))], [pcOf (ld q) (sg q) c], 0⟩ := by
  by_cases hr : rm f q = 0
  ·have e : (fg f q).take (rm f q) = [] := by rw [hr]; rfl
   rw [e]
   have hlne : ld q ≠ [] := by
    intro z
    rcases ld_cases q with ⟨h1, _, es, _⟩ | ⟨_, _, ch, r, el, _⟩
    ·have hc1 : cm q = 1 := by rw [← hsg, es]; rfl
     have hl0 : (ld q).length = 0 := by rw [z]; rfl
     rw [hr] at d2
     rw [hc1] at hhw
     omega
    ·rw [el] at z; cases z
   rw [hr] at d2
   exact over0 c [] (hw f q : Nat) hlne (seek_one q c _) (by omega) (by rw [hu]; omega)
  ·have hne : (fg f q).take (rm f q) ≠ [] := fun z => by rw [z] at hfl; simp at hfl; omega
   have h1 : hw f q ≤ wi f q := by
    cases h : decide (hw f q ≤ wi f q) with
    | true => exact of_decide_eq_true h
    | false =>
     have h := of_decide_eq_false h
     have : wi f q - hw f q = 0 := by omega
     rw [this] at d1
     have : 0 < rm f q * un q := Nat.mul_pos (by omega) (by omega)
     omega
   have e2 := fill (lead := ld q) (sgn := sg q) (mx := (wi f q : Nat)) (spl := brk q) ((fg f q).take (rm f q)) [] [] (hw f q : Nat) (by
    rw [hu, hfl, List.length_nil, Nat.zero_add, ← Int.natCast_mul]; omega)
   rw [List.map_nil, List.nil_append] at e2
   rw [e2, over c _ [] (hw f q : Nat) hne (seek_rows q _ c hne hfd) (by rw [hu, hfl, ← Int.natCast_mul]; omega), List.nil_append, textP_row]
 have er2 := runRows (lead := ld q) (sgn := sg q) (spl := brk q) (mx := (wi f q : Nat)) (n := wd f) (by omega) (by omega) (fun ps c hp hd => seek_rows q ps c hp hd) (by rw [hu, ← Int.natCast_mul, Nat.mul_comm]; omega) (by
  rw [hu, ← Int.natCast_mul, Nat.succ_mul, Nat.mul_comm]; omega) rest [rowT q ((fg f q).take (rm f q))] (c :: p') (by rw [List.length_cons]; omega) hp0d hrest
 have erun : runC (wi f q : Nat) (brk q) (ld q) ⟨[], [], (hw f q : Nat)⟩ (fgs f q) = ⟨[rowT q ((fg f q).take (rm f q))] ++ ((c :: p') :: rest).dropLast.map (fun p => textP (p.map (pcOf (ld q) (sg q)))), (((c :: p') :: rest).getLast?.getD []).map (pcOf (ld q) (sg q)), 0⟩ := by
  rw [e0, runC_app, erow, et]
  have e3 : (((c :: p') :: rest).flatten).map (fun c => [c] ++ sg q) = ([c] ++ sg q) :: (p'.map (fun c => [c] ++ sg q) ++ rest.flatten.map fun c => [c] ++ sg q) := by simp
  rw [e3, runC_cons, step, runC_app]
  have e4 := fill (lead := ld q) (sgn := sg q) (mx := (wi f q : Nat)) (spl := brk q) p' [c] [rowT q ((fg f q).take (rm f q))] 0 (by
   have : [c].length + p'.length = wd f := by simp; omega
   rw [this, hu, ← Int.natCast_mul, Nat.mul_comm]; omega)
  rw [show [pcOf (ld q) (sg q) c] = [c].map (pcOf (ld q) (sg q)) from rfl, e4]
  exact er2
 have hlast : ((c :: p') :: rest).getLast? = some (((c :: p') :: rest).getLast (by simp)) := List.getLast?_eq_some_getLast (by simp)
 have hlm : ((c :: p') :: rest).getLast (by simp) ∈ (c :: p') :: rest := List.getLast_mem _
 have hl2 : (((c :: p') :: rest).getLast (by simp)).length = wd f ∧ ∀ x ∈ ((c :: p') :: rest).getLast (by simp), Dig x := by
  rcases List.mem_cons.mp hlm with e | e
  ·rw [e]; exact ⟨by rw [List.length_cons]; omega, hp0d⟩
  ·exact hrest _ e
 have hlne : ((c :: p') :: rest).getLast (by simp) ≠ [] := fun z => by have := hl2.1; rw [z] at this; simp at this; omega
 rw [hlast, Option.getD_some] at erun
 refine ⟨?_, _, _, hlne, hl2.2, erun⟩
 unfold rowsOf
 rw [erun]
 show nlL _ _ _ = _
 unfold nlL
 rw [nlP_pcs _ _ hlne, lenP_pcs, hu, hl2.1, textP_row]
 have hpos : 0 < wd f * un q := Nat.mul_pos (by omega) (by omega)
 rw [if_pos (show (0 : Int) < 0 + ((wd f * un q : Nat) : Int) by omega)]
 have efun : (fun p => textP (p.map (pcOf (ld q) (sg q)))) = rowT q := by funext p; exact textP_row q p
 rw [efun]
 unfold rws pcs
 have ez := congrArg (List.map (rowT q)) (List.dropLast_concat_getLast (l := (c :: p') :: rest) (by simp))
 rw [List.map_append, List.map_singleton] at ez
 rw [erow, et, List.map_cons, List.append_assoc, ez]
 rfl
end Kr1ok
theorem r1_ok (f q : Nat) : rowsOf (hw f q : Nat) (wi f q : Nat) (brk q) (ld q) (fgs f q) = rws f q ∧ ∃ L r, r ≠ [] ∧ (∀ x ∈ r, Dig x) ∧ runC (wi f q : Nat) (brk q) (ld q) ⟨[], [], (hw f q : Nat)⟩ (fgs f q) = ⟨L, r.map (pcOf (ld q) (sg q)), 0⟩ :=
 by_eps (C := Kr1ok.C0) _ Kr1ok.main0 (f, q) 
end Mine
-- MP4
namespace Mine
theorem dig_ns : ∀ c, Dig c → Unicode.isSpace c = false := by
 have h : ((List.range 58).all fun c => decide (c < 49) || !Unicode.isSpace c) = true := by decide +kernel
 intro c hc
 rw [List.all_eq_true] at h
 have := h c (List.mem_range.mpr (by unfold Dig at hc; omega))
 unfold Dig at hc
 simp only [Bool.or_eq_true, decide_eq_true_eq, Bool.not_eq_true'] at this
 rcases this with q | q
 ·omega
 ·exact q
theorem not_space {l : List Nat} {c : Nat} (h : c ∈ l) (hc : Dig c) : Txt.isspace (S l) = false := by
 unfold Txt.isspace
 rw [Bool.and_eq_false_iff]
 right
 show l.toArray.all _ = false
 rw [List.all_toArray, List.all_eq_false]
 exact ⟨c, h, by rw [dig_ns c hc]; simp⟩
theorem n1_ok (f q : Nat) : NoW (hw f q : Nat) (wi f q : Nat) (brk q) (ld q) (fgs f q) := by
 obtain ⟨_, L, r, hr, hd, e⟩ := r1_ok f q
 intro _ _
 rw [e]
 show Txt.isspace (S (textP (nlP (r.map (pcOf (ld q) (sg q)))))) = false
 rw [nlP_pcs _ _ hr, textP_row]
 obtain ⟨c, r', rfl⟩ : ∃ c r', r = c :: r' := by
  cases r with
  | nil => exact absurd rfl hr
  | cons c r' => exact ⟨c, r', rfl⟩
 refine not_space (c := c) ?_ (hd c (.head _))
 unfold rowT
 simp
noncomputable def duOk2 (r w : Nat) : Bool := !(decide (2 ≤ w) && decide (w < r)) || decide (2 ≤ ((euDue r w).getLast?.getD (0, 0)).1)
theorem du_all2 : ((List.range 10).all fun r => (List.range 6).all fun w => duOk2 r w) = true := by decide +kernel
theorem lp2_ok (f : Nat) : 2 ≤ lp f := by
 have a := rg_bd f
 have c := wd_bd f
 have h := du_all2
 rw [List.all_eq_true] at h
 have h := h (rg f) (List.mem_range.mpr (by omega))
 rw [List.all_eq_true] at h
 have h := h (wd f) (List.mem_range.mpr (by omega))
 unfold duOk2 at h
 simp only [c.1, c.2.2, decide_true, Bool.and_self, Bool.not_true, Bool.false_or, decide_eq_true_eq] at h
 unfold lp du
 omega
theorem p3_ok (f q : Nat) : ((pcs f q).drop 1).take 3 = [tx f q 0, tx f q 1, tx f q 2] := by
 have := lp2_ok f
 obtain ⟨k, hk⟩ : ∃ k, lp f + 1 = k + 3 := ⟨lp f - 2, by omega⟩
 unfold pcs
 rw [List.drop_one, List.tail_cons, hk]
 rw [show List.range (k + 3) = 0 :: 1 :: 2 :: (List.range k).map (fun i => i + 3) from by
  rw [List.range_succ_eq_map, List.range_succ_eq_map, List.range_succ_eq_map]
  simp [List.map_map, Function.comp_def]]
 rfl
theorem sl_len {f q : Nat} {p : List Nat} (hp : p ∈ pcs f q) : p.length ≤ 5 := by
 have a := wd_bd f
 have b := wi_bd f q
 rcases List.mem_cons.mp hp with rfl | hp
 ·rw [List.length_take]; omega
 ·obtain ⟨j, _, rfl⟩ := List.mem_map.mp hp
  unfold tx
  rw [List.length_take]; omega
theorem sl_ok (f q : Nat) : ∀ p ∈ pcs f q, cut (rowT q p) (some ((ld q).length : Nat)) none (un q : Nat) = p := by
 intro p hp
 have hl := sl_len hp
 have key : ∀ (l g : List Nat), (l, g) ∈ [([], [44]), ([32], []), ([9], []), ([32, 9], []), (([9, 32] : List Nat), ([] : List Nat))] → ∀ p : List Nat, p.length ≤ 5 → cut (p.map fun c => l ++ [c] ++ g).flatten (some (l.length : Nat)) none ((l.length + 1 + g.length : Nat) : Int) = p := by
  intro l g hlg p hp
  simp only [List.mem_cons, List.not_mem_nil, or_false, Prod.mk.injEq] at hlg
  match p, hp with
  | [], _ => rcases hlg with ⟨rfl, rfl⟩ | ⟨rfl, rfl⟩ | ⟨rfl, rfl⟩ | ⟨rfl, rfl⟩ | ⟨rfl, rfl⟩ <;> kernel_rfl
  | [a], _ => rcases hlg with ⟨rfl, rfl⟩ | ⟨rfl, rfl⟩ | ⟨rfl, rfl⟩ | ⟨rfl, rfl⟩ | ⟨rfl, rfl⟩ <;> kernel_rfl
  | [a, b], _ => rcases hlg with ⟨rfl, rfl⟩ | ⟨rfl, rfl⟩ | ⟨rfl, rfl⟩ | ⟨rfl, rfl⟩ | ⟨rfl, rfl⟩ <;> kernel_rfl
  | [a, b, c], _ => rcases hlg with ⟨rfl, rfl⟩ | ⟨rfl, rfl⟩ | ⟨rfl, rfl⟩ | ⟨rfl, rfl⟩ | ⟨rfl, rfl⟩ <;> kernel_rfl
  | [a, b, c, d], _ => rcases hlg with ⟨rfl, rfl⟩ | ⟨rfl, rfl⟩ | ⟨rfl, rfl⟩ | ⟨rfl, rfl⟩ | ⟨rfl, rfl⟩ <;> kernel_rfl
  | [a, b, c, d, e], _ => rcases hlg with ⟨rfl, rfl⟩ | ⟨rfl, rfl⟩ | ⟨rfl, rfl⟩ | ⟨rfl, rfl⟩ | ⟨rfl, rfl⟩ <;> kernel_rfl
 have hb := ld_bd q
 have hs := sg_len q
 have hm : (ld q, sg q) ∈ [([], [44]), ([32], []), ([9], []), ([32, 9], []), (([9, 32] : List Nat), ([] : List Nat))] := by
  by_cases h : q % 2 = 1
  ·unfold ld sg; rw [if_pos h, if_pos h]; simp
  ·unfold ld sg
   rw [if_neg h, if_neg h]
   have key : ∀ i < 4, (ldT.getD i [], ([] : List Nat)) ∈ [(([] : List Nat), [44]), ([32], []), ([9], []), ([32, 9], []), (([9, 32] : List Nat), ([] : List Nat))] := by decide
   exact key _ (by omega)
 have := key _ _ hm p hl
 rw [show (ld q).length + 1 + (sg q).length = un q by omega] at this
 exact this
end Mine
-- MP5
namespace Mine
/-! signs renamed: the formatter does not see it -/
section
variable {ρ : Nat → Nat}
noncomputable abbrev mapP (ρ : Nat → Nat) (p : Piece) : Piece := (p.1.map ρ, p.2.map ρ)
noncomputable abbrev mapS (ρ : Nat → Nat) (s : FSt) : FSt := ⟨s.lines.map (List.map ρ), s.ps.map (mapP ρ), s.sz⟩
theorem lenP_map (ps : List Piece) : lenP (ps.map (mapP ρ)) = lenP ps := by
 unfold lenP
 rw [List.map_map]
 congr 1
 refine List.map_congr_left fun p _ => ?_
 show (p.1.map ρ).length + (p.2.map ρ).length = _
 rw [List.length_map, List.length_map]
theorem textP_map (ps : List Piece) : textP (ps.map (mapP ρ)) = (textP ps).map ρ := by
 unfold textP
 rw [List.map_map, List.map_flatten, List.map_map]
 congr 1
 refine List.map_congr_left fun p _ => ?_
 show p.1.map ρ ++ p.2.map ρ = (p.1 ++ p.2).map ρ
 rw [List.map_append]
theorem getD_map (ps : List Piece) (i : Nat) : (ps.map (mapP ρ)).getD i ([], []) = mapP ρ (ps.getD i ([], [])) := by
 rw [List.getD_eq_getElem?_getD, List.getD_eq_getElem?_getD, List.getElem?_map]
 cases ps[i]? <;> rfl
theorem hit_map {ch : Nat} (h : ∀ c, ρ c = ch ↔ c = ch) (ps : List Piece) (i : Nat) : hit ch (ps.map (mapP ρ)) i = hit ch ps i := by
 have hh : ∀ l : List Nat, ((l.map ρ).head? == some ch) = (l.head? == some ch) := fun l => by
  cases l with
  | nil => rfl
  | cons a r =>
   show (some (ρ a) == some ch) = (some a == some ch)
   by_cases q : a = ch
   ·rw [(h a).mpr q, q]
   ·have z : ¬ ρ a = ch := fun z => q ((h a).mp z)
    rw [Option.some_beq_some, Option.some_beq_some, beq_eq_false_iff_ne.mpr z, beq_eq_false_iff_ne.mpr q]
 have hg : ∀ l : List Nat, ((l.map ρ).getLast? == some ch) = (l.getLast? == some ch) := fun l => by
  rw [List.getLast?_map]
  cases l.getLast? with
  | none => rfl
  | some a =>
   show (some (ρ a) == some ch) = (some a == some ch)
   by_cases q : a = ch
   ·rw [(h a).mpr q, q]
   ·have z : ¬ ρ a = ch := fun z => q ((h a).mp z)
    rw [Option.some_beq_some, Option.some_beq_some, beq_eq_false_iff_ne.mpr z, beq_eq_false_iff_ne.mpr q]
 have he : ∀ l : List Nat, (l.map ρ).isEmpty = l.isEmpty := fun l => by cases l <;> rfl
 unfold hit hitA hitB
 rw [getD_map, getD_map]
 show (isWs ch && (!((_ : List Nat).map ρ).isEmpty && _) || _) = _
 rw [he, hh]
 show (_ || (!((_ : List Nat).map ρ).isEmpty && _)) = _
 rw [he, hg]
theorem seek_map {spl : List Nat} (h : ∀ ch ∈ spl, ∀ c, ρ c = ch ↔ c = ch) (ps : List Piece) : seek spl (ps.map (mapP ρ)) = seek spl ps := by
 have h1 : ∀ ch ∈ spl, at1 ch (ps.map (mapP ρ)) = at1 ch ps := fun ch hc => by
  unfold at1
  rw [List.length_map]
  congr 1
  funext t
  exact hit_map (h ch hc) _ _
 have h2 : ∀ ch ∈ spl, found (ps.map (mapP ρ)) ch = found ps ch := fun ch hc => by
  unfold found
  rw [h1 ch hc, List.length_map]
 unfold seek
 rw [List.length_map]
 clear h
 induction spl with
 | nil => rfl
 | cons a spl ih =>
  rw [List.find?_cons, List.find?_cons, h2 a (.head _)]
  cases found ps a with
  | true => exact congrArg (fun k => some (ps.length - 1 - k)) (h1 a (.head _))
  | false => exact ih (fun ch hc => h1 ch (.tail _ hc)) fun ch hc => h2 ch (.tail _ hc)
theorem nlP_map (h : ∀ c, ρ c = 32 ↔ c = 32) (ps : List Piece) : nlP (ps.map (mapP ρ)) = (nlP ps).map (mapP ρ) := by
 have e : (ps.map (mapP ρ)).getLast?.getD ([], []) = mapP ρ (ps.getLast?.getD ([], [])) := by
  rw [List.getLast?_map]
  cases ps.getLast? <;> rfl
 have e2 : (mapP ρ (ps.getLast?.getD ([], [])) = ([32], [])) ↔ (ps.getLast?.getD ([], []) = ([32], [])) := by
  generalize ps.getLast?.getD ([], []) = p
  obtain ⟨a, b⟩ := p
  constructor
  ·intro q
   have q1 : a.map ρ = [32] := congrArg Prod.fst q
   have q2 : b.map ρ = [] := congrArg Prod.snd q
   obtain rfl : b = [] := List.map_eq_nil_iff.mp q2
   obtain ⟨x, rfl, e9⟩ := List.map_eq_singleton_iff.mp q1
   rw [(h x).mp e9]
  ·intro q
   cases q
   show ([ρ 32], []) = _
   rw [(h 32).mpr rfl]
 unfold nlP
 rw [e]
 by_cases q : ps.getLast?.getD ([], []) = ([32], [])
 ·rw [if_pos (e2.mpr q), if_pos q, List.map_dropLast]
 ·rw [if_neg (fun z => q (e2.mp z)), if_neg q, List.map_append, List.map_dropLast]
  rfl
theorem nlL_map (h : ∀ c, ρ c = 32 ↔ c = 32) (L : List (List Nat)) (ps : List Piece) (sz : Int) : nlL (L.map (List.map ρ)) (ps.map (mapP ρ)) sz = (nlL L ps sz).map (List.map ρ) := by
 unfold nlL
 rw [nlP_map h, lenP_map, textP_map]
 split
 ·rw [List.map_append]; rfl
 ·rfl
theorem chunk_map {spl : List Nat} (hs : ∀ ch ∈ spl, ∀ c, ρ c = ch ↔ c = ch) (h : ∀ c, ρ c = 32 ↔ c = 32) (mx : Int) (s : FSt) (p : Piece) : chunk mx spl (mapS ρ s) (mapP ρ p) = mapS ρ (chunk mx spl s p) := by
 have e : s.ps.map (mapP ρ) ++ [mapP ρ p] = (s.ps ++ [p]).map (mapP ρ) := by simp
 unfold chunk
 show (if mx < s.sz + (lenP (s.ps.map (mapP ρ) ++ [mapP ρ p]) : Int) then _ else _) = _
 rw [e, lenP_map]
 by_cases q : mx < s.sz + (lenP (s.ps ++ [p]) : Int)
 ·rw [if_pos q, if_pos q, seek_map hs]
  cases seek spl (s.ps ++ [p]) with
  | some i =>
   show FSt.mk _ _ _ = FSt.mk _ _ _
   rw [← List.map_take, ← List.map_drop, textP_map, List.map_append]
   rfl
  | none =>
   show (if 0 < s.sz then _ else _) = mapS ρ (if 0 < s.sz then _ else _)
   split
   ·show FSt.mk _ _ _ = FSt.mk _ _ _
    rw [nlL_map h]
    congr 1
    show [(_, _)] = [(_, _)]
    by_cases z : p.1 = []
    ·rw [if_pos (by show p.1.map ρ = []; rw [z]; rfl), if_pos z]
     show _ = [(List.map ρ [32], _)]
     rw [show List.map ρ [32] = [32] from by show [ρ 32] = _; rw [(h 32).mpr rfl]]
    ·rw [if_neg (by show ¬ p.1.map ρ = []; rw [List.map_eq_nil_iff]; exact z), if_neg z]
   ·rfl
 ·rw [if_neg q, if_neg q]
theorem runC_map {spl : List Nat} (hs : ∀ ch ∈ spl, ∀ c, ρ c = ch ↔ c = ch) (h : ∀ c, ρ c = 32 ↔ c = 32) (mx : Int) (lead : List Nat) : ∀ (texts : List (List Nat)) (s : FSt), runC mx spl (lead.map ρ) (mapS ρ s) (texts.map (List.map ρ)) = mapS ρ (runC mx spl lead s texts)
 | [], s => rfl
 | t :: texts, s => by
  rw [List.map_cons, runC_cons, runC_cons]
  rw [show ((lead.map ρ, t.map ρ) : Piece) = mapP ρ (lead, t) from rfl, chunk_map hs h]
  exact runC_map hs h mx lead texts _
theorem rowsOf_map {spl : List Nat} (hs : ∀ ch ∈ spl, ∀ c, ρ c = ch ↔ c = ch) (h : ∀ c, ρ c = 32 ↔ c = 32) (head mx : Int) (lead : List Nat) (texts : List (List Nat)) : rowsOf head mx spl (lead.map ρ) (texts.map (List.map ρ)) = (rowsOf head mx spl lead texts).map (List.map ρ) := by
 unfold rowsOf
 have := runC_map hs h mx lead texts ⟨[], [], head⟩
 rw [show (⟨[], [], head⟩ : FSt) = mapS ρ ⟨[], [], head⟩ from rfl, this]
 exact nlL_map h _ _ _
end
end Mine
-- MP6
namespace Mine
theorem ps_in {mx : Int} {spl lead : List Nat} : ∀ (texts : List (List Nat)) (s : FSt) (T : List (List Nat)), (∀ p ∈ s.ps, p.2 ∈ T) → (∀ t ∈ texts, t ∈ T) → ∀ p ∈ (runC mx spl lead s texts).ps, p.2 ∈ T
 | [], s, T, h, _ => h
 | t :: texts, s, T, h, ht => by
  rw [runC_cons]
  refine ps_in texts _ T ?_ fun x hx => ht x (.tail _ hx)
  have hall : ∀ p ∈ s.ps ++ [(lead, t)], p.2 ∈ T := fun p hp => (List.mem_append.mp hp).elim (h p) fun hp => by rw [List.mem_singleton.mp hp]; exact ht t (.head _)
  unfold chunk
  split
  ·split
   ·exact fun p hp => hall p (List.mem_of_mem_drop hp)
   ·split
    ·intro p hp; rw [List.mem_singleton.mp hp]; exact ht t (.head _)
    ·exact hall
  ·exact hall
theorem now_of {head mx : Int} {spl lead : List Nat} {texts : List (List Nat)} (h : ∀ t ∈ texts, ∃ c ∈ t, Dig c) : NoW head mx spl lead texts := by
 intro _ hne
 have hin := ps_in (mx := mx) (spl := spl) (lead := lead) texts ⟨[], [], head⟩ texts (fun p hp => nomatch hp) fun _ h => h
 generalize (runC mx spl lead ⟨[], [], head⟩ texts).ps = ps at *
 cases hl : ps.getLast? with
 | none =>
  rw [List.getLast?_eq_none_iff] at hl
  rw [hl] at hne
  exact absurd rfl hne
 | some p =>
  have hp := List.mem_of_getLast? hl
  obtain ⟨c, hc, dc⟩ := h _ (hin p hp)
  have e : nlP ps = ps.dropLast ++ [p] := by
   unfold nlP
   rw [hl, Option.getD_some, if_neg fun z => by rw [z] at hc; cases hc]
  rw [e]
  refine not_space (c := c) ?_ dc
  unfold textP
  simp only [List.map_append, List.map_cons, List.map_nil, List.flatten_append, List.flatten_cons, List.flatten_nil, List.append_nil, List.mem_append]
  exact .inr (.inr hc)
noncomputable def rho (fig : List Nat) (c : Nat) : Nat := if 200 ≤ c ∧ c < 200 + fig.length then fig.getD (c - 200) 0 else c
theorem rho_ok {fig : List Nat} (hd : ∀ c ∈ fig, Dig c) {ch : Nat} (h : ch < 49 ∨ (57 < ch ∧ ch < 200)) : ∀ c, rho fig c = ch ↔ c = ch := by
 intro c
 unfold rho
 split
 ·rename_i hc
  have hx : c - 200 < fig.length := by omega
  have dg := hd _ (List.getElem_mem hx)
  rw [List.getD_eq_getElem?_getD, List.getElem?_eq_getElem hx, Option.getD_some]
  unfold Dig at dg
  omega
 ·exact Iff.rfl
theorem rho_codes (a fig b : List Nat) : ((List.range fig.length).map fun i => 200 + (a.length + i)).map (rho (a ++ fig ++ b)) = fig := by
 rw [List.map_map]
 refine List.ext_getElem (by simp) fun i h1 h2 => ?_
 rw [List.getElem_map, List.getElem_range]
 show rho (a ++ fig ++ b) (200 + (a.length + i)) = _
 unfold rho
 rw [if_pos (by simp; omega)]
 rw [show 200 + (a.length + i) - 200 = a.length + i from by omega, List.append_assoc, List.getD_eq_getElem?_getD, List.getElem?_append_right (by omega), Nat.add_sub_cancel_left, List.getElem?_append_left h2, List.getElem?_eq_getElem h2]
 rfl
theorem rho_fix {fig : List Nat} {l : List Nat} (h : ∀ c ∈ l, c < 200) : l.map (rho fig) = l := by
 have : ∀ c ∈ l, rho fig c = id c := fun c hc => by
  unfold rho
  rw [if_neg (by have := h c hc; omega)]; rfl
 rw [List.map_congr_left this, List.map_id]
noncomputable def kinds : List (List Nat × List Nat) := [([], [44]), ([32], []), ([9], []), ([32, 9], []), ([9, 32], [])]
theorem kind_mem (q : Nat) : (ld q, sg q) ∈ kinds := by
 unfold kinds
 by_cases h : q % 2 = 1
 ·unfold ld sg; rw [if_pos h, if_pos h]; simp
 ·unfold ld sg
  rw [if_neg h, if_neg h]
  have key : ∀ i < 4, (ldT.getD i [], ([] : List Nat)) ∈ [(([] : List Nat), [44]), ([32], []), ([9], []), ([32, 9], []), (([9, 32] : List Nat), ([] : List Nat))] := by decide
  exact key _ (by omega)
noncomputable def chk2 (k : List Nat × List Nat) : Bool :=
 let u : Int := ((k.1.length + 1 + k.2.length : Nat) : Int)
 decide (rowsOf u u (k.1.take 1 ++ [59]) [] [[], [200, 59], [201, 59], [202, 59]] = [[], [32, 200, 59], [201, 59], [202, 59]]) &&
 decide ((runC u u_spl [] ⟨[], [], u⟩ [[], [200, 59], [201, 59], [202, 59]]).ps = [([], [202, 59])])
where u_spl := k.1.take 1 ++ [59]
theorem chk2_all : kinds.all chk2 = true := by decide +kernel
end Mine
-- MP7
namespace Mine
noncomputable def rowC (w j : Nat) : List Nat := (List.range w).map fun i => 200 + (j * w + i)
noncomputable def prtG (g p : List Nat) : List (List Nat) := p.dropLast.map (fun c => [c] ++ g) ++ [[p.getLast?.getD 0] ++ g ++ [59]]
noncomputable def prtC (w : Nat) (g : List Nat) : List (List Nat) := [rowC w 0, rowC w 1, rowC w 2].flatMap (prtG g)
noncomputable def whlC (w : Nat) (l g : List Nat) : List (List Nat) := [rowC w 0, rowC w 1, rowC w 2].map fun p => (p.map fun c => l ++ [c] ++ g).flatten ++ [59]
noncomputable def jndC (w : Nat) (l g : List Nat) (m : Nat) : List (List Nat) := (List.range ((3 + m - 1) / m)).map fun i => (((whlC w l g).drop (i * m)).take m).flatten
noncomputable def chk3 (w : Nat) (k : List Nat × List Nat) (spl : List Nat) (lim : Nat) : Bool :=
 decide (rowsOf 0 (lim : Nat) spl k.1 (prtC w k.2) = jndC w k.1 k.2 (max 1 (lim / ((k.1.length + 1 + k.2.length) * w + 1))))
noncomputable def chkA (w : Nat) (k : List Nat × List Nat) : Bool :=
 let ful := (k.1.length + 1 + k.2.length) * w + 1
 (List.range (2 * ful)).all fun x => chk3 w k (59 :: (k.1.take 1 ++ k.2)) (ful + x)
noncomputable def chkB (w : Nat) (k : List Nat × List Nat) : Bool :=
 (List.range ((k.1.length + 1 + k.2.length) * w + 2 - 3 * k.2.length)).all fun x => chk3 w k (59 :: k.1.drop 1) x
theorem a2 : (kinds.all (chkA 2) && kinds.all (chkB 2)) = true := by decide +kernel
theorem a3 : (kinds.all (chkA 3) && kinds.all (chkB 3)) = true := by decide +kernel
theorem a4 : (kinds.all (chkA 4) && kinds.all (chkB 4)) = true := by decide +kernel
theorem a5 : (kinds.all (chkA 5) && kinds.all (chkB 5)) = true := by decide +kernel
theorem a_all {w : Nat} (h1 : 2 ≤ w) (h2 : w ≤ 5) {k : List Nat × List Nat} (hk : k ∈ kinds) : chkA w k = true ∧ chkB w k = true := by
 have key : (kinds.all (chkA w) && kinds.all (chkB w)) = true := by
  rcases (show w = 2 ∨ w = 3 ∨ w = 4 ∨ w = 5 by omega) with rfl | rfl | rfl | rfl
  ·exact a2
  ·exact a3
  ·exact a4
  ·exact a5
 rw [Bool.and_eq_true, List.all_eq_true, List.all_eq_true] at key
 exact ⟨key.1 k hk, key.2 k hk⟩
noncomputable def okCh (ch : Nat) : Bool := decide (ch < 49 ∨ (57 < ch ∧ ch < 200))
theorem kinds_ch : (kinds.all fun k => (59 :: (k.1.take 1 ++ k.2)).all okCh && (59 :: k.1.drop 1).all okCh && (k.1.take 1 ++ [59]).all okCh && (k.1 ++ k.2 ++ [59]).all fun c => decide (c < 200)) = true := by decide
theorem kind_ch {k : List Nat × List Nat} (hk : k ∈ kinds) : (∀ ch ∈ 59 :: (k.1.take 1 ++ k.2), ch < 49 ∨ (57 < ch ∧ ch < 200)) ∧ (∀ ch ∈ 59 :: k.1.drop 1, ch < 49 ∨ (57 < ch ∧ ch < 200)) ∧ (∀ ch ∈ k.1.take 1 ++ [59], ch < 49 ∨ (57 < ch ∧ ch < 200)) ∧ ∀ c ∈ k.1 ++ k.2 ++ [59], c < 200 := by
 have h := kinds_ch
 rw [List.all_eq_true] at h
 have h := h k hk
 simp only [Bool.and_eq_true] at h
 obtain ⟨⟨⟨h1, h2⟩, h3⟩, h4⟩ := h
 rw [List.all_eq_true] at h1 h2 h3 h4
 exact ⟨fun c hc => of_decide_eq_true (h1 c hc), fun c hc => of_decide_eq_true (h2 c hc), fun c hc => of_decide_eq_true (h3 c hc), fun c hc => of_decide_eq_true (h4 c hc)⟩
theorem r2_ok (f q : Nat) : rowsOf (un q : Nat) (un q : Nat) ((ld q).take 1 ++ [59]) [] ([] :: aln f q) = [[], [32] ++ (aln f q).getD 0 []] ++ (aln f q).drop 1 ∧ NoW (un q : Nat) (un q : Nat) ((ld q).take 1 ++ [59]) [] ([] :: aln f q) := by
 have hk := kind_mem q
 have hc := chk2_all
 rw [List.all_eq_true] at hc
 have hc := hc _ hk
 unfold chk2 chk2.u_spl at hc
 simp only [Bool.and_eq_true, decide_eq_true_eq] at hc
 have hb := ld_bd q
 have hs := sg_len q
 have hu : (ld q).length + 1 + (sg q).length = un q := by omega
 rw [hu] at hc
 obtain ⟨hc1, hc2⟩ := hc
 have h3 : ((fg f q).take 3).length = 3 := by have := aln_len f q; unfold aln at this; rw [List.length_map] at this; exact this
 obtain ⟨a, b, c, e⟩ : ∃ a b c, (fg f q).take 3 = [a, b, c] := by
  match (fg f q).take 3, h3 with
  | [x, y, z], _ => exact ⟨x, y, z, rfl⟩
 have hd : ∀ x ∈ [a, b, c], Dig x := fun x hx => fg_dig f q x (List.mem_of_mem_take (e ▸ hx))
 have ea : aln f q = [[a, 59], [b, 59], [c, 59]] := by unfold aln; rw [e]; rfl
 have hρ : ∀ ch ∈ (ld q).take 1 ++ [59], ∀ x, rho [a, b, c] x = ch ↔ x = ch := fun ch h => rho_ok hd ((kind_ch hk).2.2.1 ch h)
 have h32 : ∀ x, rho [a, b, c] x = 32 ↔ x = 32 := rho_ok hd (.inl (by decide))
 have em : ([[], [200, 59], [201, 59], [202, 59]] : List (List Nat)).map (List.map (rho [a, b, c])) = [] :: aln f q := by rw [ea]; rfl
 have e1 := rowsOf_map hρ h32 (un q : Nat) (un q : Nat) [] [[], [200, 59], [201, 59], [202, 59]]
 have e2 := runC_map hρ h32 (un q : Nat) [] [[], [200, 59], [201, 59], [202, 59]] ⟨[], [], (un q : Nat)⟩
 rw [em] at e1 e2
 refine ⟨?_, ?_⟩
 ·have e1' : rowsOf (un q : Nat) (un q : Nat) ((ld q).take 1 ++ [59]) [] ([] :: aln f q) = _ := e1
  rw [e1', hc1, ea]; rfl
 ·intro _ _
  have e2' : runC (un q : Nat) ((ld q).take 1 ++ [59]) [] ⟨[], [], (un q : Nat)⟩ ([] :: aln f q) = _ := e2
  rw [e2']
  show Txt.isspace (S (textP (nlP ((runC _ _ _ _ _).ps.map (mapP (rho [a, b, c])))))) = false
  rw [hc2]
  refine not_space (c := c) ?_ (hd c (by simp))
  show c ∈ textP (nlP [(([], [rho [a, b, c] 202, rho [a, b, c] 59]) : Piece)])
  have e202 : rho [a, b, c] 202 = c := rfl
  rw [e202]
  unfold nlP
  rw [List.getLast?_singleton, Option.getD_some, if_neg (by intro z; simp at z)]
  simp [textP]
theorem prtG_map {ρ : Nat → Nat} {g p : List Nat} (hg : g.map ρ = g) (h59 : ρ 59 = 59) (hp : p ≠ []) : prtG g (p.map ρ) = (prtG g p).map (List.map ρ) := by
 unfold prtG
 obtain ⟨p', c, rfl⟩ : ∃ p' c, p = p' ++ [c] := ⟨p.dropLast, p.getLast hp, (List.dropLast_concat_getLast hp).symm⟩
 simp [List.map_append, hg, h59, Function.comp_def]
theorem tx_row (f q j : Nat) (hj : j ≤ lp f) (a b : List Nat) (ha : a.length = j * wd f) : (rowC (wd f) j).map (rho (a ++ tx f q j ++ b)) = tx f q j := by
 have h := rho_codes a (tx f q j) b
 rw [tx_len hj, ha] at h
 exact h
namespace Kr3ok
noncomputable def Claim0 (f : Nat) (q : Nat) : Prop :=
 ∀ p ∈ [(brk q, lim1 f q), (59 :: (ld q).drop 1, hw f q)], rowsOf 0 (p.2 : Nat) p.1 (ld q) (prt f q) = jnd f q (mny f q p.2) ∧ NoW 0 (p.2 : Nat) p.1 (ld q) (prt f q)
noncomputable abbrev Ty0 := (Nat) × (Nat)
noncomputable def C0 (p : Ty0) : Prop := Claim0 p.1 p.2
noncomputable def eps0 : Ty0 := @Classical.epsilon Ty0 ⟨((default : Nat), (default : Nat))⟩ (fun p => ¬ C0 p)
noncomputable def f := eps0.1
noncomputable def q := eps0.2
theorem main0 : Claim0 f q := by
 unfold Claim0
 intro p hp
 have wb := wd_bd f
 have hb := ld_bd q
 have hs := sg_len q
 have hu : (ld q).length + 1 + (sg q).length = un q := by omega
 have hk := kind_mem q
 have lp2 := lp2_ok f
 have h3p := p3_ok f q
 obtain ⟨hA, hB⟩ := a_all wb.1 wb.2.1 hk
 obtain ⟨k1, k2, _, k4⟩ := kind_ch hk
 have eprt : prt f q = [tx f q 0, tx f q 1, tx f q 2].flatMap (prtG (sg q)) := by unfold prt; rw [h3p]; rfl
 have hdig : ∀ t ∈ prt f q, ∃ c ∈ t, Dig c := by
  intro t ht
  rw [eprt] at ht
  obtain ⟨r, hr, ht⟩ := List.mem_flatMap.mp ht
  have hrd : (∀ c ∈ r, Dig c) ∧ r ≠ [] := by
   have key : ∀ j, j ≤ lp f → (∀ c ∈ tx f q j, Dig c) ∧ tx f q j ≠ [] := fun j hj => ⟨tx_dig f q j, fun z => by have := tx_len (q := q) hj; rw [z] at this; simp at this; omega⟩
   simp only [List.mem_cons, List.not_mem_nil, or_false] at hr
   rcases hr with rfl | rfl | rfl
   ·exact key 0 (by omega)
   ·exact key 1 (by omega)
   ·exact key 2 (by omega)
  obtain ⟨r', c, rfl⟩ : ∃ r' c, r = r' ++ [c] := ⟨r.dropLast, r.getLast hrd.2, (List.dropLast_concat_getLast hrd.2).symm⟩
  unfold prtG at ht
  rcases List.mem_append.mp ht with ht | ht
  ·obtain ⟨d, hd, rfl⟩ := List.mem_map.mp ht
   exact ⟨d, by simp, hrd.1 d (by rw [List.dropLast_concat] at hd; exact List.mem_append_left _ hd)⟩
  ·rw [List.mem_singleton.mp ht]
   exact ⟨c, by simp, hrd.1 c (by simp)⟩
 refine ⟨?_, now_of hdig⟩
 have hchk : chk3 (wd f) (ld q, sg q) p.1 p.2 = true ∧ ∀ ch ∈ p.1, ch < 49 ∨ (57 < ch ∧ ch < 200) := by
  simp only [List.mem_cons, List.not_mem_nil, or_false] at hp
  rcases hp with rfl | rfl
  ·unfold chkA at hA
   rw [List.all_eq_true] at hA
   have hm : q / 32 % (2 * ful f q) < 2 * ful f q := Nat.mod_lt _ (by unfold ful; omega)
   have ef : ((ld q).length + 1 + (sg q).length) * wd f + 1 = ful f q := by rw [hu]; rfl
   dsimp only at hA
   rw [ef] at hA
   exact ⟨hA _ (List.mem_range.mpr hm), k1⟩
  ·unfold chkB at hB
   rw [List.all_eq_true] at hB
   dsimp only at hB
   rw [hu, hs] at hB
   refine ⟨hB _ (List.mem_range.mpr ?_), k2⟩
   have h1 : 2 * 2 ≤ un q * wd f := Nat.mul_le_mul hb.2.1 wb.1
   exact Nat.mod_lt _ (by omega)
 obtain ⟨hchk, hch⟩ := hchk
 unfold chk3 at hchk
 simp only [decide_eq_true_eq] at hchk
 rw [hu] at hchk
 have em : max 1 (p.2 / (un q * wd f + 1)) = mny f q p.2 := rfl
 rw [em] at hchk
 have hl0 := tx_len (q := q) (show 0 ≤ lp f by omega)
 have hl1 := tx_len (q := q) (show 1 ≤ lp f by omega)
 have t0 : (rowC (wd f) 0).map (rho (tx f q 0 ++ tx f q 1 ++ tx f q 2)) = tx f q 0 := by
  have := tx_row f q 0 (by omega) [] (tx f q 1 ++ tx f q 2) (by simp)
  rwa [List.nil_append, ← List.append_assoc] at this
 have t1 : (rowC (wd f) 1).map (rho (tx f q 0 ++ tx f q 1 ++ tx f q 2)) = tx f q 1 := tx_row f q 1 (by omega) (tx f q 0) (tx f q 2) (by rw [hl0]; omega)
 have t2 : (rowC (wd f) 2).map (rho (tx f q 0 ++ tx f q 1 ++ tx f q 2)) = tx f q 2 := by
  have := tx_row f q 2 (by omega) (tx f q 0 ++ tx f q 1) [] (by rw [List.length_append, hl0, hl1]; omega)
  rwa [List.append_nil] at this
 have hd : ∀ c ∈ tx f q 0 ++ tx f q 1 ++ tx f q 2, Dig c := by
  intro c hc
  rcases List.mem_append.mp hc with hc | hc
  ·rcases List.mem_append.mp hc with hc | hc
   ·exact tx_dig f q 0 c hc
   ·exact tx_dig f q 1 c hc
  ·exact tx_dig f q 2 c hc
 generalize tx f q 0 ++ tx f q 1 ++ tx f q 2 = fig at *
 have fixl : (ld q).map (rho fig) = ld q := rho_fix fun c hc => k4 c (by simp [hc])
 have fixg : (sg q).map (rho fig) = sg q := rho_fix fun c hc => k4 c (by simp [hc])
 have f59 : rho fig 59 = 59 := (rho_ok hd (.inr (by decide)) 59).mpr rfl
 have hne : ∀ j, rowC (wd f) j ≠ [] := fun j z => by
  have := congrArg List.length z
  simp [rowC] at this; omega
 have ep : (prtC (wd f) (sg q)).map (List.map (rho fig)) = prt f q := by
  rw [eprt]
  unfold prtC
  simp only [List.flatMap_cons, List.flatMap_nil, List.append_nil, List.map_append]
  rw [← prtG_map fixg f59 (hne 0), ← prtG_map fixg f59 (hne 1), ← prtG_map fixg f59 (hne 2), t0, t1, t2]
 have ew : (whlC (wd f) (ld q) (sg q)).map (List.map (rho fig)) = whl f q := by
  have e1 : whl f q = [tx f q 0, tx f q 1, tx f q 2].map fun p => rowT q p ++ [59] := by
   unfold whl rws
   rw [← List.map_drop, ← List.map_take, h3p, List.map_map]; rfl
  have e2 : ∀ p : List Nat, List.map (rho fig) ((p.map fun c => ld q ++ [c] ++ sg q).flatten ++ [59]) = rowT q (p.map (rho fig)) ++ [59] := fun p => by
   unfold rowT
   rw [List.map_append, List.map_flatten, List.map_map, List.map_map]
   have e59 : List.map (rho fig) [59] = [59] := by show [rho fig 59] = _; rw [f59]
   rw [e59]
   congr 1
   ·congr 1
    refine List.map_congr_left fun c _ => ?_
    show List.map (rho fig) (ld q ++ [c] ++ sg q) = ld q ++ [rho fig c] ++ sg q
    rw [List.map_append, List.map_append, fixl, fixg]; rfl
  rw [e1]
  unfold whlC
  simp only [List.map_cons, List.map_nil]
  rw [e2, e2, e2, t0, t1, t2]
 have ej : (jndC (wd f) (ld q) (sg q) (mny f q p.2)).map (List.map (rho fig)) = jnd f q (mny f q p.2) := by
  unfold jndC jnd
  rw [List.map_map]
  refine List.map_congr_left fun i _ => ?_
  show List.map (rho fig) (((whlC (wd f) (ld q) (sg q)).drop _).take _).flatten = _
  rw [List.map_flatten, List.map_take, List.map_drop, ew]
 have h32 : ∀ x, rho fig x = 32 ↔ x = 32 := rho_ok hd (.inl (by decide))
 have e1 := rowsOf_map (fun ch h => rho_ok hd (hch ch h)) h32 0 (p.2 : Nat) (ld q) (prtC (wd f) (sg q))
 rw [fixl, ep, hchk, ej] at e1
 exact e1
end Kr3ok
theorem r3_ok (f q : Nat) : ∀ p ∈ [(brk q, lim1 f q), (59 :: (ld q).drop 1, hw f q)], rowsOf 0 (p.2 : Nat) p.1 (ld q) (prt f q) = jnd f q (mny f q p.2) ∧ NoW 0 (p.2 : Nat) p.1 (ld q) (prt f q) :=
 by_eps (C := Kr3ok.C0) _ Kr3ok.main0 (f, q) 
end Mine
-- MP8
namespace Mine
noncomputable def rowD (r n c : Nat) : List Nat := (List.range n).map fun i => 49 + (c + i) % r
noncomputable def chkT (r n c : Nat) : Bool := match PySem.intText? (S (rowD r n c)) with
 | some v => decide ((Str.ofString (toString v)).cps.toList = rowD r n c) && decide (v.natAbs.log2 < 1920)
 | none => false
noncomputable def chkTs (r : Nat) : Bool := (List.range 4).all fun n => (List.range r).all fun c => chkT r (n + 2) c
theorem t4 : chkTs 4 = true := by decide +kernel
theorem t5 : chkTs 5 = true := by decide +kernel
theorem t6 : chkTs 6 = true := by decide +kernel
theorem t7 : chkTs 7 = true := by decide +kernel
theorem t8 : chkTs 8 = true := by decide +kernel
theorem t9 : chkTs 9 = true := by decide +kernel
theorem t_all {r n c : Nat} (h1 : 4 ≤ r) (h2 : r ≤ 9) (h3 : 2 ≤ n) (h4 : n ≤ 5) (h5 : c < r) : ∃ v, PySem.intText? (S (rowD r n c)) = some v ∧ Str.ofString (toString v) = S (rowD r n c) ∧ v.natAbs.log2 < 1920 := by
 have key : chkTs r = true := by
  rcases (show r = 4 ∨ r = 5 ∨ r = 6 ∨ r = 7 ∨ r = 8 ∨ r = 9 by omega) with rfl | rfl | rfl | rfl | rfl | rfl
  ·exact t4
  ·exact t5
  ·exact t6
  ·exact t7
  ·exact t8
  ·exact t9
 unfold chkTs at key
 rw [List.all_eq_true] at key
 have key := key (n - 2) (List.mem_range.mpr (by omega))
 rw [List.all_eq_true] at key
 have key := key c (List.mem_range.mpr h5)
 rw [show n - 2 + 2 = n by omega] at key
 unfold chkT at key
 split at key
 ·rename_i v e
  rw [Bool.and_eq_true, decide_eq_true_eq, decide_eq_true_eq] at key
  exact ⟨v, e, by rw [← key.1, S_of], key.2⟩
 ·cases key
theorem tx_form (f q j : Nat) (hj : j ≤ lp f) : tx f q j = rowD (rg f) (wd f) ((q / 256 + rm f q + j * wd f) % rg f) := by
 refine List.ext_getElem? fun i => ?_
 by_cases h : i < wd f
 ·have e : (tx f q j)[i]? = (fg f q)[rm f q + j * wd f + i]? := by
   unfold tx
   rw [List.getElem?_take, if_pos h, List.getElem?_drop]
  have h2 : j * wd f + wd f ≤ wd f * (lp f + 1) := by
   rw [Nat.mul_comm j, ← Nat.mul_succ]
   exact Nat.mul_le_mul_left _ (by omega)
  have hn : rm f q + j * wd f + i < nf f q := by unfold nf; omega
  rw [e]
  unfold fg rowD
  rw [List.getElem?_map, List.getElem?_range hn, List.getElem?_map, List.getElem?_range h]
  show some (49 + (q / 256 + (rm f q + j * wd f + i)) % rg f) = some (49 + ((q / 256 + rm f q + j * wd f) % rg f + i) % rg f)
  rw [Nat.mod_add_mod, show q / 256 + (rm f q + j * wd f + i) = q / 256 + rm f q + j * wd f + i by omega]
 ·rw [List.getElem?_eq_none (by rw [tx_len hj]; omega), List.getElem?_eq_none (by simp [rowD]; omega)]
theorem find_shape {pre inside post x : List Nat} (ex : x = pre ++ [40] ++ inside ++ [41] ++ post) (h40 : 40 ∉ pre) (h41 : 41 ∉ inside) :
  Txt.find (S x) (S [40]) = ((pre.length : Nat) : Int) ∧ Txt.find3 (S x) (S [41]) (((pre.length : Nat) : Int) + 1) = ((pre.length + 1 + inside.length : Nat) : Int) ∧ (x.take (pre.length + 1 + inside.length)).drop (pre.length + 1) = inside ∧ pre.length + 1 + inside.length ≤ x.length ∧
  x[pre.length + 1]? = (inside ++ [41])[0]? ∧ x[pre.length + 1 + inside.length - 1]? = ([40] ++ inside)[inside.length]? := by
 have e1 : x = pre ++ ([40] ++ (inside ++ ([41] ++ post))) := by rw [ex]; simp
 have e2 : x = (pre ++ [40] ++ inside) ++ ([41] ++ post) := by rw [ex]; simp
 have e3 : x = (pre ++ [40]) ++ (inside ++ ([41] ++ post)) := by rw [ex]; simp
 refine ⟨?_, ?_, ?_, ?_, ?_, ?_⟩
 ·rw [find_is_find3]
  refine find3_at (i := 0) (Nat.zero_le _) ?_ fun v _ hv => ?_
  ·rw [e1, List.getElem?_append_right (Nat.le_refl _), Nat.sub_self]; rfl
  ·rw [e1, List.getElem?_append_left hv, List.getElem?_eq_getElem hv]
   intro z
   injection z with z
   exact h40 (z ▸ List.getElem_mem hv)
 ·refine find3_at (i := pre.length + 1) (by omega) ?_ fun v h1 hv => ?_
  ·have e0 : pre.length + 1 + inside.length - (pre ++ [40] ++ inside).length = 0 := by simp; omega
   rw [e2, List.getElem?_append_right (by simp; omega), e0]
   rfl
  ·rw [e3, List.getElem?_append_right (by simp; omega)]
   have hl : v - (pre ++ [40]).length < inside.length := by simp; omega
   rw [List.getElem?_append_left hl, List.getElem?_eq_getElem hl]
   intro z
   injection z with z
   exact h41 (z ▸ List.getElem_mem hl)
 ·rw [e2, List.take_append_of_le_length (by simp; omega), List.take_of_length_le (by simp; omega)]
  rw [show pre ++ [40] ++ inside = (pre ++ [40]) ++ inside from rfl, List.drop_append_of_le_length (by simp), List.drop_eq_nil_of_le (by simp), List.nil_append]
 ·rw [e2]; simp; omega
 ·rw [e3, List.getElem?_append_right (by simp)]
  simp only [List.length_append, List.length_singleton, Nat.sub_self]
  cases inside <;> rfl
 ·rw [e1, List.getElem?_append_right (by omega)]
  rw [show pre.length + 1 + inside.length - 1 - pre.length = inside.length by omega, show [40] ++ (inside ++ ([41] ++ post)) = ([40] ++ inside) ++ ([41] ++ post) by simp, List.getElem?_append_left (by simp)]
theorem find_none {x : List Nat} {c : Nat} (h : c ∉ x) : Txt.find (S x) (S [c]) = -1 := by
 rw [find_is_find3]
 refine find3_no (i := 0) (Nat.zero_le _) fun v _ z => ?_
 exact h (List.mem_of_getElem? z)
theorem mk_ok (q : Nat) : mk q ≠ 40 ∧ mk q ≠ 41 ∧ mk q ≠ 45 ∧ ¬ Dig (mk q) := by
 have key : ∀ i < 5, [124, 33, 48, 120, 47].getD i 0 ≠ 40 ∧ [124, 33, 48, 120, 47].getD i 0 ≠ 41 ∧ [124, 33, 48, 120, 47].getD i 0 ≠ 45 ∧ ([124, 33, 48, 120, 47].getD i 0 < 49 ∨ 57 < [124, 33, 48, 120, 47].getD i 0) := by decide
 have := key (q / 2304 % 5) (by omega)
 refine ⟨this.1, this.2.1, this.2.2.1, fun d => ?_⟩
 have h := this.2.2.2
 unfold Dig mk at d
 omega
theorem dig_no {l : List Nat} {c : Nat} (h : ∀ x ∈ l, Dig x) (hc : ¬ Dig c) : c ∉ l := fun m => hc (h c m)
namespace Ktoldok
noncomputable def Claim0 (f : Nat) (q : Nat) : Prop :=
 ∀ k, 1 ≤ k → k ≤ lp f + 1 → ∃ port l r m parts, Told (repl f q k) port l r m parts ∧ PySem.intText? (S (pc f q k)) = some port ∧ Str.ofString (toString port) = S (pc f q k) ∧ port.natAbs.log2 < 1920
noncomputable abbrev Ty0 := (Nat) × (Nat)
noncomputable def C0 (p : Ty0) : Prop := Claim0 p.1 p.2
noncomputable def eps0 : Ty0 := @Classical.epsilon Ty0 ⟨((default : Nat), (default : Nat))⟩ (fun p => ¬ C0 p)
noncomputable def f := eps0.1
noncomputable def q := eps0.2
theorem main0 : Claim0 f q := by
 unfold Claim0
 intro k hk1 hk2
 have mko := mk_ok q
 have hpcl : (pcs f q).length = lp f + 2 := by simp [pcs]
 have hpc : ∀ k, k ≤ lp f + 1 → pc f q k ∈ pcs f q := fun k hk => by
  unfold pc
  rw [List.getD_eq_getElem?_getD, List.getElem?_eq_getElem (by omega), Option.getD_some]
  exact List.getElem_mem _
 have e1 : pc f q k = tx f q (k - 1) := by
  unfold pc pcs
  rw [show k = (k - 1) + 1 by omega, List.getD_eq_getElem?_getD, List.getElem?_cons_succ, List.getElem?_map, List.getElem?_range (by omega)]
  simp
 have hr := rg_bd f
 have hw := wd_bd f
 obtain ⟨v, v1, v2, v3⟩ := t_all (r := rg f) (n := wd f) (c := (q / 256 + rm f q + (k - 1) * wd f) % rg f) hr.1 hr.2 hw.1 hw.2.1 (Nat.mod_lt _ (by omega))
 rw [← tx_form f q (k - 1) (by omega), ← e1] at v1 v2
 have d0 := pcs_dig f q _ (hpc (k - 1) (by omega))
 have d1 := pcs_dig f q _ (hpc k hk2)
 have l0 := sl_len (hpc (k - 1) (by omega))
 have l1 := sl_len (hpc k hk2)
 have erepl : repl f q k = [50, 50, 57, 32, 97, 41, 32] ++ [40] ++ ((mk q :: pc f q (k - 1)) ++ (mk q :: pc f q (k - 1)) ++ [mk q] ++ pc f q k ++ [mk q]) ++ [41] ++ [32, 40, 98, 41] := by
  unfold repl
  simp
 refine ⟨v, 7, 8 + ((mk q :: pc f q (k - 1)) ++ (mk q :: pc f q (k - 1)) ++ [mk q] ++ pc f q k ++ [mk q]).length, mk q, [[], pc f q (k - 1), pc f q (k - 1), pc f q k, []], ?_, v1, v2, v3⟩
 clear e1
 generalize repl f q k = x at *
 generalize pc f q (k - 1) = p0 at *
 generalize pc f q k = p1 at *
 have n0 : 41 ∉ p0 := dig_no d0 (by unfold Dig; omega)
 have n1 : 41 ∉ p1 := dig_no d1 (by unfold Dig; omega)
 have hm41 : ¬ 41 = mk q := fun z => mko.2.1 z.symm
 have m0 : mk q ∉ p0 := dig_no d0 mko.2.2.2
 have m1 : mk q ∉ p1 := dig_no d1 mko.2.2.2
 generalize mk q = m at *
 have hmid : 41 ∉ (m :: p0) ++ (m :: p0) ++ [m] ++ p1 ++ [m] := by simp [hm41, n0, n1]
 obtain ⟨s1, s2, s3, s4, s5, s6⟩ := find_shape erepl (by decide) hmid
 have hxl : x.length < 500 := by rw [erepl]; simp; omega
 refine ⟨hxl, by rw [erepl]; rfl, s1, s2, s5.trans rfl, s6.trans ?_, by omega, by omega, s4, ?_, rfl, p1, rfl, v1, by omega⟩
 ·have key : ∀ (t : List Nat), ([40] ++ (t ++ [m]))[(t ++ [m]).length]? = some m := fun t => by simp
  exact key _
 ·have e : (x.take (8 + ((m :: p0) ++ (m :: p0) ++ [m] ++ p1 ++ [m]).length)).drop (7 + 1) = joinL [m] [[], p0, p0, p1, []] := by
   refine s3.trans ?_
   simp [joinL]
  rw [e]
  refine split_joined (by simp) fun r hr => ?_
  simp only [List.mem_cons, List.not_mem_nil, or_false] at hr
  rcases hr with rfl | rfl | rfl | rfl | rfl
  ·simp
  ·exact m0
  ·exact m0
  ·exact m1
  ·simp
end Ktoldok
theorem told_ok (f q : Nat) : ∀ k, 1 ≤ k → k ≤ lp f + 1 → ∃ port l r m parts, Told (repl f q k) port l r m parts ∧ PySem.intText? (S (pc f q k)) = some port ∧ Str.ofString (toString port) = S (pc f q k) ∧ port.natAbs.log2 < 1920 :=
 by_eps (C := Ktoldok.C0) _ Ktoldok.main0 (f, q) 
theorem good_len (f q : Nat) : (goodT f q).length ≤ 9 ∧ 4 ≤ (goodT f q).length := by
 have := tx0_len f q
 have := wd_bd f
 unfold goodT
 simp; omega
namespace Kspok
noncomputable def Claim0 (f : Nat) (q : Nat) : Prop :=
 ∀ x ∈ spT f q, Ref ([50, 50, 57, 32] ++ x) (Str.ofString "error_proto") 217
noncomputable abbrev Ty0 := (Nat) × (Nat)
noncomputable def C0 (p : Ty0) : Prop := Claim0 p.1 p.2
noncomputable def eps0 : Ty0 := @Classical.epsilon Ty0 ⟨((default : Nat), (default : Nat))⟩ (fun p => ¬ C0 p)
noncomputable def f := eps0.1
noncomputable def q := eps0.2
theorem main0 : Claim0 f q := by
 unfold Claim0
 intro x hx
 have mko := mk_ok q
 have td := tx_dig f q 0
 have tl := tx0_len f q
 have wb := wd_bd f
 have n40 : 40 ∉ tx f q 0 := dig_no td (by unfold Dig; omega)
 have n41 : 41 ∉ tx f q 0 := dig_no td (by unfold Dig; omega)
 have nm : mk q ∉ tx f q 0 := dig_no td mko.2.2.2
 have hm40 : ¬ 40 = mk q := fun z => mko.1 z.symm
 have hm41 : ¬ 41 = mk q := fun z => mko.2.1 z.symm
 have hm45 : mk q ≠ 45 := mko.2.2.1
 unfold spT goodT at hx
 generalize tx f q 0 = t at *
 generalize mk q = m at *
 simp only [List.mem_cons, List.not_mem_nil, or_false] at hx
 rcases hx with rfl | rfl | rfl | rfl | rfl | rfl
 ·refine .left rfl (find_none ?_)
  simp [hm40, n40]
 ·have ex : [50, 50, 57, 32] ++ ([41, 40] ++ ([m, m, m] ++ t ++ [m])) = [50, 50, 57, 32, 41] ++ ([40] ++ ([m, m, m] ++ t ++ [m])) := by simp
  refine .right 5 rfl ?_ ?_
  ·rw [find_is_find3]
   refine find3_at (i := 0) (k := 5) (by omega) (by rw [ex]; rfl) fun v _ hv => ?_
   rw [ex]
   match v, hv with
   | 0, _ => simp
   | 1, _ => simp
   | 2, _ => simp
   | 3, _ => simp
   | 4, _ => simp
  ·refine find3_no (i := 6) (by rw [ex]; simp) fun v hv z => ?_
   rw [ex, show [50, 50, 57, 32, 41] ++ ([40] ++ ([m, m, m] ++ t ++ [m])) = [50, 50, 57, 32, 41, 40] ++ ([m, m, m] ++ t ++ [m]) by simp, List.getElem?_append_right (by simpa using hv)] at z
   have := List.mem_of_getElem? z
   simp [hm41, n41] at this
 ·have ex : [50, 50, 57, 32] ++ ([40] ++ ([m, m, m] ++ t ++ [m]) ++ [45, 41]) = [50, 50, 57, 32] ++ [40] ++ ([m, m, m] ++ t ++ [m] ++ [45]) ++ [41] ++ [] := by simp
  obtain ⟨s1, s2, s3, s4, s5, s6⟩ := find_shape ex (by decide) (by simp [hm41, n41])
  refine .marks 4 _ m 45 rfl s1 s2 (s5.trans rfl) (s6.trans ?_) (by simp; omega) hm45
  have key : ∀ (t : List Nat), ([40] ++ (t ++ [45]))[(t ++ [45]).length]? = some 45 := fun t => by simp
  exact key _
 ·have ex : [50, 50, 57, 32] ++ ([40] ++ ([m, m, m] ++ t ++ [m]).drop 1 ++ [41]) = [50, 50, 57, 32] ++ [40] ++ ([m, m] ++ t ++ [m]) ++ [41] ++ [] := by simp
  obtain ⟨s1, s2, s3, s4, s5, s6⟩ := find_shape ex (by decide) (by simp [hm41, n41])
  refine .parts 4 _ m [[], [], t, []] rfl s1 s2 (s5.trans rfl) (s6.trans ?_) (by simp <;> omega) (by simp <;> omega) s4 ?_ (by simp) (by simp)
  ·have key : ∀ (t : List Nat), ([40] ++ (t ++ [m]))[(t ++ [m]).length]? = some m := fun t => by simp
   exact key _
  ·refine (congrArg (fun y => Txt.split (S y) (S [m])) s3).trans ?_
   rw [show [m, m] ++ t ++ [m] = joinL [m] [[], [], t, []] by simp [joinL]]
   refine split_joined (by simp) fun r hr => ?_
   simp only [List.mem_cons, List.not_mem_nil, or_false] at hr
   rcases hr with rfl | rfl | rfl | rfl <;> first | exact nm | simp
 ·have ex : [50, 50, 57, 32] ++ ([40] ++ [m] ++ ([m, m, m] ++ t ++ [m]) ++ [41]) = [50, 50, 57, 32] ++ [40] ++ ([m, m, m, m] ++ t ++ [m]) ++ [41] ++ [] := by simp
  obtain ⟨s1, s2, s3, s4, s5, s6⟩ := find_shape ex (by decide) (by simp [hm41, n41])
  refine .parts 4 _ m [[], [], [], [], t, []] rfl s1 s2 (s5.trans rfl) (s6.trans ?_) (by simp <;> omega) (by simp <;> omega) s4 ?_ (by simp) (by simp)
  ·have key : ∀ (t : List Nat), ([40] ++ (t ++ [m]))[(t ++ [m]).length]? = some m := fun t => by simp
   exact key _
  ·refine (congrArg (fun y => Txt.split (S y) (S [m])) s3).trans ?_
   rw [show [m, m, m, m] ++ t ++ [m] = joinL [m] [[], [], [], [], t, []] by simp [joinL]]
   refine split_joined (by simp) fun r hr => ?_
   simp only [List.mem_cons, List.not_mem_nil, or_false] at hr
   rcases hr with rfl | rfl | rfl | rfl | rfl | rfl <;> first | exact nm | simp
 ·have ex : ([50, 50, 57, 32] ++ [40, 41] : List Nat) = [50, 50, 57, 32] ++ [40] ++ [] ++ [41] ++ [] := by simp
  obtain ⟨s1, s2, s3, s4, s5, s6⟩ := find_shape ex (by decide) (by simp)
  exact .marks 4 5 41 40 rfl s1 s2 rfl rfl (by decide) (by decide)
end Kspok
theorem sp_ok (f q : Nat) : ∀ x ∈ spT f q, Ref ([50, 50, 57, 32] ++ x) (Str.ofString "error_proto") 217 :=
 by_eps (C := Kspok.C0) _ Kspok.main0 (f, q) 
theorem cd_ok (f q : Nat) : ∀ c ∈ codeT, Ref (c ++ [32, 40] ++ goodT f q ++ [41]) (Str.ofString "error_reply") 205 := by
 intro c hc
 have mko := mk_ok q
 refine .code ?_
 unfold codeT at hc
 simp only [List.mem_cons, List.not_mem_nil, or_false] at hc
 unfold goodT
 rcases hc with rfl | rfl | rfl | rfl <;> simp
end Mine
-- MP9
namespace Mine
noncomputable def apD (r n a b : Nat) : Int := min (2 * (n : Nat)) (4 * min (((a : Int) - b) % r) ((r : Nat) - ((a : Int) - b) % r))
noncomputable def chkP (r n a : Nat) : Bool := (List.range r).all fun b => decide (lev (rowD r n a) (rowD r n b) (apD r n a b) = apD r n a b)
noncomputable def chkPs (r : Nat) : Bool := (List.range 4).all fun n => decide (r ≤ n + 2) || (List.range r).all fun a => chkP r (n + 2) a
noncomputable def nearD (r n : Nat) : Nat → Int × List (Nat × Nat)
 | 0 => (2 * (n : Nat), euDue r n)
 | i + 1 => match (nearD r n i).2 with
  | (a, c) :: t => if i + 1 = a then ((c : Nat), t) else nearD r n i
  | [] => nearD r n i
noncomputable def lpD (r n : Nat) : Nat := ((euDue r n).getLast?.getD (0, 0)).1
noncomputable def chkL (r n c : Nat) : Bool := (List.range (lpD r n)).all fun i => match (nearD r n i).2 with
 | (a, d) :: _ => if i + 1 = a then decide (lev (rowD r n c) (rowD r n ((c + (i + 1) * n) % r)) ((nearD r n i).1 - 1) = (d : Nat)) else decide ((nearD r n i).1 ≤ lev (rowD r n c) (rowD r n ((c + (i + 1) * n) % r)) ((nearD r n i).1 - 1))
 | [] => false
noncomputable def chkLs (r : Nat) : Bool := (List.range 4).all fun n => decide (r ≤ n + 2) || (List.range r).all fun a => chkL r (n + 2) a
theorem p4 : chkPs 4 = true := by decide +kernel
theorem p5 : chkPs 5 = true := by decide +kernel
theorem p6 : chkPs 6 = true := by decide +kernel
theorem p7 : chkPs 7 = true := by decide +kernel
theorem p8 : chkPs 8 = true := by decide +kernel
theorem p9 : chkPs 9 = true := by decide +kernel
theorem l4 : chkLs 4 = true := by decide +kernel
theorem l5 : chkLs 5 = true := by decide +kernel
theorem l6 : chkLs 6 = true := by decide +kernel
theorem l7 : chkLs 7 = true := by decide +kernel
theorem l8 : chkLs 8 = true := by decide +kernel
theorem l9 : chkLs 9 = true := by decide +kernel
theorem pl_all {r n : Nat} (h1 : 4 ≤ r) (h2 : r ≤ 9) (h3 : 2 ≤ n) (h4 : n ≤ 5) (h5 : n < r) : (∀ a < r, chkP r n a = true) ∧ ∀ c < r, chkL r n c = true := by
 have key : chkPs r = true ∧ chkLs r = true := by
  rcases (show r = 4 ∨ r = 5 ∨ r = 6 ∨ r = 7 ∨ r = 8 ∨ r = 9 by omega) with rfl | rfl | rfl | rfl | rfl | rfl
  ·exact ⟨p4, l4⟩
  ·exact ⟨p5, l5⟩
  ·exact ⟨p6, l6⟩
  ·exact ⟨p7, l7⟩
  ·exact ⟨p8, l8⟩
  ·exact ⟨p9, l9⟩
 unfold chkPs chkLs at key
 rw [List.all_eq_true, List.all_eq_true] at key
 obtain ⟨k1, k2⟩ := key
 have k1 := k1 (n - 2) (List.mem_range.mpr (by omega))
 have k2 := k2 (n - 2) (List.mem_range.mpr (by omega))
 rw [show n - 2 + 2 = n by omega, decide_eq_false (by omega), Bool.false_or, List.all_eq_true] at k1 k2
 exact ⟨fun a ha => k1 a (List.mem_range.mpr ha), fun c hc => k2 c (List.mem_range.mpr hc)⟩
theorem near_eq (f q : Nat) : ∀ i, near f q i = nearD (rg f) (wd f) i
 | 0 => rfl
 | i + 1 => by
  have h := near_eq f q i
  unfold near nearD
  first
  | (rw [h]; done)
  | (rw [h]; cases (nearD (rg f) (wd f) i).2 <;> rfl)
theorem lv_ok (f q : Nat) : ∀ i < lp f, ∃ a c r, (near f q i).2 = (a, c) :: r ∧ (i + 1 = a → lev (tx f q 0) (tx f q (i + 1)) ((near f q i).1 - 1) = (c : Nat)) ∧ (i + 1 ≠ a → (near f q i).1 ≤ lev (tx f q 0) (tx f q (i + 1)) ((near f q i).1 - 1)) := by
 intro i hi
 have hr := rg_bd f
 have hw := wd_bd f
 have hc : (q / 256 + rm f q) % rg f < rg f := Nat.mod_lt _ (by omega)
 have k := (pl_all hr.1 hr.2 hw.1 hw.2.1 hw.2.2).2 _ hc
 unfold chkL at k
 rw [List.all_eq_true] at k
 have k := k i (List.mem_range.mpr hi)
 have e0 : tx f q 0 = rowD (rg f) (wd f) ((q / 256 + rm f q) % rg f) := by rw [tx_form f q 0 (by omega), Nat.zero_mul, Nat.add_zero]
 have e1 : tx f q (i + 1) = rowD (rg f) (wd f) (((q / 256 + rm f q) % rg f + (i + 1) * wd f) % rg f) := by rw [tx_form f q (i + 1) (by omega), Nat.mod_add_mod]
 rw [near_eq, e0, e1]
 cases h : (nearD (rg f) (wd f) i).2 with
 | nil => rw [h] at k; cases k
 | cons p t =>
  obtain ⟨a, d⟩ := p
  rw [h] at k
  dsimp only at k
  refine ⟨a, d, t, rfl, fun q1 => ?_, fun q1 => ?_⟩
  ·rw [if_pos q1] at k; exact of_decide_eq_true k
  ·rw [if_neg q1] at k; exact of_decide_eq_true k
theorem ap_ok (f q : Nat) : lev (tx f q (f % (lp f + 1))) (tx f q (q % (lp f + 1))) (apI f q) = apI f q := by
 have hr := rg_bd f
 have hw := wd_bd f
 have ho : f % (lp f + 1) < lp f + 1 := Nat.mod_lt _ (by omega)
 have ht : q % (lp f + 1) < lp f + 1 := Nat.mod_lt _ (by omega)
 have e0 := tx_form f q (f % (lp f + 1)) (by omega)
 have e1 := tx_form f q (q % (lp f + 1)) (by omega)
 have ew : wayI f q = ((((q / 256 + rm f q + f % (lp f + 1) * wd f) % rg f : Nat) : Int) - (((q / 256 + rm f q + q % (lp f + 1) * wd f) % rg f : Nat) : Int)) % (rg f : Nat) := by
  unfold wayI
  generalize f % (lp f + 1) = a
  generalize q % (lp f + 1) = b
  rw [Int.fmod_eq_emod_of_nonneg _ (by omega), Int.natCast_emod, Int.natCast_emod, ← Int.sub_emod]
  congr 1
  push_cast
  rw [Int.sub_mul]
  omega
 have hap : apI f q = apD (rg f) (wd f) ((q / 256 + rm f q + f % (lp f + 1) * wd f) % rg f) ((q / 256 + rm f q + q % (lp f + 1) * wd f) % rg f) := by
  unfold apI apD
  rw [ew]
 have k := (pl_all hr.1 hr.2 hw.1 hw.2.1 hw.2.2).1 ((q / 256 + rm f q + f % (lp f + 1) * wd f) % rg f) (Nat.mod_lt _ (by omega))
 unfold chkP at k
 rw [List.all_eq_true] at k
 have k := of_decide_eq_true (k ((q / 256 + rm f q + q % (lp f + 1) * wd f) % rg f) (List.mem_range.mpr (Nat.mod_lt _ (by omega))))
 rw [hap, e0, e1]
 exact k
theorem fa_ok (f q : Nat) : Fa f q where
 r1 := (r1_ok f q).1
 n1 := n1_ok f q
 r2 := (r2_ok f q).1
 n2 := (r2_ok f q).2
 p3 := p3_ok f q
 lp2 := lp2_ok f
 r3 := r3_ok f q
 sl := sl_ok f q
 told := told_ok f q
 lv := lv_ok f q
 ap := ap_ok f q
 sp := sp_ok f q
 cd := cd_ok f q
end Mine
-- MJ
namespace Mine
noncomputable def HP : Params → Frag := fun P => hd.heap_1 P ++ [(140, tabObj #[]), (147, tabObj #[])]
theorem hp_in {w : World} {h : Heap} (X : (HP w.params).In h) : (hd.heap_1 w.params).In h ∧ h.get? 140 = some (tabObj #[]) ∧ h.get? 147 = some (tabObj #[]) := by
 refine ⟨fun a o e => X a o ?_, X 140 _ (by kernel_rfl), X 147 _ (by kernel_rfl)⟩
 unfold HP
 rw [List.lookup_append, e]; rfl
theorem big_of {w : World} {h : Heap} (X : (HP w.params).In h) : IsCodeM h 144 140 #[] ∧ IsCodeM h 151 147 #[] := by
 obtain ⟨K, e1, e2⟩ := hp_in X
 have hh := Eq.refl (PySem.Challenge.rw_xl0021_01, hd.heap_1)
 revert hh
 k_fill
 intro _
 have g1 : ∃ o, (hd.heap_1 w.params).lookup 144 = some o ∧ ∃ vs file tf flags tg inF text tt, o.data = .fields vs ∧ vs.getD 11 .none = .ref 140 ∧ vs.getD 18 .none = .str file tf ∧ vs.getD 7 .none = .int flags tg ∧ vs.getD 9 .none = .bool inF ∧ vs.getD 10 .none = .int text tt ∧ o.cls = .type "code" ∧ vs[11]? = some (.ref 140) := by
  refine' ⟨_, by k_is, ?_⟩
  exact ⟨_, _, _, _, _, _, _, _, rfl, rfl, rfl, rfl, rfl, rfl, rfl, rfl⟩
 have g2 : ∃ o, (hd.heap_1 w.params).lookup 151 = some o ∧ ∃ vs file tf flags tg inF text tt, o.data = .fields vs ∧ vs.getD 11 .none = .ref 147 ∧ vs.getD 18 .none = .str file tf ∧ vs.getD 7 .none = .int flags tg ∧ vs.getD 9 .none = .bool inF ∧ vs.getD 10 .none = .int text tt ∧ o.cls = .type "code" ∧ vs[11]? = some (.ref 147) := by
  refine' ⟨_, by k_is, ?_⟩
  exact ⟨_, _, _, _, _, _, _, _, rfl, rfl, rfl, rfl, rfl, rfl, rfl, rfl⟩
 obtain ⟨o, a0, vs, file, tf, flags, tg, inF, text, tt, a1, a2, a3, a4, a5, a6, a7, a8⟩ := g1
 obtain ⟨o', b0, vs', file', tf', flags', tg', inF', text', tt', b1, b2, b3, b4, b5, b6, b7, b8⟩ := g2
 exact ⟨⟨o, vs, file, tf, flags, tg, inF, text, tt, tabObj #[], K _ _ a0, a1, a2, a3, a4, a5, a6, e1, rfl, trivial, by decide, rfl, a7, a8⟩, ⟨o', vs', file', tf', flags', tg', inF', text', tt', tabObj #[], K _ _ b0, b1, b2, b3, b4, b5, b6, e2, rfl, trivial, by decide, rfl, b7, b8⟩⟩
theorem no_tabs (P : Params) : noTabs (hd.heap_1 P) = true := by kernel_rfl
theorem g_law {w : World} : nsIn (hd.heap_1 w.params) mainGlobals "law" = some (some (.ref 266)) := by
 have hh := Eq.refl (PySem.Challenge.rw_xl0021_01, hd.heap_1)
 revert hh
 k_fill
 intro _
 have e : nsIn (hd.heap_1 w.params) mainGlobals "law" = some (some (.ref 266)) := by k_is
 exact e
theorem vd_ints {P : Params} {h : Heap} : ∀ {vs : List Value} {xs : List Int}, WellAll P h vs (xs.map WData.int) → VDs h vs (xs.map D.int)
 | _, [], x => by cases x; exact .nil
 | _, i :: xs, x => by
  cases x with
  | cons a r =>
   cases a
   exact .cons (.int _ _) (vd_ints r)
theorem sums_nat (l : List Int) (k : Nat) : ∃ f : Nat, (k : Int) + ((l.map fun x => x.fmod 1000003).sum) = (f : Int) := by
 have h := sum_bd (l := l.map fun x => x.fmod 1000003) (B := 1000003) fun x hx => by
  obtain ⟨y, _, rfl⟩ := List.mem_map.mp hx
  exact fmod_bd y
 exact ⟨((k : Int) + (l.map fun x => x.fmod 1000003).sum).toNat, by omega⟩
theorem post_ok (xs : List Int) : PySem.Challenge.rw_xl0021_01.row.claim.post [ofPy (PyData.list (xs.map PyData.int))] (.bool true) [ofPy (PyData.list (xs.map PyData.int))] = true := by
 first
 | rfl
 | wrow_post
set_option maxHeartbeats 4000000 in
set_option tactic.hygienic true in
theorem fin_law {w : World} {s₀ s₁ : Shared} {mean : ExcName → Option Value} {mg mb : Str → Option Value} {args : List WData} {vals : List Value} {as : List Addr} {fa : Addr} (KX : (HP w.params).In s₁.heap)
  (T : Top vw (looseW vw [Str.ofString "_Accumulator"]) mean mg mb s₁.heap) (hmg : mg (Str.ofString "law") = some (.ref fa)) (hg : s₁.gens = #[])
  (hpre : PySem.Challenge.rw_xl0021_01.row.claim.pre args = true) (hlay : WData.layableAll args = true)
  (hrd : ReadsAllW PySem.Challenge.rw_xl0021_01.row.records (classAt s₀.heap) s₁.heap vals args as) (hwl : WellAll w.params s₁.heap vals args) (hlo : ∀ (a : Addr), a ∈ as → (a == sysModules) = false) :
  wpAny (model PW w) callerA (call (Value.ref fa) vals) (fun v s' => GoodWG PySem.Challenge.rw_xl0021_01.row.claim (classAt s₀.heap) (ExcName.means s₀.heap) args s₁ (Except.ok (Flow.ret v)) s')
   (fun e s' => GoodWG PySem.Challenge.rw_xl0021_01.row.claim (classAt s₀.heap) (ExcName.means s₀.heap) args s₁ (Except.error e) s') s₁ := by
 obtain ⟨K, t1, t2⟩ := hp_in KX
 obtain ⟨c1, c2⟩ := big_of KX
 have hbig : Big s₁.heap := ⟨⟨_, c1⟩, ⟨_, c2⟩⟩
 have hT : TabsAt [(144, 140), (151, 147)] s₁.heap := by
  intro p hp
  simp only [List.mem_cons, List.not_mem_nil, or_false] at hp
  rcases hp with rfl | rfl
  ·exact ⟨CodeHd.of c1.code c1.tab, t1⟩
  ·exact ⟨CodeHd.of c2.code c2.tab, t2⟩
 have G : Gr w (ghostOf s₁.heap [(144, 140), (151, 147)]) := ⟨ghost_K hT K (no_tabs _), _, _, _, ghost_top hT T⟩
 have efa : fa = 266 := by
  have := mg_of K T.g g_law
  have e := hmg.symm.trans this
  injection e with e
  injection e
 subst efa
 wrow_args hpre hlay hrd hwl hlo
 rename_i xs _ _ _ _ _ _ _ a _ _ _ _ w1 _ _ _ hcond _
 have hlen : xs.length ≤ 63 := by omega
 have eof : ∀ l : List Int, ofPys (l.map PyData.int) = l.map WData.int := fun l => by
  induction l with
  | nil => rfl
  | cons x l ih => show _ :: _ = _ :: _; rw [← ih]; rfl
 have eo : ofPy (PyData.list (xs.map PyData.int)) = .list (xs.map WData.int) := by
  show WData.list (ofPys _) = _
  rw [eof]
 rw [eo] at w1
 have hv : VD s₁.heap (.ref a) (.list (xs.map D.int)) := by
  cases w1 with
  | list e ws => exact .list (hbig.ntOf e fun fs z => by cases z) e (vd_ints ws)
 obtain ⟨f, hf⟩ := sums_nat (cut xs (some 0) none 2) 15
 obtain ⟨q, hq⟩ := sums_nat (cut xs (some 1) none 2) 740
 have hb0 : (ghostOf s₁.heap [(144, 140), (151, 147)]).get? 140 = none ∧ (ghostOf s₁.heap [(144, 140), (151, 147)]).get? 147 = none := ⟨hideAll_none _ (by decide), hideAll_none _ (by decide)⟩
 refine law_wp (b := ghostOf s₁.heap [(144, 140), (151, 147)]) (sc := xs) (f := f) (q := q) G (fun c o e => of_hideAll _ e) hb0 hbig ⟨by decide, by decide, rfl⟩ rfl hv hlen hf hq (fa_ok f q) fun s' rx st bg => ?_
 obtain ⟨gs, es, eg⟩ := rx
 obtain ⟨⟨ps, d1⟩, ⟨qs, d2⟩⟩ := bg
 have f1 := d1.tab.2
 have f2 := d2.tab.2
 refine ⟨.inl ⟨.bool true, .bool true, [], rfl, fun _ => rfl, .bool true, ?_, fun _ => ⟨List.nodup_nil, fun _ h => nomatch h⟩⟩, ⟨fun b o e => ?_, fun b o e => ?_⟩, by rw [es], ?_⟩
 ·exact post_ok xs
 ·by_cases q1 : b = 140
  ·subst q1
   rw [t1] at e; cases e
   exact .inr (.inl ⟨c1.tab.isCodeTable, rfl, #[], ps, rfl, by rw [f1]; simp⟩)
  ·by_cases q2 : b = 147
   ·subst q2
    rw [t2] at e; cases e
    exact .inr (.inl ⟨c2.tab.isCodeTable, rfl, #[], qs, rfl, by rw [f2]; simp⟩)
   ·exact .inl (st b o ⟨⟨o, e⟩, q1, q2⟩ e)
 ·by_cases q1 : b = 140
  ·subst q1; exact ⟨_, f1⟩
  ·by_cases q2 : b = 147
   ·subst q2; exact ⟨_, f2⟩
   ·exact ⟨o, st b o ⟨⟨o, e⟩, q1, q2⟩ e⟩
 ·rw [es]
  exact eg (.of_eq hg)
end Mine
-- TH
namespace Mine
section
variable {tb : String → Option Builtin} {p : Program} {w : World} {n₀ : Nat} {ann : Option Value} {N : Nat}
noncomputable def topRunT (tb : String → Option Builtin) (p : Program) (w : World) (n₀ : Nat) (ann : Option Value) : Nat → SharedT → Thread → Option SharedT
 | 0, _, _ => none
 | n + 1, s, t => match through t with
  | true => some s
  | false => match stepOk n₀ ann t with
   | false => none
   | true => match stepT (denote tb) p w s t with
    | some (s', t') => topRunT tb p w n₀ ann n s' t'
    | none => none
theorem topRun_of : ∀ {n : Nat} {s s' : SharedT} {t : Thread}, topRunT tb p w n₀ ann n s t = some s' → topRun tb p w n₀ ann n s.abs t = some s'.abs
 | 0, _, _, _, h => nomatch h
 | n + 1, s, s', t, h => by
  unfold topRunT at h
  unfold topRun
  cases ht : through t with
  | true => rw [ht] at h; cases h; rfl
  | false =>
   rw [ht] at h
   cases hk : stepOk n₀ ann t with
   | false => rw [hk] at h; cases h
   | true =>
    rw [hk] at h
    cases hs : stepT (denote tb) p w s t with
    | none => rw [hs] at h; cases h
    | some r => obtain ⟨s₂, t₂⟩ := r; rw [hs] at h; rw [stepT_spec hs]; exact topRun_of h
noncomputable def laidT : List Obj → BT → Nat → Option (BT × Nat)
 | [], t, n => some (t, n)
 | o :: l, t, n => match ((t.ins n o).get n).isSome with
  | true => laidT l (t.ins n o) (n + 1)
  | false => none
theorem laidT_abs {life : Life} : ∀ {l : List Obj} {t : BT} {n : Nat} {r : BT × Nat}, laidT l t n = some r → absHeap r.1 r.2 life = ⟨(absHeap t n life).objs ++ l.toArray, life⟩
 | [], t, n, r, h => by cases h; simp [absHeap]
 | o :: l, t, n, r, h => by
  unfold laidT at h
  cases e : ((t.ins n o).get n).isSome with
  | false => rw [e] at h; cases h
  | true =>
   rw [e] at h
   rw [laidT_abs h, absHeap_ins e]
   show (⟨((absHeap t n life).objs.push o) ++ l.toArray, life⟩ : Heap) = _
   congr 1
   simp
noncomputable def openT (tb : String → Option Builtin) (p : Program) (w : World) (N : Nat) : Option Shared :=
 (fencedOpening tb p w N).bind fun s₀ => match s₀.heap.isNs mainGlobals && s₀.gens.size == 0 with
  | false => none
  | true => (laidT s₀.heap.objs.toList .nil 0).bind fun r => (topRunT tb p w s₀.heap.objs.size (s₀.heap.nsMap mainGlobals "__annotations__") N ⟨r.1, r.2, s₀.heap.life, s₀.gens, s₀.drawn, s₀.toks, s₀.os⟩ (topStub p)).bind fun x =>
   match staticsOk (importedModules p.main.body) s₀.heap x.abs.heap && namesBound p x.abs.heap && gensDone x.abs && laidKept s₀.heap x.abs.heap with
   | true => some x.abs
   | false => none
theorem openT_of {s : Shared} (h : openT tb p w N = some s) : openEnds tb p w N = some s := by
 unfold openT at h
 obtain ⟨s₀, h0, h1⟩ := Option.bind_eq_some_iff.mp h
 unfold openEnds
 rw [h0]
 show topFrom tb p w N s₀ = some s
 unfold topFrom
 cases e : s₀.heap.isNs mainGlobals && s₀.gens.size == 0 with
 | false => rw [e] at h1; cases h1
 | true =>
  rw [e] at h1
  obtain ⟨r, hr, h2⟩ := Option.bind_eq_some_iff.mp h1
  obtain ⟨x, hx, h3⟩ := Option.bind_eq_some_iff.mp h2
  have a := topRun_of hx
  have hs : (SharedT.abs ⟨r.1, r.2, s₀.heap.life, s₀.gens, s₀.drawn, s₀.toks, s₀.os⟩) = s₀ := by
   have e2 := laidT_abs (life := s₀.heap.life) hr
   show (⟨absHeap r.1 r.2 s₀.heap.life, s₀.gens, s₀.drawn, s₀.toks, s₀.os⟩ : Shared) = s₀
   rw [e2]
   obtain ⟨⟨objs, life⟩, gs, d, k, os⟩ := s₀
   simp [absHeap, BT.list]
  rw [hs] at a
  show (topRun tb p w _ _ N s₀ (topStub p)).bind _ = _
  rw [a]
  exact h3
theorem leftT {q : Program} {loose : List Str} {Xt : Shared → Bool} {α : Type} {Yf : Shared → α} {Ya : World → α} {g0 : Bool}
  (h : ∀ w : World, (openT treeTable p w N).map (fun s => (openSeen q loose (importedModules p.main.body) Xt g0 s, Yf s)) = some (openGood q loose, Ya w)) : LeftO p q loose Xt Yf Ya N g0 := fun w => by
 obtain ⟨s, e, e'⟩ := Option.map_eq_some_iff.mp (h w)
 rw [openT_of e]
 exact congrArg some e'
end
end Mine
-- TJ
set_option tactic.hygienic true
namespace Mine
noncomputable def HK : Hook := kHook HP ([2,3,15,17,18,20,21,29,31,32,34,35,36,38,39,41,42,43,45,46,48,49,50,52,53,55,56,57,59,60,62,63,64,66,67,69,70,71,73,74,76,77,78,80,81,83,84,85,87,88,90,91,92,93,94,95,96,99,102,107,108,109,111,112,114,115,116,118,119,121,122,123,124,126,127,129,130,131,132,134,135,137,138,139,141,142,144,145,146,148,149,151,152,153,154,156,157,159,160,161,163,164,166,167,168,169,171,172,174,175,176,177,178,179,180,183,190,191,192,193,196,203,204,205,208,215,216,217,220,222,223,225,226,227,229,230,232,233,234,236,237,239,240,241,243,244,246,247,248,250,251,253,254,255,257,258,260,261,262,265,266] ++ [140, 147]) (fun _ => by kernel_rfl)
set_option maxHeartbeats 16000000 in
theorem said_ok : PySem.Challenge.rw_xl0021_01.wellSaid = true := by
 kernel_rfl
set_option maxHeartbeats 16000000 in
theorem left_ok : LeftO PySem.Challenge.rw_xl0021_01.row.prog vw [Str.ofString "_Accumulator"] (fun s => xlAt vw [] s && recOk (RowW.records (OpenRow.toRowW PySem.Challenge.rw_xl0021_01.row)) s) (Hook.obs HK) (Hook.val HK) 4050 := by
 refine leftT ?_
 intro w
 kernel_rfl
end Mine
set_option maxHeartbeats 16000000 in
theorem PySem.Challenge.cw_xl0021_01_holds : PySem.Challenge.rw_xl0021_01.Holds := by
 w_on
 refine PySem.W.holds_law Mine.said_ok fun said => ?_
 refine PySem.W.holds_open (q := Mine.vw) (loose := [Str.ofString "_Accumulator"]) (Xt := fun s => xlAt Mine.vw [] s && recOk (RowW.records (OpenRow.toRowW PySem.Challenge.rw_xl0021_01.row)) s) (XP := PySem.W.XL Mine.vw []) (Yf := Hook.obs Mine.HK) (Ya := Hook.val Mine.HK) (YP := Hook.says Mine.HK) (N := 4050) ?hl (Hook.of Mine.HK) (Hook.keeps Mine.HK) (fun s e => xl_of s (Bool.and_eq_true_iff.mp e).1) XL.keeps (by rfl) (by rfl) (by rfl) (fun s e => recFacts_of (Bool.and_eq_true_iff.mp e).2) (by rfl) (by first | assumption | decide +kernel) (by decide +kernel) ⟨rfl, rfl, rfl, rfl, rfl, by decide +kernel⟩ ?hw ?hc
 case hw => w_witness2
 case hl => exact Mine.left_ok
 case hc =>
  intro w s₀ s₁ mg mb G Y fa o pm cd doc dV kV ho hd' hcd hD hmg hg args vals as hpre hlay hrd hwl hlo
  have KX : (Mine.HP w.params).In s₁.heap := kIn_of Y
  refine Ground.open G ?_
  intro T B D TE TW
  exact Mine.fin_law KX T hmg hg hpre hlay hrd hwl hlo
