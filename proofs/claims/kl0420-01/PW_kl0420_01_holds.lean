import PyProof.Rows.All
import Wide.All
import OpenK.AllK
import Wide.FinOn
import PySem.Challenge.RW_kl0420_01
set_option autoImplicit false
set_option linter.all false
set_option Elab.async false
set_option tactic.hygienic false
set_option maxRecDepth 100000
set_option maxHeartbeats 0
local macro_rules | `(tactic| k_call_by "r" $t) => `(tactic| first | with_reducible refine $t | refine $t)
local macro_rules | `(tactic| k_call_by "1" $t) => `(tactic| exact $t (by assumption))
local macro_rules | `(tactic| k_call_by "2" $t) => `(tactic| exact $t (by assumption) (by assumption))
local macro_rules | `(tactic| k_call_by "3" $t) => `(tactic| exact $t _)
local macro_rules | `(tactic| k_call_by "4" $t) => `(tactic| exact $t _ _)
local macro_rules | `(tactic| k_call_by "5" $t) => `(tactic| first | with_reducible refine $t ?_ ?_ | refine $t ?_ ?_)
local macro_rules | `(tactic| k_call_by "x" $t) => `(tactic| with_reducible refine $t ?_)
local macro_rules | `(tactic| k_call_by "y" $t) => `(tactic| ((with_reducible refine $t (m := ?_) ?_ ?_); rotate_left 1; · walk_at "l"))
local macro_rules | `(tactic| k_call_by "w" $t) => `(tactic| ((with_reducible refine $t (x := ?_) (y := ?_) ?_ ?_ ?_); rotate_left 2; · walk_at "l"; · walk_at "l"))
local macro_rules | `(tactic| k_call_by "u" $t) => `(tactic| ((with_reducible refine $t ?_ ?_); · walk_at "z"))
local macro_rules | `(tactic| k_call_by "n" $t) => `(tactic| ((with_reducible refine $t ?_ ?_); · walk_at "d"))
local macro_rules | `(tactic| walk_at $k) => do
 let s := match k.getString with
  | "s1" => "1 Nat.le_of_lt 1 Nat.le_of_lt_succ 2 Nat.lt_of_lt_of_le 2 Nat.lt_of_le_of_lt 2 Nat.le_trans 2 Nat.lt_trans 1 Int.le_of_lt 2 Int.lt_of_lt_of_le 2 Int.lt_of_le_of_lt 2 Int.le_trans 1 Nat.ne_of_gt 1 Nat.ne_of_lt 1 Nat.pos_of_ne_zero 1 Nat.le_of_not_lt 1 Nat.lt_of_not_le 2 Nat.le_antisymm 3 Int.natCast_nonneg 1 Int.not_lt.mp 1 Int.not_le.mp 1 Nat.not_lt_of_le 1 Nat.not_le_of_lt 1 Int.not_lt.mpr 1 Int.not_le.mpr"
  | "q1" => "3 Nat.le_refl 3 Nat.zero_le 1 Nat.lt_succ_of_lt 4 Nat.le_add_right 4 Nat.le_add_left 3 Nat.le_succ 3 Nat.lt_succ_self 3 Nat.succ_pos 1 Nat.succ_le_succ 1 Nat.lt_succ_of_le 1 Nat.le_succ_of_le 4 Nat.sub_le 1 Nat.le_sub_one_of_lt 1 Nat.lt_of_succ_le 1 Nat.min_eq_left"
  | "e1" => "x Mine.i_setl x Mine.i_sset x Mine.i_exprl x Mine.i_sexpr x Mine.i_sret x Mine.i_sif w Mine.i_binVV w Mine.i_cmpVV w Mine.i_cmpBVV w Mine.i_itmVV y Mine.i_binVK y Mine.i_cmpBVK y Mine.i_itmVK y Mine.i_truV y Mine.i_con1V y Mine.i_calBV y Mine.i_methV y Mine.i_binV y Mine.i_conV x Mine.i_conK x Mine.i_seq x Mine.i_nil x Mine.i_set x Mine.i_expr x Mine.i_if x Mine.i_ret x Mine.i_brk x Mine.i_assert x Mine.i_K x Mine.i_bin x Mine.i_cmp x Mine.i_cmpB x Mine.i_notB x Mine.i_andB x Mine.i_orB x Mine.i_andNil x Mine.i_orNil x Mine.i_truth x Mine.i_ifE x Mine.i_neg x Mine.i_negI x Mine.i_item x Mine.i_slc x Mine.i_meth x Mine.i_callB x Mine.i_callS x Mine.i_pnil x Mine.i_pcons x Mine.i_tup x Mine.i_lst x Mine.i_fstr x Mine.l_addI x Mine.l_iaddI x Mine.l_isubI x Mine.l_subI x Mine.l_eqI x Mine.l_eqS x Mine.l_ltI x Mine.l_cInt x Mine.l_gtS x Mine.l_isSR x Mine.l_isRR x Mine.l_truthB x Mine.l_kindS x Mine.i_bm x Mine.i_swap x Mine.l_swap2 x Mine.l_exT x Mine.i_setT x Mine.l_tup2 x Mine.l_tup3 x Mine.i_for x Mine.i_forG x Mine.i_setI x Mine.i_del x Mine.l_isNN x Mine.l_isIN x Mine.l_isRN x Mine.l_isBB x Mine.i_comp x Mine.l_gtI x Mine.l_minI x Mine.l_rng1 x Mine.i_tV x Mine.i_meth0 x Mine.l_mul2 x Mine.l_swap3 x Mine.i_forX x Mine.i_and2 x Mine.i_dict0 x Mine.i_dict1 x Mine.i_tryN y Mine.i_V y Mine.i_aug y Mine.i_callBm y Mine.l_kindL y Mine.l_truthL y Mine.l_lenL y Mine.l_bm y Mine.l_iterL u Mine.l_truthS u Mine.l_sz u Mine.l_lenS u Mine.l_addS u Mine.i_fstrS n Mine.i_t n Mine.i_f n Mine.l_ass"
  | "v" => "r Mine.RefE.varL"
  | "c" => "5 Mine.RefL.cons"
  | "a" => "5 Mine.RefA.cons"
  | "i" => "5 Mine.RefE.item"
  | _ => ""
 if s == "" then Lean.Macro.throwUnsupported
 let w := (s.splitOn " ").toArray
 let x ← (Array.range (w.size / 2)).mapM fun i => `(Lean.Parser.Tactic.tacticSeq| k_call_by $(Lean.quote w[2 * i]!) $(Lean.mkIdent w[2 * i + 1]!.toName))
 `(tactic| first $[| $x:tacticSeq]*)
local macro_rules | `(tactic| walk_at "s") => `(tactic| first | assumption | walk_at "s1" | (intro; contradiction))
local macro_rules | `(tactic| walk_at "q") => `(tactic| first | assumption | walk_at "s1" | walk_at "q1" | rfl | decide | (intro; contradiction))
section
namespace Mine
open PySem PySem.Calls PyProof.Rows PySem.W
inductive MV where
 | none
 | bool (b : Bool)
 | int (i : Int)
 | str (l : List Nat)
 | tup (l : List MV)
 | ref (a : Addr)
 | bm (id : String) (a : Addr)
 | rng (a b c : Int)
inductive MO where
 | list (l : List MV)
 | dict (l : List (Int × MV)) (ep : Nat)
 | tab
noncomputable abbrev Sto := Addr → Option MO
noncomputable abbrev Loc := Nat → Option MV
noncomputable abbrev tupO (vs : List Value) (n : Nat) : Obj := { cls := .type "tuple", data := .seq vs.toArray n }
noncomputable abbrev lstO (vs : List Value) (n : Nat) : Obj := { cls := .type "list", data := .seq vs.toArray n }
noncomputable abbrev bmO (id : String) (a : Addr) : Obj := { cls := .type "builtin_function_or_method", data := .fields #[.builtin id, .ref a] }
noncomputable abbrev rngO (a b c : Int) (t u v : Tok) : Obj := { cls := .type "range", data := .fields #[.int a t, .int b u, .int c v] }
mutual
inductive Rep (h : Heap) : Value → MV → Prop
 | none : Rep h .none .none
 | bool (b : Bool) : Rep h (.bool b) (.bool b)
 | int (i : Int) (t : Tok) : Rep h (.int i t) (.int i)
 | str (l : List Nat) (t : Tok) : Rep h (.str ⟨l.toArray⟩ t) (.str l)
 | tup {a : Addr} {vs : List Value} {n : Nat} {ms : List MV} : h.get? a = some (tupO vs n) → Reps h vs ms → Rep h (.ref a) (.tup ms)
 | ref (a : Addr) : Rep h (.ref a) (.ref a)
 | bm {a b : Addr} {id : String} : h.get? a = some (bmO id b) → Rep h (.ref a) (.bm id b)
 | rng {r : Addr} {a b c : Int} {t u v : Tok} : h.get? r = some (rngO a b c t u v) → Rep h (.ref r) (.rng a b c)
inductive Reps (h : Heap) : List Value → List MV → Prop
 | nil : Reps h [] []
 | cons {v : Value} {vs : List Value} {m : MV} {ms : List MV} : Rep h v m → Reps h vs ms → Reps h (v :: vs) (m :: ms)
end
def Firm (o : Obj) : Prop := (∃ vs n, o = tupO vs n) ∨ (∃ id b, o = bmO id b) ∨ (∃ a b c t u v, o = rngO a b c t u v)
theorem Firm.not {o : Obj} (h1 : o.cls ≠ .type "tuple") (h2 : o.cls ≠ .type "builtin_function_or_method") (h3 : o.cls ≠ .type "range") : ¬ Firm o := fun h => by
 rcases h with ⟨_, _, rfl⟩ | ⟨_, _, rfl⟩ | ⟨_, _, _, _, _, _, rfl⟩
 ·exact h1 rfl
 ·exact h2 rfl
 ·exact h3 rfl
theorem Rep.mono {h h' : Heap} (k : ∀ a o, Firm o → h.get? a = some o → h'.get? a = some o) {v : Value} {m : MV} (r : Rep h v m) : Rep h' v m :=
 Rep.rec (motive_1 := fun v m _ => Rep h' v m) (motive_2 := fun vs ms _ => Reps h' vs ms) .none .bool .int .str (fun e _ ih => .tup (k _ _ (.inl ⟨_, _, rfl⟩) e) ih) .ref (fun e => .bm (k _ _ (.inr (.inl ⟨_, _, rfl⟩)) e))
  (fun e => .rng (k _ _ (.inr (.inr ⟨_, _, _, _, _, _, rfl⟩)) e)) .nil (fun _ _ a b => .cons a b) r
theorem Reps.mono {h h' : Heap} (k : ∀ a o, Firm o → h.get? a = some o → h'.get? a = some o) {vs : List Value} {ms : List MV} (r : Reps h vs ms) : Reps h' vs ms :=
 Reps.rec (motive_1 := fun v m _ => Rep h' v m) (motive_2 := fun vs ms _ => Reps h' vs ms) .none .bool .int .str (fun e _ ih => .tup (k _ _ (.inl ⟨_, _, rfl⟩) e) ih) .ref (fun e => .bm (k _ _ (.inr (.inl ⟨_, _, rfl⟩)) e))
  (fun e => .rng (k _ _ (.inr (.inr ⟨_, _, _, _, _, _, rfl⟩)) e)) .nil (fun _ _ a b => .cons a b) r
theorem Rep.keeps {h h' : Heap} (k : ∀ a o, h.get? a = some o → h'.get? a = some o) {v : Value} {m : MV} (r : Rep h v m) : Rep h' v m := r.mono fun a o _ e => k a o e
theorem Reps.keeps {h h' : Heap} (k : ∀ a o, h.get? a = some o → h'.get? a = some o) {v : List Value} {m : List MV} (r : Reps h v m) : Reps h' v m := r.mono fun a o _ e => k a o e
theorem Reps.inv {h : Heap} {v : Value} {vs : List Value} {ms : List MV} (r : Reps h (v :: vs) ms) : ∃ m l, ms = m :: l ∧ Rep h v m ∧ Reps h vs l := by
 cases r with
 | cons a b => exact ⟨_, _, rfl, a, b⟩
theorem Reps.inv0 {h : Heap} {ms : List MV} (r : Reps h [] ms) : ms = [] := by cases r; rfl
theorem Reps.length {h : Heap} {vs : List Value} : ∀ {ms : List MV}, Reps h vs ms → vs.length = ms.length := by
 induction vs with
 | nil => intro ms r; rw [r.inv0]; rfl
 | cons v vs ih => intro ms r; obtain ⟨m, l, rfl, _, b⟩ := r.inv; exact congrArg (· + 1) (ih b)
theorem Reps.append {h : Heap} {vs ws : List Value} {ms ns : List MV} (r : Reps h vs ms) (q : Reps h ws ns) : Reps h (vs ++ ws) (ms ++ ns) := by
 induction vs generalizing ms with
 | nil => rw [r.inv0]; exact q
 | cons v vs ih => obtain ⟨m, l, rfl, a, b⟩ := r.inv; exact .cons a (ih b)
theorem Reps.get {h : Heap} {vs : List Value} : ∀ {ms : List MV}, Reps h vs ms → ∀ {i : Nat} {m : MV}, ms[i]? = some m → ∃ v, vs[i]? = some v ∧ Rep h v m := by
 induction vs with
 | nil => intro ms r i m e; rw [r.inv0] at e; cases e
 | cons v vs ih =>
  intro ms r i m e
  obtain ⟨m', l, rfl, a, b⟩ := r.inv
  cases i with
  | zero => cases e; exact ⟨_, rfl, a⟩
  | succ i => exact ih b e
theorem Reps.set {h : Heap} {vs : List Value} : ∀ {ms : List MV}, Reps h vs ms → ∀ (i : Nat) {v : Value} {m : MV}, Rep h v m → Reps h (vs.set i v) (ms.set i m) := by
 induction vs with
 | nil => intro ms r i v m _; rw [r.inv0]; exact .nil
 | cons w vs ih =>
  intro ms r i v m q
  obtain ⟨m', l, rfl, a, b⟩ := r.inv
  cases i with
  | zero => exact .cons q b
  | succ i => exact .cons a (ih b i q)
theorem Reps.drop {h : Heap} {vs : List Value} : ∀ {ms : List MV}, Reps h vs ms → ∀ (i : Nat), Reps h (vs.drop i) (ms.drop i) := by
 induction vs with
 | nil => intro ms r i; rw [r.inv0, List.drop_nil, List.drop_nil]; exact .nil
 | cons v vs ih =>
  intro ms r i
  obtain ⟨m, l, rfl, a, b⟩ := r.inv
  cases i with
  | zero => exact .cons a b
  | succ i => exact ih b i
theorem Reps.take {h : Heap} {vs : List Value} : ∀ {ms : List MV}, Reps h vs ms → ∀ (i : Nat), Reps h (vs.take i) (ms.take i) := by
 induction vs with
 | nil => intro ms r i; rw [r.inv0, List.take_nil, List.take_nil]; exact .nil
 | cons v vs ih =>
  intro ms r i
  obtain ⟨m, l, rfl, a, b⟩ := r.inv
  cases i with
  | zero => exact .nil
  | succ i => exact .cons a (ih b i)
theorem Reps.reverse {h : Heap} {vs : List Value} {ms : List MV} (r : Reps h vs ms) : Reps h vs.reverse ms.reverse := by
 induction vs generalizing ms with
 | nil => cases r; exact .nil
 | cons v vs ih =>
  cases r with
  | cons a b => simpa using Reps.append (ih b) (.cons a .nil)
def Airy (o : Obj) : Prop := (o.cls = .type "IndexError" ∨ o.cls = .type "traceback") ∧ ∃ vs, o.data = .fields vs
def IsD (o : Obj) : Prop := ∃ es ep, o.data = .dict es ep
theorem IsD.nf {o : Obj} (h : IsD o) : ∀ vs, o.data ≠ .fields vs := fun vs q => by obtain ⟨es, ep, e⟩ := h; rw [e] at q; cases q
def SlotEq (o o' : Obj) : Prop := o'.cls = o.cls ∧ (Airy o → Airy o') ∧ (¬ Airy o → o'.dict = o.dict ∧ o'.data = o.data ∧ (¬ IsD o → o' = o))
theorem SlotEq.refl (o : Obj) : SlotEq o o := ⟨rfl, id, fun _ => ⟨rfl, rfl, fun _ => rfl⟩⟩
theorem SlotEq.airy {o o' : Obj} (x : SlotEq o o') (h : ¬ Airy o) : ¬ Airy o' := fun q => h ⟨x.1 ▸ q.1, (x.2.2 h).2.1 ▸ q.2⟩
theorem SlotEq.trans {a b c : Obj} (x : SlotEq a b) (y : SlotEq b c) : SlotEq a c :=
 ⟨y.1.trans x.1, fun h => y.2.1 (x.2.1 h), fun h =>
  have x' := x.2.2 h
  have y' := y.2.2 (x.airy h)
  ⟨y'.1.trans x'.1, y'.2.1.trans x'.2.1, fun q => have e := x'.2.2 q; (y'.2.2 (e ▸ q)).trans e⟩⟩
theorem not_airy_of_cls {o : Obj} {T : String} (h : o.cls = .type T) (h1 : T ≠ "IndexError") (h2 : T ≠ "traceback") : ¬ Airy o := by
 rintro ⟨q | q, _⟩ <;> rw [h] at q <;> injection q with q <;> first | exact h1 q | exact h2 q
theorem not_airy_of_data {o : Obj} (h : ∀ vs, o.data ≠ .fields vs) : ¬ Airy o := fun ⟨_, vs, e⟩ => h vs e
theorem Firm.cls {o : Obj} (f : Firm o) : ∃ T, o.cls = .type T ∧ T ≠ "IndexError" ∧ T ≠ "traceback" ∧ ¬ IsD o := by
 rcases f with ⟨_, _, rfl⟩ | ⟨_, _, rfl⟩ | ⟨_, _, _, _, _, _, rfl⟩ <;> exact ⟨_, rfl, by decide, by decide, fun ⟨_, _, e⟩ => by cases e⟩
theorem SlotEq.firm {o o' : Obj} (x : SlotEq o o') (f : Firm o) : o' = o := by
 obtain ⟨T, h, h1, h2, h3⟩ := f.cls
 exact (x.2.2 (not_airy_of_cls h h1 h2)).2.2 h3
theorem SlotEq.data {o o' : Obj} (x : SlotEq o o') (h : ∀ vs, o.data ≠ .fields vs) : o'.data = o.data := (x.2.2 (not_airy_of_data h)).2.1
theorem SlotEq.same {o o' : Obj} {T : String} (x : SlotEq o o') (h : o.cls = .type T) (h1 : T ≠ "IndexError") (h2 : T ≠ "traceback") (h3 : ¬ IsD o) : o' = o :=
 (x.2.2 (not_airy_of_cls h h1 h2)).2.2 h3
structure Ktx where
 prog : Program
 w : World
 h0 : Heap
 os : OsState
noncomputable abbrev Ktx.M (K : Ktx) : Model := model K.prog K.w
inductive SLst (h : Heap) (a : Addr) (l : List MV) : Prop
 | mk (vs : List Value) (n : Nat) (e : h.get? a = some (lstO vs n)) (r : Reps h vs l) (hz : l.length ≤ sizeLine)
inductive SDct (K : Ktx) (h : Heap) (a : Addr) (l : List (Int × MV)) (ep : Nat) : Prop
 | mk (kvs : List (Int × Value)) (d : Heap.DictAt (intKind K.prog K.w) h a kvs ep) (r : Reps h (kvs.map (·.2)) (l.map (·.2))) (e : kvs.map (·.1) = l.map (·.1))
noncomputable def SRep (K : Ktx) (h : Heap) (a : Addr) : MO → Prop
 | .list l => SLst h a l
 | .dict l ep => SDct K h a l ep
 | .tab => ∃ ps, h.get? a = some (tabObj ps) ∧ TriplesOk ps.toList
theorem SRep.there {K : Ktx} {h : Heap} {a : Addr} {mo : MO} (x : SRep K h a mo) : ∃ o, h.get? a = some o ∧ ¬ Firm o := by
 cases mo with
 | list l => obtain ⟨vs, n, e, _⟩ := x; exact ⟨_, e, Firm.not (show Value.type "list" ≠ _ by decide) (show Value.type "list" ≠ _ by decide) (show Value.type "list" ≠ _ by decide)⟩
 | dict l ep =>
  obtain ⟨kvs, ⟨o, es, e, hx, hd, _⟩, _⟩ := x
  exact ⟨o, e, Firm.not (by rw [hx.1]; decide) (by rw [hx.1]; decide) (by rw [hx.1]; decide)⟩
 | tab => obtain ⟨ps, e, _⟩ := x; exact ⟨_, e, Firm.not (show Value.none ≠ _ by decide) (show Value.none ≠ _ by decide) (show Value.none ≠ _ by decide)⟩
theorem SRep.at {K : Ktx} {h h' : Heap} {a : Addr} {mo : MO} (x : SRep K h a mo) (e : ∀ o, h.get? a = some o → h'.get? a = some o) (k : ∀ a o, Firm o → h.get? a = some o → h'.get? a = some o) : SRep K h' a mo := by
 cases mo with
 | list l => obtain ⟨vs, n, g, r, hz⟩ := x; exact ⟨vs, n, e _ g, r.mono k, hz⟩
 | dict l ep => obtain ⟨kvs, ⟨o, es, g, r⟩, r1, r2⟩ := x; exact ⟨kvs, ⟨o, es, e _ g, r⟩, r1.mono k, r2⟩
 | tab => obtain ⟨ps, g, r⟩ := x; exact ⟨ps, e _ g, r⟩
structure SInv (K : Ktx) (σ : Sto) (s : Shared) : Prop where
 old : ∀ b o, K.h0.get? b = some o → s.heap.get? b = some o
 apart : ∀ b o, K.h0.get? b = some o → σ b = none
 sto : ∀ a mo, σ a = some mo → SRep K s.heap a mo
 os : s.os = K.os
 bare : AllBare s.gens
inductive Kept (h : Heap) (b : Addr) (o : Obj) : Prop
 | mk (o' : Obj) (e : h.get? b = some o') (q : SlotEq o o')
structure Stp (own : List Addr) (σ : Sto) (s : Shared) (σ' : Sto) (s' : Shared) : Prop where
 keep : ∀ b o, s.heap.get? b = some o → σ b = none → b ∉ own → Kept s'.heap b o
 dom : ∀ b o, s.heap.get? b = some o → σ b = none → b ∉ own → σ' b = none
 gens : ∀ (g : Nat) (x : GenState), s.gens[g]? = some x → s'.gens[g]? = some x
theorem Stp.refl (own : List Addr) (σ : Sto) (s : Shared) : Stp own σ s σ s := ⟨fun _ o e _ _ => ⟨o, e, .refl o⟩, fun _ _ _ e _ => e, fun _ _ e => e⟩
theorem Stp.trans {own : List Addr} {σ σ' σ'' : Sto} {s s' s'' : Shared} (x : Stp own σ s σ' s') (y : Stp own σ' s' σ'' s'') : Stp own σ s σ'' s'' :=
 ⟨fun b o e h1 h2 => by
  obtain ⟨o', e', q⟩ := x.keep b o e h1 h2
  obtain ⟨o'', e'', q'⟩ := y.keep b o' e' (x.dom b o e h1 h2) h2
  exact ⟨o'', e'', q.trans q'⟩,
  fun b o e h1 h2 => by obtain ⟨o', e', _⟩ := x.keep b o e h1 h2; exact y.dom b o' e' (x.dom b o e h1 h2) h2, fun g z e => y.gens g z (x.gens g z e)⟩
theorem Stp.mono {own own' : List Addr} {σ σ' : Sto} {s s' : Shared} (x : Stp own σ s σ' s') (h : ∀ b ∈ own, b ∈ own') : Stp own' σ s σ' s' :=
 ⟨fun b o e h1 h2 => x.keep b o e h1 fun hb => h2 (h b hb), fun b o e h1 h2 => x.dom b o e h1 fun hb => h2 (h b hb), x.gens⟩
theorem Stp.nil {own : List Addr} {σ σ' : Sto} {s s' : Shared} (x : Stp [] σ s σ' s') : Stp own σ s σ' s' := x.mono fun _ h => nomatch h
theorem Stp.drop {own fp : List Addr} {σ σ' : Sto} {s s₁ s' : Shared} (x : Stp fp σ s₁ σ' s') (k : ∀ b o, s.heap.get? b = some o → s₁.heap.get? b = some o) (hg : ∀ (g : Nat) (x : GenState), s.gens[g]? = some x → s₁.gens[g]? = some x)
  (hn : ∀ b ∈ fp, b ∈ own ∨ s.heap.get? b = none) : Stp own σ s σ' s' :=
 have off : ∀ b o, s.heap.get? b = some o → b ∉ own → b ∉ fp := fun b o e h2 hb => (hn b hb).elim h2 (fun q => (by rw [e] at q; cases q))
 ⟨fun b o e h1 h2 => x.keep b o (k b o e) h1 (off b o e h2), fun b o e h1 h2 => x.dom b o (k b o e) h1 (off b o e h2), fun g z e => x.gens g z (hg g z e)⟩
theorem Stp.grow {own : List Addr} {σ : Sto} {s : Shared} {h' : Heap} {tk : Nat} (k : ∀ b o, s.heap.get? b = some o → h'.get? b = some o) : Stp own σ s σ { s with heap := h', toks := tk } :=
 ⟨fun b o e _ _ => ⟨o, k b o e, .refl o⟩, fun _ _ _ e _ => e, fun _ _ e => e⟩
theorem SInv.firm {K : Ktx} {σ : Sto} {s : Shared} (I : SInv K σ s) {a : Addr} {o : Obj} (e : s.heap.get? a = some o) (f : Firm o) : σ a = none := by
 cases q : σ a with
 | none => rfl
 | some mo =>
  obtain ⟨o', e', nf⟩ := (I.sto a mo q).there
  rw [e] at e'; cases e'
  exact absurd f nf
theorem Stp.firm {K : Ktx} {σ σ' : Sto} {s s' : Shared} (x : Stp [] σ s σ' s') (I : SInv K σ s) : ∀ a o, Firm o → s.heap.get? a = some o → s'.heap.get? a = some o := fun a o f e => by
 obtain ⟨o', e', q⟩ := x.keep a o e (I.firm e f) (by simp)
 rw [e', q.firm f]
theorem Rep.step {K : Ktx} {σ σ' : Sto} {s s' : Shared} {v : Value} {m : MV} (r : Rep s.heap v m) (x : Stp [] σ s σ' s') (I : SInv K σ s) : Rep s'.heap v m := r.mono (x.firm I)
theorem Reps.step {K : Ktx} {σ σ' : Sto} {s s' : Shared} {v : List Value} {m : List MV} (r : Reps s.heap v m) (x : Stp [] σ s σ' s') (I : SInv K σ s) : Reps s'.heap v m := r.mono (x.firm I)
theorem SInv.grow {K : Ktx} {σ : Sto} {s : Shared} (I : SInv K σ s) {h' : Heap} {tk : Nat} (k : ∀ b o, s.heap.get? b = some o → h'.get? b = some o) : SInv K σ { s with heap := h', toks := tk } :=
 ⟨fun b o e => k b o (I.old b o e), I.apart, fun a mo e => (I.sto a mo e).at (fun o g => k a o g) fun a o _ g => k a o g, I.os, I.bare⟩
noncomputable def put (σ : Sto) (a : Addr) (mo : MO) : Sto := fun b => if b = a then some mo else σ b
@[simp] theorem put_self (σ : Sto) (a : Addr) (mo : MO) : put σ a mo a = some mo := by simp [put]
theorem put_other (σ : Sto) {a b : Addr} (mo : MO) (h : b ≠ a) : put σ a mo b = σ b := by simp [put, h]
theorem SInv.alloc {K : Ktx} {σ : Sto} {s : Shared} (I : SInv K σ s) {h' : Heap} {tk : Nat} {a : Addr} {mo : MO} (k : ∀ b o, s.heap.get? b = some o → h'.get? b = some o) (ha : s.heap.get? a = none) (r : SRep K h' a mo) : SInv K (put σ a mo) { s with heap := h', toks := tk } := by
 have I' := I.grow (tk := tk) k
 refine ⟨I'.old, fun b o e => ?_, fun b m e => ?_, I'.os, I'.bare⟩
 ·have hb : b ≠ a := fun q => by rw [q] at e; have := I.old _ _ e; rw [ha] at this; cases this
  rw [put_other _ _ hb]; exact I.apart b o e
 ·by_cases hb : b = a
  ·subst hb; simp at e; subst e; exact r
  ·rw [put_other _ _ hb] at e; exact I'.sto b m e
theorem Stp.alloc {own : List Addr} {σ : Sto} {s : Shared} {h' : Heap} {tk : Nat} {a : Addr} {mo : MO} (k : ∀ b o, s.heap.get? b = some o → h'.get? b = some o) (ha : s.heap.get? a = none) : Stp own σ s (put σ a mo) { s with heap := h', toks := tk } :=
 ⟨fun b o e _ _ => ⟨o, k b o e, .refl o⟩, fun b o e h _ => by rw [put_other _ _ (fun q => by rw [q, ha] at e; cases e)]; exact h, fun _ _ e => e⟩
theorem SInv.turn {K : Ktx} {σ : Sto} {s : Shared} (I : SInv K σ s) {h' : Heap} {tk : Nat} {a : Addr} {mo mo' : MO} (hs : Heap.ExtBut a s.heap h') (ha : σ a = some mo) (r : SRep K h' a mo') : SInv K (put σ a mo') { s with heap := h', toks := tk } := by
 have hn : ∀ b o, K.h0.get? b = some o → b ≠ a := fun b o e q => by have := I.apart b o e; rw [q, ha] at this; cases this
 have hf : ∀ b o, Firm o → s.heap.get? b = some o → h'.get? b = some o := fun b o f e => hs b o (fun q => by have := I.firm e f; rw [q, ha] at this; cases this) e
 refine ⟨fun b o e => hs b o (hn b o e) (I.old b o e), fun b o e => ?_, fun b m e => ?_, I.os, I.bare⟩
 ·rw [put_other _ _ (hn b o e)]; exact I.apart b o e
 ·by_cases hb : b = a
  ·subst hb; simp at e; subst e; exact r
  ·rw [put_other _ _ hb] at e; exact (I.sto b m e).at (fun o g => hs b o hb g) hf
theorem Stp.turn {own : List Addr} {σ : Sto} {s : Shared} {h' : Heap} {tk : Nat} {a : Addr} {mo mo' : MO} (hs : Heap.ExtBut a s.heap h') (ha : σ a = some mo) : Stp own σ s (put σ a mo') { s with heap := h', toks := tk } :=
 ⟨fun b o e h _ => ⟨o, hs b o (fun q => by rw [q, ha] at h; cases h) e, .refl o⟩, fun b _ _ e _ => by rw [put_other _ _ (fun q => by rw [q, ha] at e; cases e)]; exact e, fun _ _ e => e⟩
inductive FrE (K : Ktx) (σ : Sto) (h : Heap) (e : Env) : Prop
 | mk (k : e.scope.kind ≠ .module) (L : Addr) (o : Obj) (a1 : e.frame = some L) (a2 : h.get? L = some o) (a3 : IsD o) (a4 : σ L = none) (a5 : K.h0.get? L = none)
def FrOk (K : Ktx) (A : Around) (σ : Sto) (h : Heap) : Prop :=
 ∃ l, A.frames = some l ∧ ∀ e ∈ l, FrE K σ h e
theorem FrOk.step {K : Ktx} {A : Around} {σ σ' : Sto} {s s' : Shared} (x : FrOk K A σ s.heap) (st : Stp [] σ s σ' s') : FrOk K A σ' s'.heap := by
 obtain ⟨l, h1, h2⟩ := x
 refine ⟨l, h1, fun e he => ?_⟩
 obtain ⟨k, L, o, a1, a2, a3, a4, a5⟩ := h2 e he
 obtain ⟨o', e', q⟩ := st.keep L o a2 a4 (by simp)
 exact ⟨k, L, o', a1, e', (let ⟨es, ep, hd⟩ := a3; ⟨es, ep, (q.data a3.nf).trans hd⟩), st.dom L o a2 a4 (by simp), a5⟩
theorem FrOk.sameBut {K : Ktx} {A : Around} {σ : Sto} {h h' : Heap} (x : FrOk K A σ h) {L : Addr} (hs : Heap.ExtBut L h h') (hL : (∃ o, h'.get? L = some o ∧ IsD o) ∨ ∃ o, h.get? L = some o ∧ ¬ IsD o) : FrOk K A σ h' := by
 obtain ⟨l, h1, h2⟩ := x
 refine ⟨l, h1, fun e he => ?_⟩
 obtain ⟨k, L', o, a1, a2, a3, a4, a5⟩ := h2 e he
 by_cases q : L' = L
 ·subst q
  rcases hL with ⟨o', e', f⟩ | ⟨o', e', f⟩
  ·exact ⟨k, L', o', a1, e', f, a4, a5⟩
  ·rw [a2] at e'; cases e'; exact absurd a3 f
 ·exact ⟨k, L', o, a1, hs L' o q a2, a3, a4, a5⟩
def Room (d : Nat) (A : Around) : Prop := A.handled = none ∧ A.depth + d ≤ 500 ∧ A.units + 100 * d ≤ 5000
theorem Room.mono {d d' : Nat} {A : Around} (x : Room d A) (h : d' ≤ d) : Room d' A := ⟨x.1, by have := x.2.1; (subst_vars; omega), by have := x.2.2; (subst_vars; lia)⟩
inductive AtR (h : Heap) (o : Option Value) (mv : MV) : Prop
 | mk (v : Value) (e : o = some v) (r : Rep h v mv)
inductive NsOk (env : Env) (nm : List Str) (ρ : Loc) (h : Heap) : Prop
 | mk (m : Str → Option Value) (hn : h.Ns env.locals m) (hv : ∀ i x mv, nm[i]? = some x → env.kindOf x = some .local → ρ i = some mv → AtR h (m x) mv)
inductive CelOk (env : Env) (nm : List Str) (ρ : Loc) (h : Heap) (x : Str) (c : Addr) : Prop
 | mk (vo : Option Value) (hc : h.IsCell c vo) (hv : ∀ i mv, nm[i]? = some x → (env.kindOf x = some .cell ∨ env.kindOf x = some .free) → ρ i = some mv → AtR h vo mv)
structure FInv (K : Ktx) (env : Env) (nm : List Str) (ρ : Loc) (A : Around) (σ : Sto) (s : Shared) : Prop where
 inv : SInv K σ s
 ns : NsOk env nm ρ s.heap
 cells : ∀ x c, (x, c) ∈ env.cells → CelOk env nm ρ s.heap x c
 offL : σ env.locals = none ∧ K.h0.get? env.locals = none
 offC : ∀ x c, (x, c) ∈ env.cells → σ c = none ∧ K.h0.get? c = none ∧ c ≠ env.locals
 sep : ∀ x y c, (x, c) ∈ env.cells → (y, c) ∈ env.cells → x = y
 one : ∀ x c c', (x, c) ∈ env.cells → (x, c') ∈ env.cells → c = c'
 stk : FrOk K A σ s.heap
 top : env.func.isSome = true → (∃ l, A.frames = some (env :: l)) ∧ env.frame = some env.locals
theorem nodup_idx {α : Type} : ∀ {l : List α}, l.Nodup → ∀ {i j : Nat} {x : α}, l[i]? = some x → l[j]? = some x → i = j
 | [], _, _, _, _, h, _ => by simp at h
 | a :: l, hn, 0, 0, x, _, _ => rfl
 | a :: l, hn, 0, j + 1, x, h, k => by
  simp at h k; subst h
  exact absurd (List.mem_of_getElem? k) (List.nodup_cons.mp hn).1
 | a :: l, hn, i + 1, 0, x, h, k => by
  simp at h k; subst k
  exact absurd (List.mem_of_getElem? h) (List.nodup_cons.mp hn).1
 | a :: l, hn, i + 1, j + 1, x, h, k => by
  simp at h k
  rw [nodup_idx (List.nodup_cons.mp hn).2 h k]
noncomputable def ownOf (env : Env) : List Addr := env.locals :: env.cells.map (·.2)
theorem Heap.Ns.slot {h h' : Heap} {a : Addr} {m : Str → Option Value} (n : h.Ns a m) (k : ∀ o, h.get? a = some o → Kept h' a o) : h'.Ns a m := by
 obtain ⟨o, es, ep, e, hd, r⟩ := n
 obtain ⟨o', e', q⟩ := k o e
 exact ⟨o', es, ep, e', (q.data (fun vs z => by rw [hd] at z; cases z)).trans hd, r⟩
theorem Heap.IsCell.slot {h h' : Heap} {a : Addr} {v : Option Value} (n : h.IsCell a v) (k : ∀ o, h.get? a = some o → Kept h' a o) : h'.IsCell a v := by
 obtain ⟨o, e, hd⟩ := n
 obtain ⟨o', e', q⟩ := k o e
 exact ⟨o', e', (q.data (fun vs z => by rw [hd] at z; cases z)).trans hd⟩
theorem FInv.step {K : Ktx} {env : Env} {nm : List Str} {ρ : Loc} {A : Around} {σ σ' : Sto} {s s' : Shared} (x : FInv K env nm ρ A σ s) (I : SInv K σ' s') (st : Stp [] σ s σ' s') : FInv K env nm ρ A σ' s' := by
 obtain ⟨m, hn, hv⟩ := x.ns
 have kf := st.firm x.inv
 refine ⟨I, ⟨m, Heap.Ns.slot hn fun o e => st.keep _ o e x.offL.1 (by simp), fun i y mv h1 h2 h3 => ?_⟩, fun y c hc => ?_, ⟨by obtain ⟨o, _, _, e, _⟩ := hn; exact st.dom _ o e x.offL.1 (by simp), x.offL.2⟩, fun y c hc => ?_, x.sep, x.one, x.stk.step st, x.top⟩
 ·obtain ⟨v, h4, h5⟩ := hv i y mv h1 h2 h3; exact ⟨v, h4, h5.mono kf⟩
 ·obtain ⟨vo, h1, h2⟩ := x.cells y c hc
  refine ⟨vo, Heap.IsCell.slot h1 fun o e => st.keep _ o e (x.offC y c hc).1 (by simp), fun i mv q1 q2 q3 => ?_⟩
  obtain ⟨v, h4, h5⟩ := h2 i mv q1 q2 q3; exact ⟨v, h4, h5.mono kf⟩
 ·obtain ⟨vo, h1, h2⟩ := x.cells y c hc
  exact ⟨by obtain ⟨o, e, _⟩ := h1; exact st.dom _ o e (x.offC y c hc).1 (by simp), (x.offC y c hc).2⟩
theorem FInv.grow {K : Ktx} {env : Env} {nm : List Str} {ρ : Loc} {A : Around} {σ : Sto} {s : Shared} (x : FInv K env nm ρ A σ s) {h' : Heap} {tk : Nat} (k : ∀ b o, s.heap.get? b = some o → h'.get? b = some o) : FInv K env nm ρ A σ { s with heap := h', toks := tk } :=
 x.step (x.inv.grow k) (.grow k)
noncomputable abbrev PE := Loc → Sto → (MV → Sto → Prop) → (Sto → Prop) → Prop
noncomputable abbrev PB := Loc → Sto → (Bool → Sto → Prop) → (Sto → Prop) → Prop
noncomputable abbrev PA := Loc → Sto → (List MV → Sto → Prop) → (Sto → Prop) → Prop
inductive MF where
 | next | brk | cont
 | ret (m : MV)
noncomputable abbrev PS := Loc → Sto → (MF → Loc → Sto → Prop) → (Sto → Prop) → Prop
inductive TbAt (K : Ktx) (h : Heap) (vs : Array Value) : Prop
 | mk (T : Addr) (oT : Obj) (ts : Array Value) (b1 : vs[1]? = some (.ref T)) (b2 : K.h0.get? T = none) (b3 : h.get? T = some oT) (b4 : oT.cls = .type "traceback") (b5 : oT.data = .fields ts) (b6 : 3 < ts.size)
inductive ExcAt (K : Ktx) (h : Heap) (e : Value) : Prop
 | mk (a : Addr) (oe : Obj) (vs : Array Value) (h1 : e = .ref a) (h2 : K.h0.get? a = none) (h3 : h.get? a = some oe) (h4 : oe.cls = .type "IndexError") (h5 : oe.data = .fields vs) (h6 : 1 < vs.size) (h7 : vs[1]? = some .none ∨ TbAt K h vs)
inductive PostE (K : Ktx) (σ : Sto) (s : Shared) (Q : MV → Sto → Prop) (v : Value) (s' : Shared) : Prop
 | mk (m : MV) (σ' : Sto) (r : Rep s'.heap v m) (I : SInv K σ' s') (st : Stp [] σ s σ' s') (q : Q m σ')
inductive PostA (K : Ktx) (σ : Sto) (s : Shared) (Q : List MV → Sto → Prop) (v : List Value) (s' : Shared) : Prop
 | mk (m : List MV) (σ' : Sto) (r : Reps s'.heap v m) (I : SInv K σ' s') (st : Stp [] σ s σ' s') (q : Q m σ')
inductive PostB (K : Ktx) (σ : Sto) (s : Shared) (Q : Bool → Sto → Prop) (b : Bool) (s' : Shared) : Prop
 | mk (σ' : Sto) (I : SInv K σ' s') (st : Stp [] σ s σ' s') (q : Q b σ')
inductive PostX (K : Ktx) (own : List Addr) (σ : Sto) (s : Shared) (X : Sto → Prop) (e : Value) (s' : Shared) : Prop
 | mk (σ' : Sto) (r : ExcAt K s'.heap e) (I : SInv K σ' s') (st : Stp own σ s σ' s') (q : X σ')
theorem PostE.from {K : Ktx} {σ σ₁ : Sto} {s s₁ : Shared} {Q : MV → Sto → Prop} {v : Value} {s' : Shared} (st : Stp [] σ s σ₁ s₁) : PostE K σ₁ s₁ Q v s' → PostE K σ s Q v s' :=
 fun ⟨m, σ', r, I, st', q⟩ => ⟨m, σ', r, I, st.trans st', q⟩
theorem PostA.from {K : Ktx} {σ σ₁ : Sto} {s s₁ : Shared} {Q : List MV → Sto → Prop} {v : List Value} {s' : Shared} (st : Stp [] σ s σ₁ s₁) : PostA K σ₁ s₁ Q v s' → PostA K σ s Q v s' :=
 fun ⟨m, σ', r, I, st', q⟩ => ⟨m, σ', r, I, st.trans st', q⟩
theorem PostB.from {K : Ktx} {σ σ₁ : Sto} {s s₁ : Shared} {Q : Bool → Sto → Prop} {v : Bool} {s' : Shared} (st : Stp [] σ s σ₁ s₁) : PostB K σ₁ s₁ Q v s' → PostB K σ s Q v s' :=
 fun ⟨σ', I, st', q⟩ => ⟨σ', I, st.trans st', q⟩
theorem PostX.from {K : Ktx} {own : List Addr} {σ σ₁ : Sto} {s s₁ : Shared} {X : Sto → Prop} {v : Value} {s' : Shared} (st : Stp own σ s σ₁ s₁) : PostX K own σ₁ s₁ X v s' → PostX K own σ s X v s' :=
 fun ⟨σ', r, I, st', q⟩ => ⟨σ', r, I, st.trans st', q⟩
theorem PostX.nil {K : Ktx} {own : List Addr} {σ : Sto} {s : Shared} {X : Sto → Prop} {v : Value} {s' : Shared} : PostX K [] σ s X v s' → PostX K own σ s X v s' :=
 fun ⟨σ', r, I, st', q⟩ => ⟨σ', r, I, st'.nil, q⟩
section
variable (K : Ktx) (d : Nat) (env : Env) (nm : List Str)
def RefE (e : Expr) (P : PE) : Prop := ∀ A ρ σ s Q X, Room d A → FInv K env nm ρ A σ s → P ρ σ Q X → wpAny K.M A (eval e env) (PostE K σ s Q) (PostX K [] σ s X) s
def RefB (e : Expr) (P : PB) : Prop := ∀ A ρ σ s Q X, Room d A → FInv K env nm ρ A σ s → P ρ σ Q X → wpAny K.M A (isTrue e env (eval e env)) (PostB K σ s Q) (PostX K [] σ s X) s
def RefBs (op : BoolOp) (es : List Expr) (P : PB) : Prop := ∀ A ρ σ s Q X, Room d A → FInv K env nm ρ A σ s → P ρ σ Q X → wpAny K.M A (allTrue op es env) (PostB K σ s Q) (PostX K [] σ s X) s
def RefA (es : List Expr) (P : PA) : Prop := ∀ A ρ σ s Q X (pos : Pos), Room d A → FInv K env nm ρ A σ s → P ρ σ Q X → wpAny K.M A (spliced (backTo pos (starEach es env))) (PostA K σ s Q) (PostX K [] σ s X) s
def SoundF (a : Addr) (S : List MV → Sto → (MV → Sto → Prop) → (Sto → Prop) → Prop) : Prop :=
 ∀ A s σ vals ms Q X, Room d A → SInv K σ s → FrOk K A σ s.heap → Reps s.heap vals ms → S ms σ Q X →
  codeAny K.M A (.call (.ref a) ⟨vals, []⟩) (fun r s' => match r with | .ok (.ret v) => PostE K σ s Q v s' | .ok _ => False | .error e => PostX K [] σ s X e s') s
end
theorem postE_now {K : Ktx} {σ : Sto} {s : Shared} {Q : MV → Sto → Prop} {v : Value} {m : MV} (I : SInv K σ s) (r : Rep s.heap v m) (q : Q m σ) : PostE K σ s Q v s := ⟨m, σ, r, I, .refl .., q⟩
theorem postE_tok {K : Ktx} {σ : Sto} {s : Shared} {Q : MV → Sto → Prop} {v : Value} {m : MV} {tk : Nat} (I : SInv K σ s) (r : Rep s.heap v m) (q : Q m σ) : PostE K σ s Q v { s with toks := tk } :=
 ⟨m, σ, r, I.grow (h' := s.heap) (tk := tk) (fun _ _ e => e), .grow (h' := s.heap) (fun _ _ e => e), q⟩
theorem postB_now {K : Ktx} {σ : Sto} {s : Shared} {Q : Bool → Sto → Prop} {b : Bool} (I : SInv K σ s) (q : Q b σ) : PostB K σ s Q b s := ⟨σ, I, .refl .., q⟩
section
variable {K : Ktx} {d : Nat} {env : Env} {nm : List Str}
def pK (m : MV) : PE := fun _ σ Q _ => Q m σ
theorem RefE.int {i : Int} {k : Nat} {pos : Pos} : RefE K d env nm (.Constant (.int i) k pos) (pK (.int i)) := fun A ρ σ s Q X _ F p => wpAny_Constant_int (postE_tok F.inv (.int _ _) p)
theorem RefE.bool {b : Bool} {k : Nat} {pos : Pos} : RefE K d env nm (.Constant (.bool b) k pos) (pK (.bool b)) := fun A ρ σ s Q X _ F p => wpAny_Constant_bool (postE_now F.inv (.bool _) p)
theorem RefE.none {k : Nat} {pos : Pos} : RefE K d env nm (.Constant .none k pos) (pK .none) := fun A ρ σ s Q X _ F p => wpAny_Constant_none (postE_now F.inv .none p)
theorem RefE.str {x : Str} {k : Nat} {pos : Pos} {l : List Nat} (hl : x = ⟨l.toArray⟩ := by rfl) : RefE K d env nm (.Constant (.str x) k pos) (pK (.str l)) := fun A ρ σ s Q X _ F p => by
 subst hl
 exact wpAny_Constant_str (postE_tok F.inv (.str _ _) p)
def pV (i : Nat) : PE := fun ρ σ Q _ => ∃ m, ρ i = some m ∧ Q m σ
theorem RefE.varL {x : Str} {pos : Pos} {i : Nat} (hi : nm[i]? = some x := by rfl) (hl : env.kindOf x = some .local := by rfl) (hk : env.scope.kind = .function := by rfl) (hd : (x == ("__debug__" : Str)) = false := by decide) :
  RefE K d env nm (.Name x pos) (pV i) := fun A ρ σ s Q X _ F p => by
 obtain ⟨m, hm, q⟩ := p
 obtain ⟨f, hn, hv⟩ := F.ns
 obtain ⟨v, h1, h2⟩ := hv i x m hi hl hm
 exact wpAny_Name (wpAny_loadName_local hk hl hn h1 (postE_now F.inv h2 q)) hd
theorem RefE.varC {x : Str} {pos : Pos} {i : Nat} {c : Addr} (hi : nm[i]? = some x := by rfl) (hl : env.kindOf x = some .cell := by rfl) (hc : env.cells.lookup x = some c := by rfl) (hk : env.scope.kind = .function := by rfl) (hd : (x == ("__debug__" : Str)) = false := by decide) :
  RefE K d env nm (.Name x pos) (pV i) := fun A ρ σ s Q X _ F p => by
 obtain ⟨m, hm, q⟩ := p
 obtain ⟨vo, h1, h2⟩ := F.cells x c (mem_of_lookup hc)
 obtain ⟨v, rfl, h3⟩ := h2 i m hi (.inl hl) hm
 exact wpAny_Name (wpAny_loadName_cell hk hl hc h1 (postE_now F.inv h3 q)) hd
theorem RefE.varF {x : Str} {pos : Pos} {i : Nat} {c : Addr} (hi : nm[i]? = some x := by rfl) (hl : env.kindOf x = some .free := by rfl) (hc : env.cells.lookup x = some c := by rfl) (hk : env.scope.kind = .function := by rfl) (hd : (x == ("__debug__" : Str)) = false := by decide)
  (hd' : (x == ("__classdict__" : Str)) = false := by decide) :
  RefE K d env nm (.Name x pos) (pV i) := fun A ρ σ s Q X _ F p => by
 obtain ⟨m, hm, q⟩ := p
 obtain ⟨vo, h1, h2⟩ := F.cells x c (mem_of_lookup hc)
 obtain ⟨v, rfl, h3⟩ := h2 i m hi (.inr hl) hm
 exact wpAny_Name (wpAny_loadName_free hk hl hc h1 (postE_now F.inv h3 q) hd') hd
noncomputable abbrev MOp2 := MV → MV → Sto → (MV → Sto → Prop) → Prop
def pBin (f : MOp2) (a b : PE) : PE := fun ρ σ Q X => a ρ σ (fun x σ₁ => b ρ σ₁ (fun y σ₂ => f x y σ₂ Q) X) X
def Op2Ok (K : Ktx) (t : Value → Value → Sem Value) (f : MOp2) : Prop := ∀ A va vb a b σ s Q E, Room 0 A → SInv K σ s → Rep s.heap va a → Rep s.heap vb b → f a b σ Q → wpAny K.M A (t va vb) (PostE K σ s Q) E s
theorem RefE.bin {l r : Expr} {op : Operator} {pos : Pos} {f : MOp2} {P₁ P₂ : PE} (hop : Op2Ok K (binaryOp op) f) (ha : RefE K d env nm l P₁) (hb : RefE K d env nm r P₂) :
  RefE K d env nm (.BinOp l op r pos) (pBin f P₁ P₂) := fun A ρ σ s Q X rm F p => by
 refine wpAny_BinOp (wpAny_mono (ha A ρ σ s _ X rm F p) ?_ fun _ _ h => h)
 rintro va s₁ ⟨a, σ₁, ra, I₁, st₁, p₁⟩
 refine wpAny_mono (hb A ρ σ₁ s₁ _ X rm (F.step I₁ st₁) p₁) ?_ fun _ _ h => h.from st₁
 rintro vb s₂ ⟨b, σ₂, rb, I₂, st₂, p₂⟩
 exact wpAny_mono (hop A va vb a b σ₂ s₂ Q _ (rm.mono (Nat.zero_le _)) I₂ (ra.step st₂ I₁) rb p₂) (fun v s' h => h.from (st₁.trans st₂)) fun _ _ h => h
def Cmp2Ok (K : Ktx) (t : Value → Value → Sem Value) (f : MV → MV → Sto → (Bool → Prop) → Prop) : Prop := ∀ A va vb a b σ s (Q : Value → Shared → Prop) R E, Room 0 A → SInv K σ s → Rep s.heap va a → Rep s.heap vb b → f a b σ R →
 (∀ c h' tk, R c → (∀ b o, s.heap.get? b = some o → h'.get? b = some o) → Q (.bool c) { s with heap := h', toks := tk }) → wpAny K.M A (t va vb) Q E s
def pCmp (f : MV → MV → Sto → (Bool → Prop) → Prop) (a b : PE) : PE := fun ρ σ Q X => a ρ σ (fun x σ₁ => b ρ σ₁ (fun y σ₂ => f x y σ₂ fun c => Q (.bool c) σ₂) X) X
def pCmpB (f : MV → MV → Sto → (Bool → Prop) → Prop) (a b : PE) : PB := fun ρ σ Q X => a ρ σ (fun x σ₁ => b ρ σ₁ (fun y σ₂ => f x y σ₂ fun c => Q c σ₂) X) X
theorem RefE.cmp {l r : Expr} {op : CmpOp} {pos : Pos} {f : MV → MV → Sto → (Bool → Prop) → Prop} {P₁ P₂ : PE} (hop : Cmp2Ok K (compareOp op) f) (ha : RefE K d env nm l P₁) (hb : RefE K d env nm r P₂)
  (hm : behindInMarks op r = false := by with_unfolding_all rfl) : RefE K d env nm (.Compare l [op] [r] pos) (pCmp f P₁ P₂) := fun A ρ σ s Q X rm F p => by
 refine wpAny_Compare1 (wpAny_mono (ha A ρ σ s _ X rm F p) ?_ fun _ _ h => h) hm
 rintro va s₁ ⟨a, σ₁, ra, I₁, st₁, p₁⟩
 refine wpAny_mono (hb A ρ σ₁ s₁ _ X rm (F.step I₁ st₁) p₁) ?_ fun _ _ h => h.from st₁
 rintro vb s₂ ⟨b, σ₂, rb, I₂, st₂, p₂⟩
 exact hop A va vb a b σ₂ s₂ _ _ _ (rm.mono (Nat.zero_le _)) I₂ (ra.step st₂ I₁) rb p₂ fun c h' tk q k => ⟨_, σ₂, .bool c, I₂.grow k, (st₁.trans st₂).trans (.grow k), q⟩
theorem RefB.cmp {l r : Expr} {op : CmpOp} {pos : Pos} {f : MV → MV → Sto → (Bool → Prop) → Prop} {P₁ P₂ : PE} (hop : Cmp2Ok K (compareOp op) f) (ha : RefE K d env nm l P₁) (hb : RefE K d env nm r P₂)
  (hm : behindInMarks op r = false := by with_unfolding_all rfl) : RefB K d env nm (.Compare l [op] [r] pos) (pCmpB f P₁ P₂) := fun A ρ σ s Q X rm F p => by
 refine wpAny_isTrue_Compare1 (wpAny_mono (ha A ρ σ s _ X rm F p) ?_ fun _ _ h => h) hm
 rintro va s₁ ⟨a, σ₁, ra, I₁, st₁, p₁⟩
 refine wpAny_mono (hb A ρ σ₁ s₁ _ X rm (F.step I₁ st₁) p₁) ?_ fun _ _ h => h.from st₁
 rintro vb s₂ ⟨b, σ₂, rb, I₂, st₂, p₂⟩
 exact hop A va vb a b σ₂ s₂ _ _ _ (rm.mono (Nat.zero_le _)) I₂ (ra.step st₂ I₁) rb p₂ fun c h' tk q k => wpAny_truthy_bool ⟨σ₂, I₂.grow k, (st₁.trans st₂).trans (.grow k), q⟩
def pNotB (P : PB) : PB := fun ρ σ Q X => P ρ σ (fun b => Q (!b)) X
theorem RefB.not {x : Expr} {pos : Pos} {P : PB} (h : RefB K d env nm x P) : RefB K d env nm (.UnaryOp .Not x pos) (pNotB P) := fun A ρ σ s Q X rm F p =>
 wpAny_isTrue_Not (wpAny_mono (h A ρ σ s _ X rm F p) (fun _ _ ⟨a, b, c, e⟩ => ⟨a, b, c, e⟩) fun _ _ h => h)
def pAndNil : PB := fun _ σ Q _ => Q true σ
def pOrNil : PB := fun _ σ Q _ => Q false σ
def pAndB (a b : PB) : PB := fun ρ σ Q X => a ρ σ (fun x σ₁ => (x = true → b ρ σ₁ Q X) ∧ (x = false → Q false σ₁)) X
def pOrB (a b : PB) : PB := fun ρ σ Q X => a ρ σ (fun x σ₁ => (x = true → Q true σ₁) ∧ (x = false → b ρ σ₁ Q X)) X
theorem RefBs.andNil : RefBs K d env nm .And [] pAndNil := fun A ρ σ s Q X rm F p => wpAny_allTrue_And_nil (postB_now F.inv p)
theorem RefBs.orNil : RefBs K d env nm .Or [] pOrNil := fun A ρ σ s Q X rm F p => wpAny_allTrue_Or_nil (postB_now F.inv p)
theorem RefBs.and {x : Expr} {rest : List Expr} {P R : PB} (h : RefB K d env nm x P) (hr : RefBs K d env nm .And rest R) : RefBs K d env nm .And (x :: rest) (pAndB P R) := fun A ρ σ s Q X rm F p => by
 refine wpAny_allTrue_And_cons (wpAny_mono (h A ρ σ s _ X rm F p) ?_ fun _ _ h => h)
 rintro b s₁ ⟨σ₁, I₁, st₁, q⟩
 cases b with
 | false => exact ⟨σ₁, I₁, st₁, q.2 rfl⟩
 | true => exact wpAny_mono (hr A ρ σ₁ s₁ Q X rm (F.step I₁ st₁) (q.1 rfl)) (fun _ _ h => h.from st₁) fun _ _ h => h.from st₁
theorem RefBs.or {x : Expr} {rest : List Expr} {P R : PB} (h : RefB K d env nm x P) (hr : RefBs K d env nm .Or rest R) : RefBs K d env nm .Or (x :: rest) (pOrB P R) := fun A ρ σ s Q X rm F p => by
 refine wpAny_allTrue_Or_cons (wpAny_mono (h A ρ σ s _ X rm F p) ?_ fun _ _ h => h)
 rintro b s₁ ⟨σ₁, I₁, st₁, q⟩
 cases b with
 | true => exact ⟨σ₁, I₁, st₁, q.1 rfl⟩
 | false => exact wpAny_mono (hr A ρ σ₁ s₁ Q X rm (F.step I₁ st₁) (q.2 rfl)) (fun _ _ h => h.from st₁) fun _ _ h => h.from st₁
theorem RefB.boolOp {op : BoolOp} {es : List Expr} {pos : Pos} {P : PB} (h : RefBs K d env nm op es P) : RefB K d env nm (.BoolOp op es pos) P := fun A ρ σ s Q X rm F p => wpAny_isTrue_BoolOp (h A ρ σ s Q X rm F p)
def pIf (t : PB) (a b : PE) : PE := fun ρ σ Q X => t ρ σ (fun x σ₁ => (x = true → a ρ σ₁ Q X) ∧ (x = false → b ρ σ₁ Q X)) X
theorem RefE.ifExp {t a b : Expr} {pos : Pos} {T : PB} {P R : PE} (ht : RefB K d env nm t T) (ha : RefE K d env nm a P) (hb : RefE K d env nm b R) : RefE K d env nm (.IfExp t a b pos) (pIf T P R) := fun A ρ σ s Q X rm F p => by
 refine wpAny_IfExp (wpAny_mono (ht A ρ σ s _ X rm F p) ?_ fun _ _ h => h)
 rintro c s₁ ⟨σ₁, I₁, st₁, q⟩
 cases c with
 | true => exact wpAny_mono (ha A ρ σ₁ s₁ Q X rm (F.step I₁ st₁) (q.1 rfl)) (fun _ _ h => h.from st₁) fun _ _ h => h.from st₁
 | false => exact wpAny_mono (hb A ρ σ₁ s₁ Q X rm (F.step I₁ st₁) (q.2 rfl)) (fun _ _ h => h.from st₁) fun _ _ h => h.from st₁
def Truth (m : MV) (σ : Sto) (R : Bool → Prop) : Prop := (∃ b, m = .bool b ∧ R b) ∨ (∃ l, m = .str l ∧ l.length ≤ sizeLine ∧ R (!l.isEmpty)) ∨ ∃ a l, m = .ref a ∧ σ a = some (.list l) ∧ R (!l.isEmpty)
noncomputable def plainE (e : Expr) : Bool := e.ctorIdx != 22
theorem star_cons {e : Expr} (h : plainE e = true) (rest : List Expr) (env : Env) : starEach (e :: rest) env = (false, eval e env) :: starEach rest env := by
 cases e <;> first | rfl | cases h
theorem star_any : ∀ {es : List Expr} (h : es.all plainE = true) (env : Env) (pos : Pos), (backTo pos (starEach es env)).any (·.1) = false
 | [], _, _, _ => rfl
 | e :: es, h, env, pos => by
  simp only [List.all_cons, Bool.and_eq_true] at h
  rw [star_cons h.1]
  have := star_any h.2 env pos
  simpa [backTo] using this
theorem star_few {es : List Expr} (h : es.all plainE = true) (hl : es.length < 29) (env : Env) (pos : Pos) : ((backTo pos (starEach es env)).all (fun x => !x.1) && (backToKw pos (keywordEach [] env)).all (fun x => x.1.isSome)
   && decide (es.length + ([] : List Keyword).length + (if ([] : List Keyword).isEmpty then 0 else 1) < 30)) = true := by
 have h1 := star_any h env pos
 have h2 : (backTo pos (starEach es env)).all (fun x => !x.1) = true := by
  rw [List.all_eq_not_any_not]; simpa using h1
 rw [h2]
 exact decide_eq_true (Nat.lt_succ_of_lt hl)
def pNil : PA := fun _ σ Q _ => Q [] σ
def pCons (P : PE) (R : PA) : PA := fun ρ σ Q X => P ρ σ (fun m σ₁ => R ρ σ₁ (fun ms σ₂ => Q (m :: ms) σ₂) X) X
theorem RefA.nil : RefA K d env nm [] pNil := fun A ρ σ s Q X pos rm F p => spliced_nil ⟨[], σ, .nil, F.inv, .refl .., p⟩
theorem RefA.cons {e : Expr} {rest : List Expr} {P : PE} {R : PA} (h : RefE K d env nm e P) (hr : RefA K d env nm rest R) (he : starEach (e :: rest) env = (false, eval e env) :: starEach rest env := by exact star_cons rfl _ _) :
  RefA K d env nm (e :: rest) (pCons P R) := fun A ρ σ s Q X pos rm F p => by
 rw [he]
 show wpAny K.M A (spliced ((false, eval e env) :: backTo pos (starEach rest env))) _ _ s
 refine spliced_cons (wpAny_mono (h A ρ σ s _ X rm F p) ?_ fun _ _ h => h)
 rintro v s₁ ⟨m, σ₁, r, I₁, st₁, q⟩
 refine wpAny_mono (hr A ρ σ₁ s₁ _ X pos rm (F.step I₁ st₁) q) ?_ fun _ _ h => h.from st₁
 rintro vs s₂ ⟨ms, σ₂, rs, I₂, st₂, q₂⟩
 exact ⟨m :: ms, σ₂, .cons (r.step st₂ I₁) rs, I₂, st₁.trans st₂, q₂⟩
def pTup (R : PA) : PE := fun ρ σ Q X => R ρ σ (fun ms σ₁ => ms.length ≤ sizeLine ∧ Q (.tup ms) σ₁) X
theorem RefE.tup {es : List Expr} {k : Nat} {pos : Pos} {R : PA} (h : RefA K d env nm es R) : RefE K d env nm (.Tuple es k pos) (pTup R) := fun A ρ σ s Q X rm F p => by
 refine wpAny_Tuple (wpAny_mono (h A ρ σ s _ X pos rm F p) ?_ fun _ _ h => h)
 rintro vs s₁ ⟨ms, σ₁, rs, I₁, st₁, hz, q⟩
 refine ⟨by rw [rs.length]; exact hz, ?_⟩
 have k : ∀ b o, s₁.heap.get? b = some o → (s₁.heap.push (tupO vs 0)).get? b = some o := fun b o e => Heap.get?_push_of_some _ e
 exact ⟨.tup ms, σ₁, .tup (Heap.get?_push_size _ rfl) (rs.keeps k), I₁.grow (tk := s₁.toks) k, st₁.trans (.grow (tk := s₁.toks) k), q⟩
def pLst (R : PA) : PE := fun ρ σ Q X => R ρ σ (fun ms σ₁ => ms.length ≤ sizeLine ∧ ∀ a, σ₁ a = .none → Q (.ref a) (put σ₁ a (.list ms))) X
theorem newList_post {σ : Sto} {s : Shared} {vs : List Value} {ms : List MV} {Q : MV → Sto → Prop} {a : Addr} {h' : Heap} {tk : Nat} (I : SInv K σ s) (rs : Reps s.heap vs ms) (hl : ms.length ≤ sizeLine) (ha : s.heap.objs.size ≤ a)
  (e : h'.get? a = some (lstO vs 0)) (k : ∀ b o, s.heap.get? b = some o → h'.get? b = some o) (q : ∀ a, σ a = .none → Q (.ref a) (put σ a (.list ms))) : PostE K σ s Q (.ref a) { s with heap := h', toks := tk } := by
 have hn : s.heap.get? a = .none := by
  cases q : s.heap.get? a with
  | none => rfl
  | some o => exact absurd (Heap.lt_size q) (Nat.not_lt.mpr ha)
 have hσ : σ a = .none := by
  cases q : σ a with
  | none => rfl
  | some mo => obtain ⟨o, e, _⟩ := (I.sto a mo q).there; rw [hn] at e; cases e
 exact ⟨.ref a, _, .ref a, I.alloc (mo := .list ms) k hn ⟨vs, 0, e, rs.keeps k, hl⟩, .alloc k hn, q a hσ⟩
theorem RefE.lst {es : List Expr} {pos : Pos} {R : PA} (h : RefA K d env nm es R) : RefE K d env nm (.List es pos) (pLst R) := fun A ρ σ s Q X rm F p => by
 refine wpAny_List (wpAny_mono (h A ρ σ s _ X pos rm F p) ?_ fun _ _ h => h)
 rintro vs s₁ ⟨ms, σ₁, rs, I₁, st₁, hz, q⟩
 refine ⟨by rw [rs.length]; exact hz, PostE.from st₁ (newList_post (tk := s₁.toks) I₁ rs hz (Nat.le_refl _) (Heap.get?_push_size _ rfl) (fun b o e => Heap.get?_push_of_some _ e) q)⟩
def GName (K : Ktx) (x : Str) (v : Value) : Prop := ∃ mg, K.h0.Ns mainGlobals mg ∧ (mg x = some v ∨ (mg x = .none ∧ ∃ mb, K.h0.Ns builtinsNs mb ∧ mb x = some v))
theorem load_global {x : Str} {v : Value} {A : Around} {s : Shared} {E : Value → Shared → Prop} {Q : Value → Shared → Prop} {σ : Sto} {pos : Pos} (I : SInv K σ s) (G : GName K x v) (q : Q v s) (hk : env.scope.kind = .function) (hx : env.kindOf x = some .globalImplicit)
  (hg : env.globals = mainGlobals) (hb : env.builtins = builtinsNs) (hd : (x == ("__debug__" : Str)) = false) : wpAny K.M A (eval (.Name x pos) env) Q E s := by
 obtain ⟨mg, h1, h2⟩ := G
 refine Name_function_global hk hx ?_ hd
 rcases h2 with h2 | ⟨h2, mb, h3, h4⟩
 ·exact loadGlobal_global (by rw [hg]; exact h1.keeps I.old) h2 q
 ·exact loadGlobal_builtin (by rw [hg]; exact h1.keeps I.old) h2 (by rw [hb]; exact h3.keeps I.old) h4 q
def pCallS (S : List MV → Sto → (MV → Sto → Prop) → (Sto → Prop) → Prop) (R : PA) : PE := fun ρ σ Q X => R ρ σ (fun ms σ₁ => S ms σ₁ Q X) X
theorem RefE.callG {f : Str} {p pos : Pos} {e : Expr} {rest : List Expr} {a : Addr} {o : Obj} {fd : FuncData} {S : List MV → Sto → (MV → Sto → Prop) → (Sto → Prop) → Prop} {R : PA} (G : GName K f (.ref a)) (ho : K.h0.get? a = some o) (hd : o.data = .func fd)
  (hS : SoundF K d a S) (h : RefA K d env nm (e :: rest) R) (hx : env.kindOf f = some .globalImplicit := by rfl) (hk : env.scope.kind = .function := by rfl)
  (hg : env.globals = mainGlobals := by rfl) (hb : env.builtins = builtinsNs := by rfl) (hdb : (f == ("__debug__" : Str)) = false := by decide)
  (he : starEach (e :: rest) env = (false, eval e env) :: starEach rest env := by exact star_cons rfl _ _) :
  RefE K d env nm (.Call (.Name f p) (e :: rest) [] pos) (pCallS S R) := fun A ρ σ s Q X rm F pp => by
 refine wpAny_Call_NameR (load_global F.inv G ?_ hk hx hg hb hdb)
 refine callWith_function (o := o) (fd := fd) ?_
 have hh := h A ρ σ s _ X pos rm F pp
 rw [he] at hh ⊢
 refine evalArgs_plain (wpAny_mono hh ?_ fun _ _ h => h)
 rintro vs s₁ ⟨ms, σ₁, rs, I₁, st₁, q⟩
 refine ⟨⟨I₁.old _ _ ho, hd⟩, ?_⟩
 show wpAny K.M A (call (.ref a) ([] ++ vs) []) _ _ s₁
 refine wpAny_call (codeAny_mono (hS A s₁ σ₁ vs ms Q X rm I₁ ((F.step I₁ st₁).stk) rs q) ?_)
 rintro r s' hr
 cases r with
 | ok f => cases f with
  | ret v => exact PostE.from st₁ hr
  | next => exact hr
  | brk => exact hr
  | cont => exact hr
 | error e => exact PostX.from st₁ hr
def BOk (K : Ktx) (id : String) (f : List MV → Sto → (MV → Sto → Prop) → Prop) : Prop := ∀ A vs ms σ s Q E, Room 0 A → SInv K σ s → Reps s.heap vs ms → f ms σ Q → wpAny K.M A (call (.builtin id) vs) (PostE K σ s Q) E s
def pCallB (f : List MV → Sto → (MV → Sto → Prop) → Prop) (R : PA) : PE := fun ρ σ Q X => R ρ σ (fun ms σ₁ => f ms σ₁ Q) X
theorem RefE.callB {x : Str} {id : String} {p pos : Pos} {e : Expr} {rest : List Expr} {f : List MV → Sto → (MV → Sto → Prop) → Prop} {R : PA} (G : GName K x (.builtin id)) (hB : BOk K id f) (h : RefA K d env nm (e :: rest) R)
  (hx : env.kindOf x = some .globalImplicit := by rfl) (hk : env.scope.kind = .function := by rfl) (hg : env.globals = mainGlobals := by rfl) (hb : env.builtins = builtinsNs := by rfl) (hdb : (x == ("__debug__" : Str)) = false := by decide)
  (he : starEach (e :: rest) env = (false, eval e env) :: starEach rest env := by exact star_cons rfl _ _) (hplain : (backTo pos (starEach rest env)).any (·.1) = false := by exact star_any rfl _ _) :
  RefE K d env nm (.Call (.Name x p) (e :: rest) [] pos) (pCallB f R) := fun A ρ σ s Q X rm F pp => by
 refine wpAny_Call_NameR (load_global F.inv G ?_ hk hx hg hb hdb)
 have hh := h A ρ σ s _ X pos rm F pp
 rw [he] at hh ⊢
 refine callWith_builtin (by show (false || (backTo pos (starEach rest env)).any (·.1)) = false; rw [hplain]; rfl) (evalArgs_plain (wpAny_mono hh ?_ fun _ _ h => h))
 rintro vs s₁ ⟨ms, σ₁, rs, I₁, st₁, q⟩
 exact wpAny_mono (hB A vs ms σ₁ s₁ Q _ (rm.mono (Nat.zero_le _)) I₁ rs q) (fun _ _ h => h.from st₁) fun _ _ h => h
end
noncomputable def upd (ρ : Loc) (i : Nat) (m : MV) : Loc := fun j => if j = i then some m else ρ j
inductive FRep (h : Heap) : Flow → MF → Prop
 | next : FRep h .next .next
 | brk : FRep h .brk .brk
 | cont : FRep h .cont .cont
 | ret {v : Value} {m : MV} (r : Rep h v m) : FRep h (.ret v) (.ret m)
inductive PostS (K : Ktx) (env : Env) (nm : List Str) (A : Around) (σ : Sto) (s : Shared) (Q : MF → Loc → Sto → Prop) (f : Flow) (s' : Shared) : Prop
 | mk (mf : MF) (ρ' : Loc) (σ' : Sto) (r : FRep s'.heap f mf) (F : FInv K env nm ρ' A σ' s') (st : Stp (ownOf env) σ s σ' s') (q : Q mf ρ' σ')
theorem PostS.from {K : Ktx} {env : Env} {nm : List Str} {A : Around} {σ σ₁ : Sto} {s s₁ : Shared} {Q : MF → Loc → Sto → Prop} {v : Flow} {s' : Shared} (st : Stp (ownOf env) σ s σ₁ s₁) : PostS K env nm A σ₁ s₁ Q v s' → PostS K env nm A σ s Q v s' :=
 fun ⟨m, ρ', σ', r, I, st', q⟩ => ⟨m, ρ', σ', r, I, st.trans st', q⟩
inductive PostXS (K : Ktx) (env : Env) (nm : List Str) (A : Around) (σ : Sto) (s : Shared) (X : Sto → Prop) (e : Value) (s' : Shared) : Prop
 | mk (ρ' : Loc) (σ' : Sto) (r : ExcAt K s'.heap e) (F : FInv K env nm ρ' A σ' s') (st : Stp (ownOf env) σ s σ' s') (q : X σ')
theorem PostXS.from {K : Ktx} {env : Env} {nm : List Str} {A : Around} {σ σ₁ : Sto} {s s₁ : Shared} {X : Sto → Prop} {v : Value} {s' : Shared} (st : Stp (ownOf env) σ s σ₁ s₁) : PostXS K env nm A σ₁ s₁ X v s' → PostXS K env nm A σ s X v s' :=
 fun ⟨ρ', σ', r, I, st', q⟩ => ⟨ρ', σ', r, I, st.trans st', q⟩
theorem PostX.up {K : Ktx} {env : Env} {nm : List Str} {ρ : Loc} {A : Around} {σ : Sto} {s : Shared} {X : Sto → Prop} {v : Value} {s' : Shared} (F : FInv K env nm ρ A σ s) : PostX K [] σ s X v s' → PostXS K env nm A σ s X v s' :=
 fun ⟨σ', r, I, st', q⟩ => ⟨ρ, σ', r, F.step I st', st'.nil, q⟩
section
variable (K : Ktx) (d : Nat) (env : Env) (nm : List Str)
def RefS (st : Stmt) (P : PS) : Prop := ∀ A ρ σ s Q X, Room d A → FInv K env nm ρ A σ s → P ρ σ Q X → wpAny K.M A (exec st env) (PostS K env nm A σ s Q) (PostXS K env nm A σ s X) s
def RefL (st : List Stmt) (P : PS) : Prop := ∀ A ρ σ s Q X, Room d A → FInv K env nm ρ A σ s → P ρ σ Q X → wpAny K.M A (execs st env) (PostS K env nm A σ s Q) (PostXS K env nm A σ s X) s
inductive PostT (K : Ktx) (env : Env) (nm : List Str) (A : Around) (own : List Addr) (σ : Sto) (s : Shared) (Q : Loc → Prop) (s' : Shared) : Prop
 | mk (ρ' : Loc) (F : FInv K env nm ρ' A σ s') (st : Stp own σ s σ s') (q : Q ρ')
def RefT (own : List Addr) (t : Expr) (T : MV → Loc → (Loc → Prop) → Prop) : Prop := ∀ A ρ σ s v m Q E, Room d A → FInv K env nm ρ A σ s → Rep s.heap v m → T m ρ Q →
 wpAny K.M A (assign t env v) (fun _ s' => PostT K env nm A own σ s Q s') E s
end
theorem SInv.own {K : Ktx} {σ : Sto} {s : Shared} (I : SInv K σ s) {h' : Heap} {tk : Nat} {L : Addr} (hs : Heap.ExtBut L s.heap h') (h1 : σ L = none) (h2 : K.h0.get? L = none) (h3 : ∀ o, s.heap.get? L = some o → ¬ Firm o) : SInv K σ { s with heap := h', toks := tk } := by
 refine ⟨fun b o e => hs b o (fun q => by rw [q, h2] at e; cases e) (I.old b o e), I.apart, fun a mo e => ?_, I.os, I.bare⟩
 exact (I.sto a mo e).at (fun o g => hs a o (fun q => by rw [q, h1] at e; cases e) g) fun a o f g => hs a o (fun q => by subst q; exact h3 o g f) g
theorem Stp.own {own : List Addr} {σ : Sto} {s : Shared} {h' : Heap} {tk : Nat} {L : Addr} (hs : Heap.ExtBut L s.heap h') (hL : L ∈ own) : Stp own σ s σ { s with heap := h', toks := tk } :=
 ⟨fun b o e _ hb => ⟨o, hs b o (fun q => hb (q ▸ hL)) e, .refl o⟩, fun _ _ _ e _ => e, fun _ _ e => e⟩
theorem notFirm_dict {o : Obj} {es : Array DictEntry} {ep : Nat} (h : o.data = .dict es ep) : ¬ Firm o := by rintro (⟨_, _, rfl⟩ | ⟨_, _, rfl⟩ | ⟨_, _, _, _, _, _, rfl⟩) <;> simp at h
theorem notFirm_cell {o : Obj} {v : Option Value} (h : o.data = .cell v) : ¬ Firm o := by rintro (⟨_, _, rfl⟩ | ⟨_, _, rfl⟩ | ⟨_, _, _, _, _, _, rfl⟩) <;> simp at h
section
variable {K : Ktx} {d : Nat} {env : Env} {nm : List Str}
theorem mem_ownL : env.locals ∈ ownOf env := List.mem_cons_self
theorem mem_ownC {x : Str} {c : Addr} (h : env.cells.lookup x = some c) : c ∈ ownOf env := List.mem_cons_of_mem _ (List.mem_map.mpr ⟨_, mem_of_lookup h, rfl⟩)
theorem store_local {A : Around} {ρ : Loc} {σ : Sto} {s : Shared} {v : Value} {m : MV} {x : Str} {i : Nat} {Q : Unit → Shared → Prop} {E : Value → Shared → Prop} (F : FInv K env nm ρ A σ s) (r : Rep s.heap v m)
  (hi : nm[i]? = some x) (hu : nm.Nodup) (hl : env.kindOf x = some .local) (hp : (env.scope.kind == .class || (env.scope.kind == .module && env.locals != env.globals)) = false)
  (q : ∀ s', FInv K env nm (upd ρ i m) A σ s' → Stp [env.locals] σ s σ s' → Q () s') : wpAny K.M A (storeName env x v) Q E s := by
 obtain ⟨f, hn, hv⟩ := F.ns
 refine wpAny_storeName_local hl hn (fun h' hn' hs' => ?_) hp
 have h3 : ∀ o, s.heap.get? env.locals = some o → ¬ Firm o := fun o e => by
  obtain ⟨o', es, ep, e', hd, _⟩ := hn
  rw [e] at e'; cases e'; exact notFirm_dict hd
 have I' : SInv K σ { s with heap := h', toks := s.toks + 1 } := F.inv.own hs'.extBut F.offL.1 F.offL.2 h3
 have kf : ∀ a o, Firm o → s.heap.get? a = some o → h'.get? a = some o := fun a o f e => hs'.extBut a o (fun q => by subst q; exact h3 o e f) e
 refine q _ ⟨I', ⟨_, hn', fun j y mv h1 h2 h4 => ?_⟩, fun y c hc => ?_, F.offL, F.offC, F.sep, F.one, F.stk.sameBut hs'.extBut ?_, F.top⟩ (.own hs'.extBut (by simp))
 ·by_cases hj : j = i
  ·subst hj
   rw [hi] at h1; cases h1
   simp [upd] at h4; subst h4
   exact ⟨v, by simp, r.mono kf⟩
  ·have hy : y ≠ x := fun q => by
    subst q
    exact hj (nodup_idx hu h1 hi)
   simp [upd, hj] at h4
   obtain ⟨v', e1, e2⟩ := hv j y mv h1 h2 h4
   exact ⟨v', by simp [hy, e1], e2.mono kf⟩
 ·obtain ⟨vo, h1, h2⟩ := F.cells y c hc
  refine ⟨vo, h1.sameBut hs' (F.offC y c hc).2.2, fun j mv q1 q2 q3 => ?_⟩
  have hj : j ≠ i := fun q => by
   subst q; rw [hi] at q1; cases q1
   rw [hl] at q2; rcases q2 with q2 | q2 <;> cases q2
  simp [upd, hj] at q3
  obtain ⟨v', e1, e2⟩ := h2 j mv q1 q2 q3
  exact ⟨v', e1, e2.mono kf⟩
 ·obtain ⟨o', es, ep, e', hd, _⟩ := hn'
  exact .inl ⟨o', e', es, ep, hd⟩
theorem store_cell {A : Around} {ρ : Loc} {σ : Sto} {s : Shared} {v : Value} {m : MV} {x : Str} {i : Nat} {c : Addr} {Q : Unit → Shared → Prop} {E : Value → Shared → Prop} (F : FInv K env nm ρ A σ s) (r : Rep s.heap v m)
  (hi : nm[i]? = some x) (hu : nm.Nodup) (hl : env.kindOf x = some .cell) (hc : env.cells.lookup x = some c) (hk : env.scope.kind = .function)
  (q : ∀ s', FInv K env nm (upd ρ i m) A σ s' → Stp [c] σ s σ s' → Q () s') : wpAny K.M A (storeName env x v) Q E s := by
 have hcm := mem_of_lookup hc
 obtain ⟨vo, hcl, _⟩ := F.cells x c hcm
 refine wpAny_storeName_cell hk hl hc hcl (fun h' hn' hs' => ?_)
 have h3 : ∀ o, s.heap.get? c = some o → ¬ Firm o := fun o e => by
  obtain ⟨o', e', hd⟩ := hcl
  rw [e] at e'; cases e'; exact notFirm_cell hd
 have I' : SInv K σ { s with heap := h' } := F.inv.own (tk := s.toks) hs'.extBut (F.offC x c hcm).1 (F.offC x c hcm).2.1 h3
 have kf : ∀ a o, Firm o → s.heap.get? a = some o → h'.get? a = some o := fun a o f e => hs'.extBut a o (fun q => by subst q; exact h3 o e f) e
 obtain ⟨f, hn, hv⟩ := F.ns
 refine q _ ⟨I', ⟨f, hn.sameBut hs' (Ne.symm (F.offC x c hcm).2.2), fun j y mv h1 h2 h4 => ?_⟩, fun y c' hc' => ?_, F.offL, F.offC, F.sep, F.one, F.stk.sameBut hs'.extBut ?_, F.top⟩ (.own (tk := s.toks) hs'.extBut (by simp))
 ·have hj : j ≠ i := fun q => by
   subst q; rw [hi] at h1; cases h1
   rw [hl] at h2; cases h2
  simp [upd, hj] at h4
  obtain ⟨v', e1, e2⟩ := hv j y mv h1 h2 h4
  exact ⟨v', e1, e2.mono kf⟩
 ·by_cases hy : y = x
  ·subst hy
   cases F.one _ _ _ hcm hc'
   refine ⟨some v, hn', fun j mv q1 q2 q3 => ?_⟩
   have hj : j = i := nodup_idx hu q1 hi
   subst hj
   simp [upd] at q3; subst q3
   exact ⟨v, rfl, r.mono kf⟩
  ·obtain ⟨vo', h1, h2⟩ := F.cells y c' hc'
   have hcc : c' ≠ c := fun q => by subst q; exact hy (F.sep y x c' hc' hcm)
   refine ⟨vo', h1.sameBut hs' hcc, fun j mv q1 q2 q3 => ?_⟩
   have hj : j ≠ i := fun q => by subst q; rw [hi] at q1; cases q1; exact hy rfl
   simp [upd, hj] at q3
   obtain ⟨v', e1, e2⟩ := h2 j mv q1 q2 q3
   exact ⟨v', e1, e2.mono kf⟩
 ·obtain ⟨o', e', hd⟩ := hcl
  exact .inr ⟨o', e', fun ⟨_, _, q⟩ => by rw [hd] at q; cases q⟩
noncomputable abbrev PT := MV → Loc → (Loc → Prop) → Prop
def tV (i : Nat) : PT := fun m ρ Q => Q (upd ρ i m)
theorem Stp.of1 {own : List Addr} {a : Addr} {σ σ' : Sto} {s s' : Shared} (x : Stp [a] σ s σ' s') (h : a ∈ own) : Stp own σ s σ' s' := x.mono fun b hb => by rw [List.mem_singleton.mp hb]; exact h
theorem RefT.nameL {own : List Addr} {x : Str} {pos : Pos} {i : Nat} (hi : nm[i]? = some x := by rfl) (hl : env.kindOf x = some .local := by rfl) (hu : nm.Nodup := by decide)
  (hp : (env.scope.kind == .class || (env.scope.kind == .module && env.locals != env.globals)) = false := by rfl) (ho : env.locals ∈ own := by exact List.mem_cons_self) : RefT K d env nm own (.Name x pos) (tV i) := fun A ρ σ s v m Q E rm F r q =>
 wpAny_assign_Name (store_local F r hi hu hl hp fun s' F' st => ⟨_, F', st.of1 ho, q⟩)
theorem RefT.nameC {x : Str} {pos : Pos} {i : Nat} {c : Addr} (hi : nm[i]? = some x := by rfl) (hl : env.kindOf x = some .cell := by rfl) (hc : env.cells.lookup x = some c := by rfl) (hu : nm.Nodup := by decide)
  (hk : env.scope.kind = .function := by rfl) : RefT K d env nm (ownOf env) (.Name x pos) (tV i) := fun A ρ σ s v m Q E rm F r q =>
 wpAny_assign_Name (store_cell F r hi hu hl hc hk fun s' F' st => ⟨_, F', st.of1 (mem_ownC hc), q⟩)
theorem Rep.stpF {A : Around} {ρ : Loc} {σ σ' : Sto} {s s' : Shared} (F : FInv K env nm ρ A σ s) (st : Stp (ownOf env) σ s σ' s') : ∀ a o, Firm o → s.heap.get? a = some o → s'.heap.get? a = some o := fun a o f e => by
 have hn : a ∉ ownOf env := fun hm => by
  rcases List.mem_cons.mp hm with q | q
  ·subst q
   obtain ⟨g, ⟨o', es, ep, e', hd, _⟩, _⟩ := F.ns
   rw [e] at e'; cases e'; exact notFirm_dict hd f
  ·obtain ⟨⟨y, c⟩, hm', rfl⟩ := List.mem_map.mp q
   obtain ⟨vo, ⟨o', e', hd⟩, _⟩ := F.cells y c hm'
   rw [e] at e'; cases e'; exact notFirm_cell hd f
 obtain ⟨o', e', q⟩ := st.keep a o e (F.inv.firm e f) hn
 rw [e', q.firm f]
end
section
variable {K : Ktx} {d : Nat} {env : Env} {nm : List Str}
theorem not_flyS {A : Around} {σ : Sto} {s : Shared} {e : Value} {s' : Shared} {P : Prop} (h : PostXS K env nm A σ s (fun _ => False) e s') : P := by
 obtain ⟨_, _, _, _, _, f⟩ := h; exact f.elim
theorem not_fly {own : List Addr} {σ : Sto} {s : Shared} {e : Value} {s' : Shared} {P : Prop} (h : PostX K own σ s (fun _ => False) e s') : P := by
 obtain ⟨_, _, _, _, f⟩ := h; exact f.elim
def St1 (K : Ktx) (d : Nat) (env : Env) (nm : List Str) (own : List Addr) (t : Value → Sem Unit) (T : PT) : Prop := ∀ A ρ σ s v m Q E, Room d A → FInv K env nm ρ A σ s → Rep s.heap v m → T m ρ Q →
 wpAny K.M A (t v) (fun _ s' => PostT K env nm A own σ s Q s') E s
theorem RefT.st1 {own : List Addr} {t : Expr} {T : PT} (h : RefT K d env nm own t T) : St1 K d env nm own (assign t env) T := h
theorem St1.bindL {own : List Addr} {x : Str} {i : Nat} (hi : nm[i]? = some x := by rfl) (hl : env.kindOf x = some .local := by rfl) (hu : nm.Nodup := by decide)
  (hp : (env.scope.kind == .class || (env.scope.kind == .module && env.locals != env.globals)) = false := by rfl) (ho : env.locals ∈ own := by exact List.mem_cons_self) : St1 K d env nm own (fun v => bindName env x v) (tV i) := fun A ρ σ s v m Q E rm F r q =>
 wpAny_bindName (store_local F r hi hu hl hp fun s' F' st => ⟨_, F', st.of1 ho, q⟩)
def Ts (K : Ktx) (d : Nat) (env : Env) (nm : List Str) (own : List Addr) (ts : List (Value → Sem Unit)) (T : List MV → Loc → (Loc → Prop) → Prop) : Prop := ∀ A ρ σ s vs ms Q E, Room d A → FInv K env nm ρ A σ s → Reps s.heap vs ms → T ms ρ Q →
 wpAny K.M A (assignInOrder ts vs) (fun _ s' => PostT K env nm A own σ s Q s') E s
def tNil : List MV → Loc → (Loc → Prop) → Prop := fun ms ρ Q => ms = [] ∧ Q ρ
def tCons (T : PT) (R : List MV → Loc → (Loc → Prop) → Prop) : List MV → Loc → (Loc → Prop) → Prop := fun ms ρ Q => ∃ m ms', ms = m :: ms' ∧ T m ρ fun ρ₁ => R ms' ρ₁ Q
theorem Ts.nil {own : List Addr} : Ts K d env nm own [] tNil := fun A ρ σ s vs ms Q E rm F r q => by
 obtain ⟨rfl, q⟩ := q
 cases r
 exact wpAny_assignInOrder_none ⟨ρ, F, .refl .., q⟩
theorem Ts.cons {own : List Addr} (hsub : ∀ b ∈ own, b ∈ ownOf env) {t : Value → Sem Unit} {ts : List (Value → Sem Unit)} {T : PT} {R : List MV → Loc → (Loc → Prop) → Prop} (h : St1 K d env nm own t T) (hr : Ts K d env nm own ts R) : Ts K d env nm own (t :: ts) (tCons T R) := fun A ρ σ s vs ms Q E rm F r q => by
 obtain ⟨m, ms', rfl, q⟩ := q
 cases r with
 | cons r rs =>
  refine wpAny_assignInOrder_more (wpAny_mono (h A ρ σ s _ m _ _ rm F r q) ?_ fun _ _ h => h)
  rintro _ s₁ ⟨ρ₁, F₁, st₁, q₁⟩
  refine wpAny_mono (hr A ρ₁ σ s₁ _ ms' Q _ rm F₁ (rs.mono (Rep.stpF F (st₁.mono hsub))) q₁) ?_ fun _ _ h => h
  rintro _ s₂ ⟨ρ₂, F₂, st₂, q₂⟩
  exact ⟨ρ₂, F₂, st₁.trans st₂, q₂⟩
def tTup (R : List MV → Loc → (Loc → Prop) → Prop) : PT := fun m ρ Q => ∃ ms, m = .tup ms ∧ R ms ρ Q
theorem Rep.tupOf {h : Heap} {v : Value} {ms : List MV} (r : Rep h v (.tup ms)) : ∃ a vs n, v = .ref a ∧ h.get? a = some (tupO vs n) ∧ Reps h vs ms := by
 cases r with
 | tup e rs => exact ⟨_, _, _, rfl, e, rs⟩
theorem RefT.tup {own : List Addr} {es : List Expr} {k : Nat} {pos : Pos} {n : Nat} {R : List MV → Loc → (Loc → Prop) → Prop} (h : Ts K d env nm own ((assignEach es env).map (·.2)) R) (hR : ∀ ms ρ Q, R ms ρ Q → ms.length = n)
  (hn : (assignEach es env).length = n := by rfl) (hstar : (assignEach es env).findIdx? (·.1) = none := by rfl) : RefT K d env nm own (.Tuple es k pos) (tTup R) := fun A ρ σ s v m Q E rm F r q => by
 obtain ⟨ms, rfl, q⟩ := q
 obtain ⟨a, vs, n', rfl, e, rs⟩ := r.tupOf
 refine wpAny_assign_Tuple rm.1 (items := vs.toArray) ⟨_, e, rfl, n', rfl⟩ (by rw [hn, List.size_toArray, rs.length, hR _ _ _ q]) hstar fun h' he => ?_
 have k : ∀ b o, s.heap.get? b = some o → h'.get? b = some o := fun b o g => he b o (Nat.ne_of_lt (Heap.lt_size g)) g
 refine wpAny_mono (h A ρ σ _ _ ms Q _ rm (F.grow (tk := s.toks) k) (rs.keeps k) q) ?_ fun _ _ h => h
 rintro _ s₁ ⟨ρ₁, F₁, st₁, q₁⟩
 exact ⟨ρ₁, F₁, (Stp.grow (tk := s.toks) k).trans st₁, q₁⟩
end
section
variable {K : Ktx} {d : Nat} {env : Env} {nm : List Str}
def sNil : PS := fun ρ σ Q _ => Q .next ρ σ
def sSeq (P R : PS) : PS := fun ρ σ Q X => P ρ σ (fun f ρ₁ σ₁ => match f with | .next => R ρ₁ σ₁ Q X | f => Q f ρ₁ σ₁) X
theorem RefL.nil : RefL K d env nm [] sNil := fun A ρ σ s Q X rm F p => wpAny_execs_nil ⟨.next, ρ, σ, .next, F, .refl .., p⟩
theorem RefL.cons {st : Stmt} {rest : List Stmt} {P R : PS} (h : RefS K d env nm st P) (hr : RefL K d env nm rest R) : RefL K d env nm (st :: rest) (sSeq P R) := fun A ρ σ s Q X rm F p => by
 refine wpAny_execs_cons (wpAny_mono (h A ρ σ s _ X rm F p) ?_ fun _ _ h => h)
 rintro f s₁ ⟨mf, ρ₁, σ₁, r, F₁, st₁, q⟩
 rcases r with _ | _ | _ | r
 ·exact wpAny_mono (hr A ρ₁ σ₁ s₁ Q X rm F₁ q) (fun _ _ h => h.from st₁) fun _ _ h => h.from st₁
 ·exact ⟨.brk, ρ₁, σ₁, .brk, F₁, st₁, q⟩
 ·exact ⟨.cont, ρ₁, σ₁, .cont, F₁, st₁, q⟩
 ·exact ⟨.ret _, ρ₁, σ₁, .ret r, F₁, st₁, q⟩
def sNever : PS := fun _ _ _ _ => False
theorem RefS.never {st : Stmt} : RefS K d env nm st sNever := fun _ _ _ _ _ _ _ _ p => p.elim
theorem RefL.never {st : List Stmt} : RefL K d env nm st sNever := fun _ _ _ _ _ _ _ _ p => p.elim
def sSet (i : Nat) (P : PE) : PS := fun ρ σ Q X => P ρ σ (fun m σ₁ => Q .next (upd ρ i m) σ₁) X
theorem RefS.asgL {x : Str} {p pos : Pos} {e : Expr} {i : Nat} {P : PE} (h : RefE K d env nm e P) (hi : nm[i]? = some x := by rfl) (hl : env.kindOf x = some .local := by rfl) (hu : nm.Nodup := by decide)
  (hp : (env.scope.kind == .class || (env.scope.kind == .module && env.locals != env.globals)) = false := by rfl) (hs : swapsWith e (some (.Name x p)) pos.line env = pure false := by rfl) :
  RefS K d env nm (.Assign [.Name x p] e pos) (sSet i P) := fun A ρ σ s Q X rm F pp => by
 refine wpAny_Assign_Name (wpAny_mono (h A ρ σ s _ X rm F pp) ?_ fun _ _ h => h.up F) hs
 rintro v s₁ ⟨m, σ₁, r, I₁, st₁, q⟩
 exact store_local (F.step I₁ st₁) r hi hu hl hp fun s' F' st' => ⟨.next, _, σ₁, .next, F', st₁.nil.trans (st'.of1 mem_ownL), q⟩
theorem RefS.asgC {x : Str} {p pos : Pos} {e : Expr} {i : Nat} {c : Addr} {P : PE} (h : RefE K d env nm e P) (hi : nm[i]? = some x := by rfl) (hl : env.kindOf x = some .cell := by rfl) (hc : env.cells.lookup x = some c := by rfl) (hu : nm.Nodup := by decide)
  (hk : env.scope.kind = .function := by rfl) (hs : swapsWith e (some (.Name x p)) pos.line env = pure false := by rfl) :
  RefS K d env nm (.Assign [.Name x p] e pos) (sSet i P) := fun A ρ σ s Q X rm F pp => by
 refine wpAny_Assign_Name (wpAny_mono (h A ρ σ s _ X rm F pp) ?_ fun _ _ h => h.up F) hs
 rintro v s₁ ⟨m, σ₁, r, I₁, st₁, q⟩
 exact store_cell (F.step I₁ st₁) r hi hu hl hc hk fun s' F' st' => ⟨.next, _, σ₁, .next, F', st₁.nil.trans (st'.of1 (mem_ownC hc)), q⟩
def sSetT (T : PT) (P : PE) : PS := fun ρ σ Q X => P ρ σ (fun m σ₁ => T m ρ fun ρ₁ => Q .next ρ₁ σ₁) X
theorem RefS.asgT {es : List Expr} {k : Nat} {tp pos : Pos} {e : Expr} {T : PT} {P : PE} (h : RefE K d env nm e P) (hT : RefT K d env nm (ownOf env) (.Tuple es k tp) T)
  (hs : swapsWithSole [.Tuple es k tp] e pos.line env = pure false := by rfl) (hw : swappedStores [.Tuple es k tp] e env = pure none := by rfl) : RefS K d env nm (.Assign [.Tuple es k tp] e pos) (sSetT T P) := fun A ρ σ s Q X rm F pp => by
 refine Assign_Tuple (wpAny_mono (h A ρ σ s _ X rm F pp) ?_ fun _ _ h => h.up F) hs hw
 rintro v s₁ ⟨m, σ₁, r, I₁, st₁, q⟩
 refine wpAny_mono (hT A ρ σ₁ s₁ v m _ _ rm (F.step I₁ st₁) r q) ?_ fun _ _ h => h
 rintro _ s₂ ⟨ρ₂, F₂, st₂, q₂⟩
 exact ⟨.next, ρ₂, σ₁, .next, F₂, st₁.nil.trans st₂, q₂⟩
def sSwap (R : List MV → Loc → (Loc → Prop) → Prop) (P : PE) : PS := fun ρ σ Q X => P ρ σ (fun m σ₁ => ∃ ms, m = .tup ms ∧ R ms.reverse ρ fun ρ₁ => Q .next ρ₁ σ₁) X
theorem RefS.asgSwap {es : List Expr} {k : Nat} {tp pos : Pos} {e : Expr} {names : List Str} {R : List MV → Loc → (Loc → Prop) → Prop} {P : PE} (h : RefE K d env nm e P) (hT : Ts K d env nm (ownOf env) (names.reverse.map fun n => bindName env n) R) (hR : ∀ ms ρ Q, R ms ρ Q → ms.length = names.length)
  (hw : swappedStores [.Tuple es k tp] e env = pure (some names) := by rfl) (hs : swapsWithSole [.Tuple es k tp] e pos.line env = pure false := by rfl) : RefS K d env nm (.Assign [.Tuple es k tp] e pos) (sSwap R P) := fun A ρ σ s Q X rm F pp => by
 refine Assign_Tuple_swapped (wpAny_mono (h A ρ σ s _ X rm F pp) ?_ fun _ _ h => h.up F) hs hw
 rintro v s₁ ⟨m, σ₁, r, I₁, st₁, ms, rfl, q⟩
 obtain ⟨a, vs, n', rfl, e', rs⟩ := r.tupOf
 have hlen : names.length = vs.toArray.size := by rw [List.size_toArray, rs.length, ← hR _ _ _ q, List.length_reverse]
 rw [hlen]
 refine unpackItems_tuple rm.1 (items := vs.toArray) ⟨_, e', rfl, n', rfl⟩ fun h' he => ?_
 have k : ∀ b o, s₁.heap.get? b = some o → h'.get? b = some o := fun b o g => he b o (Nat.ne_of_lt (Heap.lt_size g)) g
 refine wpAny_mono (hT A ρ σ₁ { s₁ with heap := h', toks := s₁.toks } _ ms.reverse _ _ rm ((F.step I₁ st₁).grow k) (by simpa using (rs.keeps k).reverse) q) ?_ fun _ _ h => h
 rintro _ s₂ ⟨ρ₂, F₂, st₂, q₂⟩
 exact ⟨.next, ρ₂, σ₁, .next, F₂, st₁.nil.trans ((Stp.grow (tk := s₁.toks) k).trans st₂), q₂⟩
def sAug (f : MOp2) (i : Nat) (P : PE) : PS := fun ρ σ Q X => ∃ old, ρ i = some old ∧ P ρ σ (fun m σ₁ => f old m σ₁ fun r σ₂ => Q .next (upd ρ i r) σ₂) X
theorem RefS.augL {x : Str} {p pos : Pos} {e : Expr} {op : Operator} {i : Nat} {f : MOp2} {P : PE} (hop : Op2Ok K (inplaceOp op) f) (h : RefE K d env nm e P) (hi : nm[i]? = some x := by rfl) (hl : env.kindOf x = some .local := by rfl) (hu : nm.Nodup := by decide)
  (hp : (env.scope.kind == .class || (env.scope.kind == .module && env.locals != env.globals)) = false := by rfl) (hk : env.scope.kind = .function := by rfl) :
  RefS K d env nm (.AugAssign (.Name x p) op e pos) (sAug f i P) := fun A ρ σ s Q X rm F pp => by
 obtain ⟨old, ho, pp⟩ := pp
 obtain ⟨g, hn, hv⟩ := F.ns
 obtain ⟨v, h1, h2⟩ := hv i x old hi hl ho
 refine wpAny_AugAssign_Name (wpAny_loadName_local hk hl hn h1 (wpAny_mono (h A ρ σ s _ X rm F pp) ?_ fun _ _ h => h.up F))
 rintro u s₁ ⟨m, σ₁, r, I₁, st₁, q⟩
 refine wpAny_mono (hop A v u old m σ₁ s₁ _ _ (rm.mono (Nat.zero_le _)) I₁ (h2.step st₁ F.inv) r q) ?_ fun _ _ h => h
 rintro w s₂ ⟨m₂, σ₂, r₂, I₂, st₂, q₂⟩
 exact store_local ((F.step I₁ st₁).step I₂ st₂) r₂ hi hu hl hp fun s' F' st' => ⟨.next, _, σ₂, .next, F', (st₁.trans st₂).nil.trans (st'.of1 mem_ownL), q₂⟩
def sExpr (P : PE) : PS := fun ρ σ Q X => P ρ σ (fun _ σ₁ => Q .next ρ σ₁) X
theorem RefS.expr {e : Expr} {pos : Pos} {P : PE} (h : RefE K d env nm e P) (hi : interactive env = false := by rfl) (hs : swapsWith e none pos.line env = pure false := by rfl) : RefS K d env nm (.Expr e pos) (sExpr P) := fun A ρ σ s Q X rm F pp => by
 refine wpAny_Expr_any (wpAny_mono (h A ρ σ s _ X rm F pp) ?_ fun _ _ h => h.up F) hi hs
 rintro v s₁ ⟨m, σ₁, r, I₁, st₁, q⟩
 exact ⟨.next, ρ, σ₁, .next, F.step I₁ st₁, st₁.nil, q⟩
def sIf (T : PB) (P R : PS) : PS := fun ρ σ Q X => T ρ σ (fun b σ₁ => (b = true → P ρ σ₁ Q X) ∧ (b = false → R ρ σ₁ Q X)) X
theorem RefS.ite {t : Expr} {a b : List Stmt} {pos : Pos} {T : PB} {P R : PS} (ht : RefB K d env nm t T) (ha : RefL K d env nm a P) (hb : RefL K d env nm b R) : RefS K d env nm (.If t a b pos) (sIf T P R) := fun A ρ σ s Q X rm F pp => by
 refine wpAny_If (wpAny_mono (ht A ρ σ s _ X rm F pp) ?_ fun _ _ h => h.up F)
 rintro c s₁ ⟨σ₁, I₁, st₁, q⟩
 cases c with
 | true => exact wpAny_mono (ha A ρ σ₁ s₁ Q X rm (F.step I₁ st₁) (q.1 rfl)) (fun _ _ h => h.from st₁.nil) fun _ _ h => h.from st₁.nil
 | false => exact wpAny_mono (hb A ρ σ₁ s₁ Q X rm (F.step I₁ st₁) (q.2 rfl)) (fun _ _ h => h.from st₁.nil) fun _ _ h => h.from st₁.nil
def sRet (P : PE) : PS := fun ρ σ Q X => P ρ σ (fun m σ₁ => Q (.ret m) ρ σ₁) X
theorem RefS.ret {e : Expr} {pos : Pos} {P : PE} (h : RefE K d env nm e P) : RefS K d env nm (.Return (some e) pos) (sRet P) := fun A ρ σ s Q X rm F pp => by
 refine wpAny_Return_some (wpAny_mono (h A ρ σ s _ X rm F pp) ?_ fun _ _ h => h.up F)
 rintro v s₁ ⟨m, σ₁, r, I₁, st₁, q⟩
 exact ⟨.ret m, ρ, σ₁, .ret r, F.step I₁ st₁, st₁.nil, q⟩
def sBrk : PS := fun ρ σ Q _ => Q .brk ρ σ
theorem RefS.brk {pos : Pos} : RefS K d env nm (.Break pos) sBrk := fun A ρ σ s Q X rm F pp => wpAny_Break ⟨.brk, ρ, σ, .brk, F, .refl .., pp⟩
def sCont : PS := fun ρ σ Q _ => Q .cont ρ σ
theorem RefS.cont {pos : Pos} : RefS K d env nm (.Continue pos) sCont := fun A ρ σ s Q X rm F pp => wpAny_Continue ⟨.cont, ρ, σ, .cont, F, .refl .., pp⟩
def sAssert (T : PB) : PS := fun ρ σ Q X => T ρ σ (fun b σ₁ => b = true ∧ Q .next ρ σ₁) X
theorem RefS.assert {t : Expr} {msg : Option Expr} {pos : Pos} {T : PB} (ht : RefB K d env nm t T) : RefS K d env nm (.Assert t msg pos) (sAssert T) := fun A ρ σ s Q X rm F pp => by
 refine wpAny_Assert_holds (wpAny_mono (ht A ρ σ s _ X rm F pp) ?_ fun _ _ h => h.up F)
 rintro c s₁ ⟨σ₁, I₁, st₁, hc, q⟩
 exact ⟨hc, .next, ρ, σ₁, .next, F.step I₁ st₁, st₁.nil, q⟩
def sWhile (T : PB) (B : PS) : PS := fun ρ σ Q X => ∃ (I : Nat → Loc → Sto → Prop) (n : Nat), I n ρ σ ∧ ∀ n ρ σ, I n ρ σ →
 T ρ σ (fun b σ₁ => (b = true → B ρ σ₁ (fun f ρ₂ σ₂ => match f with
  | .next | .cont => ∃ k, k < n ∧ I k ρ₂ σ₂
  | .brk => Q .next ρ₂ σ₂
  | .ret m => Q (.ret m) ρ₂ σ₂) fun _ => False) ∧ (b = false → Q .next ρ σ₁)) fun _ => False
inductive WhI (K : Ktx) (env : Env) (nm : List Str) (A : Around) (σ : Sto) (s : Shared) (I : Nat → Loc → Sto → Prop) (k : Nat) (s' : Shared) : Prop
 | mk (ρ' : Loc) (σ' : Sto) (h : I k ρ' σ') (F : FInv K env nm ρ' A σ' s') (st : Stp (ownOf env) σ s σ' s')
theorem RefS.while {t : Expr} {body : List Stmt} {pos : Pos} {T : PB} {B : PS} (ht : RefB K d env nm t T) (hb : RefL K d env nm body B) : RefS K d env nm (.While t body [] pos) (sWhile T B) := fun A ρ σ s Q X rm F pp => by
 obtain ⟨I, n, h0, turn⟩ := pp
 refine wpAny_While (codeAny_whileLoop (WhI K env nm A σ s I) ?_ n ⟨ρ, σ, h0, F, .refl ..⟩)
 rintro k s' ⟨ρ', σ', hI, F', st'⟩
 refine wpAny_mono (ht A ρ' σ' s' _ _ rm F' (turn k ρ' σ' hI)) ?_ fun _ _ h => not_fly h
 rintro b s₁ ⟨σ₁, I₁, st₁, q⟩
 cases b with
 | false =>
  simp only [Bool.false_eq_true, if_false]
  exact wpAny_execs_nil ⟨.next, ρ', σ₁, .next, F'.step I₁ st₁, st'.trans st₁.nil, q.2 rfl⟩
 | true =>
  simp only [if_true]
  refine wpAny_mono (hb A ρ' σ₁ s₁ _ _ rm (F'.step I₁ st₁) (q.1 rfl)) ?_ fun _ _ h => not_flyS h
  rintro f s₂ ⟨mf, ρ₂, σ₂, r, F₂, st₂, q₂⟩
  have st := st'.trans (st₁.nil.trans st₂)
  rcases r with _ | _ | _ | r
  ·obtain ⟨j, hj, hI'⟩ := q₂; exact ⟨j, hj, ρ₂, σ₂, hI', F₂, st⟩
  ·exact ⟨.next, ρ₂, σ₂, .next, F₂, st, q₂⟩
  ·obtain ⟨j, hj, hI'⟩ := q₂; exact ⟨j, hj, ρ₂, σ₂, hI', F₂, st⟩
  ·exact ⟨.ret _, ρ₂, σ₂, .ret r, F₂, st, q₂⟩
noncomputable def forGo (T : PT) (B : PS) (ok : Sto → Prop) : List MV → Loc → Sto → (MF → Loc → Sto → Prop) → Prop
 | [], ρ, σ, Q => Q .next ρ σ
 | x :: xs, ρ, σ, Q => T x ρ fun ρ₁ => B ρ₁ σ (fun f ρ₂ σ₂ => match f with
  | .next | .cont => ok σ₂ ∧ forGo T B ok xs ρ₂ σ₂ Q
  | .brk => Q .next ρ₂ σ₂
  | .ret m => Q (.ret m) ρ₂ σ₂) fun _ => False
inductive AuxO (h : Heap) (b : Addr) : Prop
 | mk (o : Obj) (vs : Array Value) (a1 : h.get? b = some o) (a2 : o.data = .fields vs) (a3 : ¬ Firm o) (T : String) (b1 : o.cls = .type T) (b2 : T ≠ "IndexError") (b3 : T ≠ "traceback") (b4 : ¬ IsD o)
structure Src (K : Ktx) (I : Addr) (fp : List Addr) (tgt : Expr) (items : List MV) (ok : Sto → Prop) (St : Nat → Shared → Prop) : Prop where
 aux : ∀ i s, St i s → ∀ b ∈ fp, AuxO s.heap b
 keep : ∀ i s s', St i s → (∀ b ∈ fp, ∀ o, s.heap.get? b = some o → s'.heap.get? b = some o) → St i s'
 item : ∀ (A : Around) i σ s m Q E, Room 0 A → items[i]? = some m → SInv K σ s → ok σ → St i s → (∀ b ∈ fp, σ b = none ∧ K.h0.get? b = none) →
  (∀ v s', Rep s'.heap v m → SInv K σ s' → Stp fp σ s σ s' → St (i + 1) s' → (∀ (A' : Around) Q' E', Q' () s' → wpAny K.M A' (letOwnedTupleGo tgt (.ref I) v) Q' E' s') → Q (some v) s') → wpAny K.M A (pyNext (.ref I)) Q E s
 self : ∀ (A : Around) i s (Q : Value → Shared → Prop) E, St i s → Q (.ref I) s → wpAny K.M A (pyIter (.ref I)) Q E s
 done : ∀ (A : Around) σ s Q E, Room 0 A → SInv K σ s → ok σ → St items.length s → (∀ b ∈ fp, σ b = none ∧ K.h0.get? b = none) → (∀ s', SInv K σ s' → Stp fp σ s σ s' → Q none s') → wpAny K.M A (pyNext (.ref I)) Q E s
theorem FInv.stepO {A : Around} {ρ : Loc} {σ σ' : Sto} {s s' : Shared} {fp : List Addr} (x : FInv K env nm ρ A σ s) (I : SInv K σ' s') (st : Stp fp σ s σ' s')
  (aux : ∀ b ∈ fp, ∃ o vs, s.heap.get? b = some o ∧ o.data = .fields vs ∧ ¬ Firm o) : FInv K env nm ρ A σ' s' := by
 obtain ⟨m, hn, hv⟩ := x.ns
 have kf : ∀ a o, Firm o → s.heap.get? a = some o → s'.heap.get? a = some o := fun a o f e => by
  obtain ⟨o', e', q⟩ := st.keep a o e (x.inv.firm e f) (fun hb => by obtain ⟨o₂, vs, e₂, _, nf⟩ := aux a hb; rw [e] at e₂; cases e₂; exact nf f)
  rw [e', q.firm f]
 have off : ∀ b o, s.heap.get? b = some o → (∀ vs, o.data ≠ .fields vs) → b ∉ fp := fun b o e hd hb => by
  obtain ⟨o₂, vs, e₂, hd₂, _⟩ := aux b hb; rw [e] at e₂; cases e₂; exact hd vs hd₂
 refine ⟨I, ⟨m, Heap.Ns.slot hn fun o e => st.keep _ o e x.offL.1 (off _ _ e ?_), fun i y mv h1 h2 h3 => ?_⟩, fun y c hc => ?_, ⟨by obtain ⟨o, _, _, e, hd, _⟩ := hn; exact st.dom _ o e x.offL.1 (off _ _ e fun vs q => by rw [hd] at q; cases q), x.offL.2⟩, fun y c hc => ?_, x.sep, x.one, ?_, x.top⟩
 ·obtain ⟨o', es, ep, e', hd, _⟩ := hn
  rw [e] at e'; cases e'; exact fun vs q => by rw [hd] at q; cases q
 ·obtain ⟨v, h4, h5⟩ := hv i y mv h1 h2 h3; exact ⟨v, h4, h5.mono kf⟩
 ·obtain ⟨vo, h1, h2⟩ := x.cells y c hc
  refine ⟨vo, Heap.IsCell.slot h1 fun o e => st.keep _ o e (x.offC y c hc).1 (off _ _ e ?_), fun i mv q1 q2 q3 => ?_⟩
  ·obtain ⟨o', e', hd⟩ := h1
   rw [e] at e'; cases e'; exact fun vs q => by rw [hd] at q; cases q
  ·obtain ⟨v, h4, h5⟩ := h2 i mv q1 q2 q3; exact ⟨v, h4, h5.mono kf⟩
 ·obtain ⟨vo, h1, h2⟩ := x.cells y c hc
  exact ⟨by obtain ⟨o, e, hd⟩ := h1; exact st.dom _ o e (x.offC y c hc).1 (off _ _ e fun vs q => by rw [hd] at q; cases q), (x.offC y c hc).2⟩
 ·obtain ⟨l, h1, h2⟩ := x.stk
  refine ⟨l, h1, fun e he => ?_⟩
  obtain ⟨k, L, o, a1, a2, a3, a4, a5⟩ := h2 e he
  obtain ⟨o', e', q⟩ := st.keep L o a2 a4 (off _ _ a2 a3.nf)
  exact ⟨k, L, o', a1, e', (let ⟨es, ep, hd⟩ := a3; ⟨es, ep, (q.data a3.nf).trans hd⟩), st.dom L o a2 a4 (off _ _ a2 a3.nf), a5⟩
inductive PostO (K : Ktx) (env : Env) (nm : List Str) (A : Around) (own : List Addr) (σ : Sto) (s : Shared) (Q : MF → Loc → Sto → Prop) (f : Flow) (s' : Shared) : Prop
 | mk (mf : MF) (ρ' : Loc) (σ' : Sto) (r : FRep s'.heap f mf) (F : FInv K env nm ρ' A σ' s') (st : Stp own σ s σ' s') (q : Q mf ρ' σ')
inductive ForI (K : Ktx) (env : Env) (nm : List Str) (A : Around) (fp : List Addr) (items : List MV) (ok : Sto → Prop) (St : Nat → Shared → Prop) (σ : Sto) (s : Shared) (go : List MV → Loc → Sto → Prop) (n : Nat) (s' : Shared) : Prop
 | mk (i : Nat) (ρ' : Loc) (σ' : Sto) (hn : n = items.length - i) (hi : i ≤ items.length) (F : FInv K env nm ρ' A σ' s') (hok : ok σ') (st : St i s') (hfp : ∀ b ∈ fp, σ' b = none ∧ K.h0.get? b = none) (stp : Stp (ownOf env ++ fp) σ s σ' s') (p : go (items.drop i) ρ' σ')
def PostF (K : Ktx) (env : Env) (nm : List Str) (A : Around) (own : List Addr) (σ : Sto) (s : Shared) (Q : MF → Loc → Sto → Prop) : Result → Shared → Prop :=
 fun r s' => match r with
  | .ok f => PostO K env nm A own σ s Q f s'
  | .error _ => False
theorem forLoop_ok {tgt : Expr} {body : List Stmt} {T : PT} {B : PS} {I : Addr} {fp : List Addr} {items : List MV} {ok : Sto → Prop} {St : Nat → Shared → Prop} (hT : RefT K d env nm (ownOf env) tgt T) (hB : RefL K d env nm body B) (S : Src K I fp tgt items ok St)
  {A : Around} {ρ : Loc} {σ : Sto} {s : Shared} {Q : MF → Loc → Sto → Prop} (rm : Room d A) (F : FInv K env nm ρ A σ s) (hok : ok σ) (hst : St 0 s) (hfp : ∀ b ∈ fp, σ b = none ∧ K.h0.get? b = none) (p : forGo T B ok items ρ σ Q) :
  codeAny K.M A (.forLoop tgt (.ref I) body [] env) (PostF K env nm A (ownOf env ++ fp) σ s Q) s := by
 refine codeAny_forLoop_any (ForI K env nm A fp items ok St σ s fun xs ρ' σ' => forGo T B ok xs ρ' σ' Q) ?_ items.length
  ⟨0, ρ, σ, by simp, Nat.zero_le _, F, hok, hst, hfp, .refl .., by simpa using p⟩
 rintro n s₁ ⟨i, ρ₁, σ₁, rfl, hi, F₁, ok₁, st₁, fp₁, stp₁, p₁⟩
 have rm0 : Room 0 A := rm.mono (Nat.zero_le _)
 by_cases hlt : i < items.length
 ·have hd : items.drop i = items[i] :: items.drop (i + 1) := by rw [List.drop_eq_getElem_cons hlt]
  rw [hd] at p₁
  refine S.item A i σ₁ s₁ items[i] _ _ rm0 (by simp [hlt]) F₁.inv ok₁ st₁ fp₁ fun v s₂ r₂ I₂ stp₂ st₂ lo => ?_
  have F₂ := F₁.stepO I₂ stp₂ fun b hb => by obtain ⟨o, vs, a1, a2, a3, _⟩ := S.aux i s₁ st₁ b hb; exact ⟨o, vs, a1, a2, a3⟩
  refine lo A _ _ (wpAny_mono (hT A ρ₁ σ₁ s₂ v _ _ _ rm F₂ r₂ p₁) ?_ fun _ _ h => h)
  rintro _ s₃ ⟨ρ₃, F₃, stp₃, p₃⟩
  refine wpAny_mono (hB A ρ₃ σ₁ s₃ _ _ rm F₃ p₃) ?_ fun _ _ h => not_flyS h
  rintro f s₄ ⟨mf, ρ₄, σ₄, r₄, F₄, stp₄, q₄⟩
  have stp : Stp (ownOf env ++ fp) σ s σ₄ s₄ := stp₁.trans ((stp₂.mono fun b hb => List.mem_append_right _ hb).trans ((stp₃.trans stp₄).mono fun b hb => List.mem_append_left _ hb))
  have offo : ∀ b ∈ fp, b ∉ ownOf env := fun b hb hm => by
   obtain ⟨o, vs, a1, a2, _⟩ := S.aux _ _ st₂ b hb
   rcases List.mem_cons.mp hm with q | q
   ·subst q
    obtain ⟨g, ⟨o', es, ep, e', hd', _⟩, _⟩ := F₂.ns
    rw [a1] at e'; cases e'; rw [a2] at hd'; cases hd'
   ·obtain ⟨⟨y, c⟩, hm', rfl⟩ := List.mem_map.mp q
    obtain ⟨vo, ⟨o', e', hd'⟩, _⟩ := F₂.cells y c hm'
    rw [a1] at e'; cases e'; rw [a2] at hd'; cases hd'
  have kfp : ∀ b ∈ fp, ∀ o, s₂.heap.get? b = some o → s₄.heap.get? b = some o := fun b hb o e => by
   obtain ⟨o', e', q⟩ := (stp₃.trans stp₄).keep b o e (fp₁ b hb).1 (offo b hb)
   obtain ⟨o₂, vs, a1, a2, _, T, b1, b2, b3, b4⟩ := S.aux _ _ st₂ b hb
   rw [e] at a1; cases a1
   rw [e', q.same b1 b2 b3 b4]
  have st₄ := S.keep _ _ s₄ st₂ kfp
  have fp₄ : ∀ b ∈ fp, σ₄ b = none ∧ K.h0.get? b = none := fun b hb => by
   obtain ⟨o, vs, a1, _⟩ := S.aux _ _ st₂ b hb
   exact ⟨(stp₃.trans stp₄).dom b o a1 (fp₁ b hb).1 (offo b hb), (fp₁ b hb).2⟩
  rcases r₄ with _ | _ | _ | r₄
  ·exact ⟨_, by omega, i + 1, ρ₄, σ₄, rfl, hlt, F₄, q₄.1, st₄, fp₄, stp, q₄.2⟩
  ·exact ⟨.next, ρ₄, σ₄, .next, F₄, stp, q₄⟩
  ·exact ⟨_, by omega, i + 1, ρ₄, σ₄, rfl, hlt, F₄, q₄.1, st₄, fp₄, stp, q₄.2⟩
  ·exact ⟨.ret _, ρ₄, σ₄, .ret r₄, F₄, stp, q₄⟩
 ·have hin : i = items.length := by omega
  subst hin
  rw [List.drop_length] at p₁
  refine S.done A σ₁ s₁ _ _ rm0 F₁.inv ok₁ st₁ fp₁ fun s₂ I₂ stp₂ => wpAny_execs_nil ?_
  have F₂ := F₁.stepO I₂ stp₂ fun b hb => by obtain ⟨o, vs, a1, a2, a3, _⟩ := S.aux _ s₁ st₁ b hb; exact ⟨o, vs, a1, a2, a3⟩
  exact ⟨.next, ρ₁, σ₁, .next, F₂, stp₁.trans (stp₂.mono fun b hb => List.mem_append_right _ hb), p₁⟩
end
noncomputable def rangeL (a b c : Int) : List MV := (List.range (Builtin.Range.rangeSize a b c).toNat).map fun (i : Nat) => .int (a + (i : Int) * c)
def IterOf (m : MV) (σ : Sto) (R : List MV → (Sto → Prop) → Prop) : Prop :=
 (∃ a l, m = .ref a ∧ σ a = some (.list l) ∧ R l fun σ' => σ' a = some (.list l)) ∨ (∃ a l ep, m = .ref a ∧ σ a = some (.dict l ep) ∧ a ≠ sysModules ∧ R (l.map fun kv => .int kv.1) fun σ' => σ' a = some (.dict l ep)) ∨
 (∃ l, m = .str l ∧ (∀ c ∈ l, c < 128) ∧ R (l.map fun c => .str [c]) fun _ => True) ∨ ∃ a b c, m = .rng a b c ∧ Builtin.Range.small a b c = true ∧ R (rangeL a b c) fun _ => True
section
variable {K : Ktx} {d : Nat} {env : Env} {nm : List Str}
theorem letOwned_plain {I : Addr} {tgt : Expr} {v : Value} {A : Around} {Q : Unit → Shared → Prop} {E : Value → Shared → Prop} {s : Shared} (hv : ∀ a, v ≠ .ref a) (q : Q () s) : wpAny K.M A (letOwnedTupleGo tgt (.ref I) v) Q E s := by
 cases tgt <;> first | exact wpAny_pure q | (cases v <;> first | exact wpAny_pure q | exact (hv _ rfl).elim)
set_option tactic.hygienic true
theorem letOwned_cls {I : Addr} {tgt : Expr} {v : Value} {A : Around} {Q : Unit → Shared → Prop} {E : Value → Shared → Prop} {s : Shared} {o : Obj} {T : String} (ho : s.heap.get? I = some o) (hc : o.cls = .type T)
  (hT : (["enumerate", "zip", "dict_itemiterator", "dict_reverseitemiterator", "odict_iterator", "itertools.zip_longest", "itertools.pairwise"].contains T) = false) (q : Q () s) : wpAny K.M A (letOwnedTupleGo tgt (.ref I) v) Q E s := by
 have main : ∀ a, wpAny K.M A (do
   let o ← load I
   match o.cls, o.data with
   | .type n, .fields vs =>
    if (["enumerate", "zip", "dict_itemiterator", "dict_reverseitemiterator", "odict_iterator", "itertools.zip_longest", "itertools.pairwise"].contains n && vs[0]? == some (rawInt a)) = true then
     rule "for.unpacks-the-owned-tuple"
     updateField I 0 .none
    else pure ()
   | _, _ => pure () : Sem Unit) Q E s := fun a => by
  refine wpAny_bind (wpAny_load ho ?_)
  rw [hc]
  cases hd : o.data <;> first | exact wpAny_pure q | skip
  rename_i vs
  show wpAny K.M A (if (["enumerate", "zip", "dict_itemiterator", "dict_reverseitemiterator", "odict_iterator", "itertools.zip_longest", "itertools.pairwise"].contains T && vs[0]? == some (rawInt a)) = true then _ else _) Q E s
  rw [hT, Bool.false_and, if_neg (by simp)]
  exact wpAny_pure q
 cases tgt <;> first | exact wpAny_pure q | (cases v <;> first | exact wpAny_pure q | exact main _)
set_option tactic.hygienic false
theorem iterAux {o : Obj} {T : String} {h : Heap} {I : Addr} (e : h.get? I = some o) (hc : o.cls = .type T) {vs : Array Value} (hd : o.data = .fields vs) (h1 : T ≠ "IndexError" ∧ T ≠ "traceback" ∧ T ≠ "frame" ∧ T ≠ "tuple" ∧ T ≠ "builtin_function_or_method" ∧ T ≠ "range") :
  ∀ b ∈ [I], AuxO h b := by
 intro b hb
 rw [List.mem_singleton.mp hb]
 refine ⟨o, vs, e, hd, ?_, T, hc, h1.1, h1.2.1, fun ⟨_, _, q⟩ => by rw [hd] at q; cases q⟩
 rintro (⟨_, _, rfl⟩ | ⟨_, _, rfl⟩ | ⟨_, _, _, _, _, _, rfl⟩) <;> injection hc with hc <;> simp_all
theorem iter_step {σ : Sto} {s : Shared} {I : Addr} {h' : Heap} {tk : Nat} (J : SInv K σ s) (hs : Heap.ExtBut I s.heap h') (hf : ∀ b ∈ [I], σ b = none ∧ K.h0.get? b = none) (nf : ∀ o, s.heap.get? I = some o → ¬ Firm o) :
  SInv K σ { s with heap := h', toks := tk } ∧ Stp [I] σ s σ { s with heap := h', toks := tk } :=
 ⟨J.own hs (hf I (by simp)).1 (hf I (by simp)).2 nf, .own hs (by simp)⟩
theorem Src.list {I a : Addr} {tgt : Expr} {l : List MV} : Src K I [I] tgt l (fun σ => σ a = some (.list l)) (fun i s => s.heap.IsListIter I a i) where
 self := fun A i s Q E st q => wpAny_pyIter_listiter st q
 aux := fun i s ⟨o, e, hc, hd⟩ => iterAux e hc hd (by decide)
 keep := fun i s s' ⟨o, e, hc, hd⟩ k => ⟨o, k I (by simp) o e, hc, hd⟩
 item := fun A i σ s m Q E rm hm J hok hit hf q => by
  obtain ⟨vs, n, e, rs, hz⟩ := J.sto a _ hok
  obtain ⟨v, hv, r⟩ := rs.get hm
  obtain ⟨o, eo, hc, hd⟩ := id hit
  have nf : ∀ o, s.heap.get? I = some o → ¬ Firm o := fun o' e' => by
   obtain ⟨o₂, vs₂, a1, _, a3, _⟩ := iterAux eo hc hd (by decide) I (by simp)
   rw [e'] at a1; cases a1; exact a3
  refine wpAny_pyNext_list_item hit (items := vs.toArray) ⟨_, e, rfl, n, rfl⟩ (x := v) (by simpa using hv) fun h' hit' hs' => ?_
  obtain ⟨J', st⟩ := iter_step (tk := s.toks) J hs'.extBut hf nf
  obtain ⟨o', e', hc', hd'⟩ := id hit'
  refine q v _ (r.mono fun b o f g => hs'.extBut b o (fun h => by subst h; exact nf _ g f) g) J' st hit' fun A' Q' E' h => letOwned_cls e' hc' (by decide) h
 done := fun A σ s Q E rm J hok hit hf q => by
  obtain ⟨vs, n, e, rs, hz⟩ := J.sto a _ hok
  obtain ⟨o, eo, hc, hd⟩ := id hit
  have nf : ∀ o, s.heap.get? I = some o → ¬ Firm o := fun o' e' => by
   obtain ⟨o₂, vs₂, a1, _, a3, _⟩ := iterAux eo hc hd (by decide) I (by simp)
   rw [e'] at a1; cases a1; exact a3
  refine wpAny_pyNext_list_end rm.1 hit (items := vs.toArray) ⟨_, e, rfl, n, rfl⟩ (by simp [rs.length]) fun h' hs' => ?_
  obtain ⟨J', st⟩ := iter_step (tk := s.toks) J hs' hf nf
  exact q _ J' st
theorem Src.dict {I a : Addr} {tgt : Expr} {l : List (Int × MV)} {ep : Nat} : Src K I [I] tgt (l.map fun kv => .int kv.1) (fun σ => σ a = some (.dict l ep)) (fun i s => s.heap.IsKeyIter I a i l.length ep) where
 self := fun A i s Q E st q => wpAny_pyIter_keyiter st q
 aux := fun i s ⟨o, e, hc, hd⟩ => iterAux e hc hd (by decide)
 keep := fun i s s' ⟨o, e, hc, hd⟩ k => ⟨o, k I (by simp) o e, hc, hd⟩
 item := fun A i σ s m Q E rm hm J hok hit hf q => by
  obtain ⟨kvs, hD, rs, hk⟩ := J.sto a _ hok
  have hlen : l.length = kvs.length := by have := congrArg List.length hk; simpa using this.symm
  have hi : i < l.length := by
   obtain ⟨b, _⟩ := List.getElem?_eq_some_iff.mp hm
   simpa using b
  have hm' : m = .int l[i].1 := by
   rw [List.getElem?_map, List.getElem?_eq_getElem hi] at hm
   simpa using hm.symm
  have hi' : i < kvs.length := hlen ▸ hi
  have hkey : kvs[i].1 = l[i].1 := by
   have := congrArg (fun z => z[i]?) hk
   simp [hi, hi'] at this; exact this
  obtain ⟨o, eo, hc, hd⟩ := id hit
  have nf : ∀ o, s.heap.get? I = some o → ¬ Firm o := fun o' e' => by
   obtain ⟨o₂, vs₂, a1, _, a3, _⟩ := iterAux eo hc hd (by decide) I (by simp)
   rw [e'] at a1; cases a1; exact a3
  refine wpAny_pyNext_dict_item (knd := intKind K.prog K.w) (kvs := kvs) (hlen ▸ hit) hD (k := kvs[i].1) (v := kvs[i].2) (by simp [hi']) fun key h' hkk hit' hs' => ?_
  obtain ⟨J', st⟩ := iter_step (tk := s.toks) J hs'.extBut hf nf
  obtain ⟨t, rfl⟩ := Value.isInt_shape hkk
  refine q _ _ (by rw [hm', ← hkey]; exact .int _ t) J' st (by rw [hlen]; exact hit') fun A' Q' E' h => letOwned_plain (fun _ => by simp) h
 done := fun A σ s Q E rm J hok hit hf q => by
  obtain ⟨kvs, hD, rs, hk⟩ := J.sto a _ hok
  have hlen : l.length = kvs.length := by have := congrArg List.length hk; simpa using this.symm
  obtain ⟨o, eo, hc, hd⟩ := id hit
  have nf : ∀ o, s.heap.get? I = some o → ¬ Firm o := fun o' e' => by
   obtain ⟨o₂, vs₂, a1, _, a3, _⟩ := iterAux eo hc hd (by decide) I (by simp)
   rw [e'] at a1; cases a1; exact a3
  refine wpAny_pyNext_dict_end (knd := intKind K.prog K.w) (kvs := kvs) rm.1 (hlen ▸ hit) hD (by simp [hlen]) fun h' hs' => ?_
  obtain ⟨J', st⟩ := iter_step (tk := s.toks) J hs' hf nf
  exact q _ J' st
theorem Src.walks {I : Addr} {tgt : Expr} {items : List MV} {P : Nat → Value → Prop} {St : Nat → Heap → Prop} {T : String} (W : ∀ A' : Around, A'.handled = none → Walks K.prog K.w A' I [I] [I] items.length P St)
  (hS : ∀ (A : Around) i s Q E, St i s.heap → Q (.ref I) s → wpAny K.M A (pyIter (.ref I)) Q E s)
  (hP : ∀ i v m, P i v → items[i]? = some m → (∀ h, Rep h v m) ∧ ∀ a, v ≠ .ref a)
  (hA : ∀ i h, St i h → ∃ o vs, h.get? I = some o ∧ o.cls = .type T ∧ o.data = .fields vs) (hT : T ≠ "IndexError" ∧ T ≠ "traceback" ∧ T ≠ "frame" ∧ T ≠ "tuple" ∧ T ≠ "builtin_function_or_method" ∧ T ≠ "range") :
  Src K I [I] tgt items (fun _ => True) (fun i s => St i s.heap) where
 self := fun A i s Q E st q => hS A i s Q E st q
 aux := fun i s st => by obtain ⟨o, vs, e, hc, hd⟩ := hA i _ st; exact iterAux e hc hd hT
 keep := fun i s s' st k => (W { handled := none } rfl).frame i _ _ st k
 item := fun A i σ s m Q E rm hm J hok st hf q => by
  have hi : i < items.length := (List.getElem?_eq_some_iff.mp hm).1
  obtain ⟨o, vs, eo, hc, hd⟩ := hA i _ st
  have nf : ∀ o, s.heap.get? I = some o → ¬ Firm o := fun o' e' => by
   obtain ⟨o₂, vs₂, a1, _, a3, _⟩ := iterAux eo hc hd hT I (by simp)
   rw [e'] at a1; cases a1; exact a3
  refine (W A rm.1).item i s _ _ hi st fun v h' tk hPv st' hk => ?_
  obtain ⟨J', stp⟩ := iter_step (tk := tk) J (fun b o hb e => hk b o (by simpa using hb) e) hf nf
  exact q v _ ((hP i v m hPv hm).1 _) J' stp st' fun A' Q' E' h => letOwned_plain (hP i v m hPv hm).2 h
 done := fun A σ s Q E rm J hok st hf q => by
  obtain ⟨o, vs, eo, hc, hd⟩ := hA _ _ st
  have nf : ∀ o, s.heap.get? I = some o → ¬ Firm o := fun o' e' => by
   obtain ⟨o₂, vs₂, a1, _, a3, _⟩ := iterAux eo hc hd hT I (by simp)
   rw [e'] at a1; cases a1; exact a3
  refine (W A rm.1).done s _ _ st fun h' tk hk => ?_
  obtain ⟨J', stp⟩ := iter_step (tk := tk) J (fun b o hb e => hk b o (by simpa using hb) e) hf nf
  exact q _ J' stp
end
theorem none_of_ge {h : Heap} {a : Addr} (ha : h.objs.size ≤ a) : h.get? a = none := Heap.get?_none_of_le ha
theorem SInv.offNew {K : Ktx} {σ : Sto} {s : Shared} (I : SInv K σ s) {a : Addr} (ha : s.heap.get? a = none) : σ a = none ∧ K.h0.get? a = none := by
 constructor
 ·cases q : σ a with
  | none => rfl
  | some mo => obtain ⟨o, e, _⟩ := (I.sto a mo q).there; rw [ha] at e; cases e
 ·cases q : K.h0.get? a with
  | none => rfl
  | some o => have := I.old a o q; rw [ha] at this; cases this
section
variable {K : Ktx} {d : Nat} {env : Env} {nm : List Str}
structure IterAt (K : Ktx) (σ : Sto) (s : Shared) (R : List MV → (Sto → Prop) → Prop) (it : Value) (s' : Shared) : Prop where
 out : ∃ I items ok St h', it = .ref I ∧ R items ok ∧ (∀ tgt, Src K I [I] tgt items ok St) ∧ St 0 s' ∧ ok σ ∧ s.heap.get? I = none ∧ s' = { s with heap := h' } ∧ (∀ b o, s.heap.get? b = some o → h'.get? b = some o)
theorem Rep.rng_inv {h : Heap} {v : Value} {a b c : Int} (r : Rep h v (.rng a b c)) : ∃ r t u w, v = .ref r ∧ h.get? r = some (rngO a b c t u w) := by
 cases r with
 | rng e => exact ⟨_, _, _, _, rfl, e⟩
theorem Rep.ref_inv' {h : Heap} {v : Value} {a : Addr} (r : Rep h v (.ref a)) : v = .ref a := by cases r; rfl
theorem Rep.str_inv' {h : Heap} {v : Value} {l : List Nat} (r : Rep h v (.str l)) : ∃ t, v = .str ⟨l.toArray⟩ t := by cases r; exact ⟨_, rfl⟩
theorem iter_ok {A : Around} {m : MV} {σ : Sto} {s : Shared} {v : Value} {R : List MV → (Sto → Prop) → Prop} {Q : Value → Shared → Prop} {E : Value → Shared → Prop} (I : SInv K σ s) (r : Rep s.heap v m) (p : IterOf m σ R)
  (hQ : ∀ it s', IterAt K σ s R it s' → Q it s') : wpAny K.M A (pyIter v) Q E s := by
 have fr : s.heap.get? s.heap.objs.size = none := none_of_ge (Nat.le_refl _)
 rcases p with ⟨a, l, rfl, hl, p⟩ | ⟨a, l, ep, rfl, hl, hm, p⟩ | ⟨l, rfl, hl, p⟩ | ⟨a, b, c, rfl, hs, p⟩
 rotate_left 2
 ·obtain ⟨t, rfl⟩ := r.str_inv'
  refine wpAny_pyIter_ascii (by simpa using hl) (hQ _ _ ⟨_, _, _, (fun i s' => s'.heap.IsStrIter s.heap.objs.size "str_ascii_iterator" ⟨l.toArray⟩ t i), _, rfl, p, fun tgt => ?_, ⟨_, Heap.get?_push_size _ rfl, rfl, rfl⟩, trivial, fr, rfl, fun b o e => Heap.get?_push_of_some _ e⟩)
  refine Src.walks (T := "str_ascii_iterator") (P := SignAt ⟨l.toArray⟩) (St := fun i h => h.IsStrIter s.heap.objs.size "str_ascii_iterator" ⟨l.toArray⟩ t i) (fun A' hA => ?_) (fun A' i s' Q' E' st q => wpAny_pyIter_striter_ascii st q) ?_ (fun i h ⟨o, e, hc, hd⟩ => ⟨o, _, e, hc, hd⟩) (by decide)
  ·have W := Walks.strAscii (prog := K.prog) (w := K.w) hA s.heap.objs.size ⟨l.toArray⟩ t
   rw [show (⟨l.toArray⟩ : Str).cps.size = (l.map fun c => MV.str [c]).length by simp] at W
   exact W
  ·rintro i v m ⟨c, u, hc, rfl⟩ hm
   have hc' : l[i]? = some c := by simpa using hc
   rw [List.getElem?_map, hc'] at hm
   simp at hm; subst hm
   exact ⟨fun h => .str [c] u, fun a => by simp⟩
 ·obtain ⟨r0, t1, t2, t3, rfl, e⟩ := r.rng_inv
  refine wpAny_pyIter_range e hs (hQ _ _ ⟨_, _, _, (fun i s' => IsRangeIter s'.heap s.heap.objs.size (a + (i : Nat) * c) ((((Builtin.Range.rangeSize a b c).toNat : Nat) : Int) - (i : Nat)) c), _, rfl, p, fun tgt => ?_, ?_, trivial, fr, rfl, fun b o e => Heap.get?_push_of_some _ e⟩)
  ·refine Src.walks (T := "range_iterator") (P := fun i v => ∃ t, v = .int (a + i * c) t) (St := fun i h => IsRangeIter h s.heap.objs.size (a + (i : Nat) * c) ((((Builtin.Range.rangeSize a b c).toNat : Nat) : Int) - (i : Nat)) c) (fun A' hA => ?_) (fun A' i s' Q' E' st q => wpAny_pyIter_rangeiter st q) ?_ (fun i h e => ⟨_, _, e, rfl, rfl⟩) (by decide)
   ·rw [show (rangeL a b c).length = (Builtin.Range.rangeSize a b c).toNat by simp [rangeL]]
    exact Walks.range hA s.heap.objs.size a c _
   ·rintro i v m ⟨t, rfl⟩ hm
    unfold rangeL at hm
    obtain ⟨hi, hm'⟩ := List.getElem?_eq_some_iff.mp hm
    simp at hm'; subst hm'
    exact ⟨fun h => .int _ t, fun a => by simp⟩
  ·have hn : 0 ≤ Builtin.Range.rangeSize a b c := by
    unfold Builtin.Range.rangeSize
    split
    ·split
     ·have := Int.ediv_nonneg (show 0 ≤ b - a - 1 by (subst_vars; omega)) (show 0 ≤ c by walk_at "q"); omega
     ·walk_at "q"
    ·split
     ·have := Int.ediv_nonneg (show 0 ≤ a - b - 1 by (subst_vars; omega)) (show 0 ≤ -c by lia); (subst_vars; omega)
     ·walk_at "q"
   show IsRangeIter _ _ (a + ((0 : Nat) : Int) * c) _ c
   simp only [Int.toNat_of_nonneg hn]
   have := Heap.get?_push_size s.heap (o := { cls := .type "range_iterator", data := .fields #[rawInt a, rawInt (Builtin.Range.rangeSize a b c), rawInt c] }) rfl
   simpa using this
 ·cases r.ref_inv'
  obtain ⟨vs, n, e, rs, hz⟩ := I.sto a _ hl
  exact wpAny_pyIter_list (items := vs.toArray) ⟨_, e, rfl, n, rfl⟩ (hQ _ _ ⟨_, _, _, _, _, rfl, p, fun tgt => Src.list, ⟨_, Heap.get?_push_size _ rfl, rfl, rfl⟩, hl, fr, rfl, fun b o e => Heap.get?_push_of_some _ e⟩)
 ·cases r.ref_inv'
  obtain ⟨kvs, hD, rs, hk⟩ := I.sto a _ hl
  have hlen : l.length = kvs.length := by have := congrArg List.length hk; simpa using this.symm
  exact wpAny_pyIter_dict (knd := intKind K.prog K.w) (by simpa using hm) hD (hQ _ _ ⟨_, _, _, _, _, rfl, p, fun tgt => Src.dict, ⟨_, Heap.get?_push_size _ rfl, rfl, by simp [hlen]⟩, hl, fr, rfl, fun b o e => Heap.get?_push_of_some _ e⟩)
end
section
variable {K : Ktx} {d : Nat} {env : Env} {nm : List Str}
def sFor (T : PT) (B : PS) (P : PE) : PS := fun ρ σ Q X => P ρ σ (fun m σ₁ => IterOf m σ₁ fun items ok => forGo T B ok items ρ σ₁ Q) X
theorem RefS.for {tgt iter : Expr} {body : List Stmt} {pos : Pos} {T : PT} {B : PS} {P : PE} (hi : RefE K d env nm iter P) (hT : RefT K d env nm (ownOf env) tgt T) (hB : RefL K d env nm body B)
  (hs : ∀ x, foldedSetIterable iter env x = pure x := by intro _; rfl) : RefS K d env nm (.For tgt iter body [] pos) (sFor T B P) := fun A ρ σ s Q X rm F pp => by
 refine wpAny_For (wpAny_mono (hi A ρ σ s _ X rm F pp) ?_ fun _ _ h => h.up F) hs
 rintro v s₁ ⟨m, σ₁, r, I₁, st₁, q⟩
 refine iter_ok I₁ r q ?_
 rintro it s₂ ⟨I, items, ok, St, h', rfl, p, S, hst, hok, hI, rfl, k⟩
 have F₁ := F.step I₁ st₁
 have off := I₁.offNew hI
 refine codeAny_mono (forLoop_ok hT hB (S tgt) rm (F₁.grow (tk := s₁.toks) k) hok hst (fun b hb => by rw [List.mem_singleton.mp hb]; exact off) p) ?_
 rintro r s' hr
 cases r with
 | error e => exact hr.elim
 | ok f =>
  obtain ⟨mf, ρ', σ', r', F', st', q'⟩ := hr
  refine ⟨mf, ρ', σ', r', F', st₁.nil.trans (st'.drop k (fun _ _ e => e) fun b hb => ?_), q'⟩
  rcases List.mem_append.mp hb with hb | hb
  ·exact .inl hb
  ·rw [List.mem_singleton.mp hb]; exact .inr hI
theorem FInv.weaken {A : Around} {ρ ρ' : Loc} {σ : Sto} {s : Shared} (F : FInv K env nm ρ' A σ s) (h : ∀ i m, ρ i = some m → ρ' i = some m) : FInv K env nm ρ A σ s :=
 ⟨F.inv, let ⟨f, hn, hv⟩ := F.ns; ⟨f, hn, fun i x m a b c => hv i x m a b (h i m c)⟩, fun x c hc => let ⟨vo, a, b⟩ := F.cells x c hc; ⟨vo, a, fun i m p q r => b i m p q (h i m r)⟩, F.offL, F.offC, F.sep, F.one, F.stk, F.top⟩
def RefIfs (K : Ktx) (d : Nat) (env : Env) (nm : List Str) (ifs : List Expr) (P : PB) : Prop := ∀ A ρ σ s Q X, Room d A → FInv K env nm ρ A σ s → P ρ σ Q X →
 wpAny K.M A (forIn ifs true fun c r => if r = true then do let ok ← isTrue c env (eval c env); pure (ForInStep.yield ok) else pure (ForInStep.yield r)) (PostB K σ s Q) (PostX K [] σ s X) s
theorem RefIfs.nil : RefIfs K d env nm [] pAndNil := fun A ρ σ s Q X rm F p => wpAny_tests_nil (postB_now F.inv p)
theorem RefIfs.one {c : Expr} {P : PB} (h : RefB K d env nm c P) : RefIfs K d env nm [c] P := fun A ρ σ s Q X rm F p => wpAny_tests_one (h A ρ σ s Q X rm F p)
noncomputable def compGo (T : PT) (B : PB) (P : PE) (ok : Sto → Prop) (ρ : Loc) : List MV → Sto → List MV → (List MV → Sto → Prop) → Prop
 | [], σ, acc, Q => Q acc σ
 | x :: xs, σ, acc, Q => T x ρ fun ρ₁ => B ρ₁ σ (fun b σ₁ => ok σ₁ ∧ (b = true → P ρ₁ σ₁ (fun m σ₂ => ok σ₂ ∧ compGo T B P ok ρ xs σ₂ (acc ++ [m]) Q) fun _ => False) ∧ (b = false → compGo T B P ok ρ xs σ₁ acc Q)) fun _ => False
theorem codeAny_compLoop_own {elt target iter : Expr} {ifs : List Expr} {scope : Scope} {pos : Pos} {it acc : Value} {A : Around} {s : Shared} {R : Result → Shared → Prop} (I : Nat → Shared → Prop)
  (turn : ∀ n s, I n s → wpAny K.M A (pyNext it) (fun r s₁ => match r with
   | none => R (.ok .next) s₁
   | some v => wpAny K.M A (letOwnedTupleGo target it v) (fun _ s₁' => wpAny K.M A (assign target env v) (fun _ s₂ =>
     wpAny K.M A (forIn ifs true fun c r => if r = true then do let ok ← isTrue c env (eval c env); pure (ForInStep.yield ok) else pure (ForInStep.yield r)) (fun ok s₃ =>
      if ok = true then wpAny K.M A (eval elt env) (fun x s₄ =>
       wpAny K.M A (call (.builtin "list.append") [acc, x]) (fun _ s₅ => ∃ m, m < n ∧ I m s₅) (fun _ _ => False) s₄) (fun _ _ => False) s₃
      else ∃ m, m < n ∧ I m s₃) (fun _ _ => False) s₂) (fun _ _ => False) s₁') (fun _ _ => False) s₁) (fun _ _ => False) s)
  (n : Nat) (h : I n s) : codeAny K.M A (.compLoop (.ListComp elt [⟨target, iter, ifs, 0⟩] scope pos) 0 it acc env) R s := by
 refine codeAny_loop rfl I (fun n s hI => ?_) n h
 show wpAny _ A ((compTurn (.ListComp elt [⟨target, iter, ifs, 0⟩] scope pos) 0 it acc env).onRaise (fun x => do noteFrame x env; theTreesLotGoes x)) _ _ s
 refine wpAny_noted ?_
 rw [compTurn_list]
 have no : ∀ {E' : Value → Shared → Prop}, ∀ e s, (fun (_ : Value) (_ : Shared) => False) e s → E' e s := fun _ _ h => h.elim
 refine wpAny_bind (wpAny_standAt (wpAny_bind (wpAny_mono (turn n s hI) (fun r s₁ h₁ => ?_) no)))
 cases r with
 | none => exact wpAny_pure h₁
 | some v =>
  refine wpAny_bind (wpAny_mono h₁ (fun _ s₁' h₁' => ?_) no)
  refine wpAny_bind (wpAny_mono h₁' (fun _ s₂ h₂ => wpAny_bind (wpAny_mono h₂ (fun ok s₃ h₃ => ?_) no)) no)
  cases ok with
  | false => exact wpAny_pure ⟨rfl, h₃⟩
  | true => exact wpAny_bind (wpAny_bind (wpAny_mono h₃ (fun x s₄ h₄ => wpAny_bind (wpAny_mono h₄ (fun _ s₅ h₅ => wpAny_pure (wpAny_pure ⟨rfl, h₅⟩)) no)) no))
theorem call_append {A : Around} {D : Addr} {vs : List Value} {n : Nat} {y : Value} {s : Shared} {Q : Value → Shared → Prop} {E : Value → Shared → Prop} (e : s.heap.get? D = some (lstO vs n)) (hz : vs.length ≤ sizeLine)
  (q : ∀ h' n', h'.get? D = some (lstO (vs ++ [y]) n') → Heap.SameBut D s.heap h' → Q .none { s with heap := h' }) : wpAny K.M A (call (.builtin "list.append") [.ref D, y]) Q E s := by
 refine wpAny_list_append_plain (hsz := by simpa using hz) (items := vs.toArray) ⟨n, e⟩ fun h' ⟨n', e'⟩ hs => q h' n' ?_ hs
 rw [e']; simp [lstO]
theorem lst_keep {own : List Addr} {σ σ' : Sto} {s s' : Shared} (st : Stp own σ s σ' s') {D : Addr} {vs : List Value} {n : Nat} (e : s.heap.get? D = some (lstO vs n)) (h : σ D = none) (hn : D ∉ own) : s'.heap.get? D = some (lstO vs n) := by
 obtain ⟨o', e', q⟩ := st.keep D _ e h hn
 rw [e', q.same (T := "list") rfl (by decide) (by decide) (fun ⟨_, _, q⟩ => by cases q)]
theorem lst_nf (vs : List Value) (n : Nat) : ¬ Firm (lstO vs n) := Firm.not (show Value.type "list" ≠ _ by decide) (show Value.type "list" ≠ _ by decide) (show Value.type "list" ≠ _ by decide)
structure AuxI (I : Addr) (h : Heap) (o : Obj) : Prop where
 at' : h.get? I = some o
 fl : ∃ vs, o.data = .fields vs
 nf : ¬ Firm o
 keep : ∀ o', SlotEq o o' → o' = o
theorem aux_of {K : Ktx} {I : Addr} {tgt : Expr} {items : List MV} {ok : Sto → Prop} {St : Nat → Shared → Prop} (S : Src K I [I] tgt items ok St) {i : Nat} {s : Shared} (st : St i s) : ∃ o, AuxI I s.heap o := by
 obtain ⟨o, vs, a1, a2, a3, T, b1, b2, b3, b4⟩ := S.aux i s st I (List.mem_singleton.mpr rfl)
 exact ⟨o, a1, ⟨vs, a2⟩, a3, fun o' q => q.same b1 b2 b3 b4⟩
theorem AuxI.off {K : Ktx} {env : Env} {nm : List Str} {ρ : Loc} {A : Around} {σ : Sto} {s : Shared} {I : Addr} {o : Obj} (x : AuxI I s.heap o) (F : FInv K env nm ρ A σ s) : I ∉ ownOf env := fun hm => by
 obtain ⟨vs, a2⟩ := x.fl
 have a1 := x.at'
 rcases List.mem_cons.mp hm with q | q
 ·subst q
  obtain ⟨g, ⟨o', es, ep, e', hd', _⟩, _⟩ := F.ns
  rw [a1] at e'; cases e'; rw [a2] at hd'; cases hd'
 ·obtain ⟨⟨y, c⟩, hm', rfl⟩ := List.mem_map.mp q
  obtain ⟨vo, ⟨o', e', hd'⟩, _⟩ := F.cells y c hm'
  rw [a1] at e'; cases e'; rw [a2] at hd'; cases hd'
theorem AuxI.kept {own : List Addr} {σ σ' : Sto} {s s' : Shared} {I : Addr} {o : Obj} (x : AuxI I s.heap o) (st : Stp own σ s σ' s') (h : σ I = none) (hn : I ∉ own) : (∀ b ∈ [I], ∀ o, s.heap.get? b = some o → s'.heap.get? b = some o) ∧ σ' I = none := by
 refine ⟨fun b hb o₂ e => ?_, st.dom I _ x.at' h hn⟩
 rw [List.mem_singleton.mp hb] at e ⊢
 obtain ⟨o', e', q⟩ := st.keep I o₂ e h hn
 have hx := x.at'
 rw [e] at hx; cases hx
 rw [e', x.keep _ q]
theorem Reps.stepI {K : Ktx} {σ σ' : Sto} {s s' : Shared} {vs : List Value} {ms : List MV} {I : Addr} {o : Obj} (r : Reps s.heap vs ms) (x : AuxI I s.heap o) (st : Stp [I] σ s σ' s') (J : SInv K σ s) : Reps s'.heap vs ms := r.mono fun a o₂ f e => by
 obtain ⟨o', e', q⟩ := st.keep a o₂ e (J.firm e f) (fun hb => by
  have hx := x.at'
  rw [List.mem_singleton.mp hb, hx] at e; cases e; exact x.nf f)
 rw [e', q.firm f]
theorem FInv.stepI {K : Ktx} {env : Env} {nm : List Str} {ρ : Loc} {A : Around} {σ σ' : Sto} {s s' : Shared} {I : Addr} {o : Obj} (F : FInv K env nm ρ A σ s) (x : AuxI I s.heap o) (J : SInv K σ' s') (st : Stp [I] σ s σ' s') : FInv K env nm ρ A σ' s' :=
 F.stepO J st fun b hb => by
  obtain ⟨vs, a2⟩ := x.fl
  rw [List.mem_singleton.mp hb]; exact ⟨o, vs, x.at', a2, x.nf⟩
structure CmpI (K : Ktx) (env : Env) (nm : List Str) (ρ : Loc) (A : Around) (σ : Sto) (s : Shared) (I D : Addr) (i : Nat) (acc : List MV) (σ' : Sto) (vs : List Value) (n : Nat) (s' : Shared) : Prop where
 hD : s'.heap.get? D = some (lstO vs n)
 rs : Reps s'.heap vs acc
 hacc : acc.length ≤ i
 F : FInv K env nm ρ A σ' s'
 stp : Stp ([env.locals] ++ [I, D]) σ s σ' s'
 hDσ : σ' D = none
 hIσ : σ' I = none
theorem CmpI.add {K : Ktx} {env : Env} {nm : List Str} {ρ₃ : Loc} {A : Around} {σ σ₅ : Sto} {s s₅ : Shared} {I D : Addr} {i : Nat} {acc : List MV} {m : MV} {vs : List Value} {n n' : Nat} {y : Value} {h' : Heap} (C : CmpI K env nm ρ₃ A σ s I D i acc σ₅ vs n s₅) (r₅ : Rep s₅.heap y m) (hDo : K.h0.get? D = none ∧ D ∉ ownOf env ∧ D ≠ I)
  (e' : h'.get? D = some (lstO (vs ++ [y]) n')) (hs' : Heap.SameBut D s₅.heap h') : CmpI K env nm ρ₃ A σ s I D (i + 1) (acc ++ [m]) σ₅ (vs ++ [y]) n' { s₅ with heap := h' } := by
 have hs := hs'.extBut
 have kf : ∀ a o, Firm o → s₅.heap.get? a = some o → h'.get? a = some o := fun a o f e => hs a o (fun q => by subst q; rw [C.hD] at e; cases e; exact lst_nf _ _ f) e
 have nD : ∀ o, s₅.heap.get? D = some o → ¬ Firm o := fun o e => by rw [C.hD] at e; cases e; exact lst_nf _ _
 have I₆ : SInv K σ₅ { s₅ with heap := h', toks := s₅.toks } := C.F.inv.own hs C.hDσ hDo.1 nD
 have stp₆ : Stp [D] σ₅ s₅ σ₅ { s₅ with heap := h', toks := s₅.toks } := .own hs (List.mem_singleton.mpr rfl)
 have F₅ := C.F
 refine ⟨e', (C.rs.mono kf).append (.cons (r₅.mono kf) .nil), ?_, ?_, C.stp.trans (stp₆.mono fun b hb => ?_), C.hDσ, C.hIσ⟩
 ·rw [List.length_append]; exact Nat.succ_le_succ C.hacc
 ·obtain ⟨f, hn, hv⟩ := F₅.ns
  refine ⟨I₆, ⟨f, hn.at' fun o e => hs _ o (fun q => hDo.2.1 (q ▸ List.mem_cons_self)) e, fun j x mv a b c => ?_⟩, fun x c hc => ?_, F₅.offL, F₅.offC, F₅.sep, F₅.one, ?_, F₅.top⟩
  ·obtain ⟨v', e1, e2⟩ := hv j x mv a b c; exact ⟨v', e1, e2.mono kf⟩
  ·obtain ⟨vo, ⟨o, e, hd'⟩, h2⟩ := F₅.cells x c hc
   refine ⟨vo, ⟨o, hs _ o (fun q => hDo.2.1 (q ▸ List.mem_cons_of_mem _ (List.mem_map.mpr ⟨_, hc, rfl⟩))) e, hd'⟩, fun j mv a b c => ?_⟩
   obtain ⟨v', e1, e2⟩ := h2 j mv a b c; exact ⟨v', e1, e2.mono kf⟩
  ·exact F₅.stk.sameBut hs (.inr ⟨_, C.hD, fun ⟨_, _, q⟩ => by cases q⟩)
 ·rw [List.mem_singleton.mp hb]; exact List.mem_append_right _ (List.mem_cons_of_mem _ (List.mem_singleton.mpr rfl))
theorem CmpI.next {K : Ktx} {env : Env} {nm : List Str} {ρ ρ' : Loc} {A : Around} {σ σ₁ σ₂ : Sto} {s s₁ s₂ : Shared} {I D : Addr} {i : Nat} {acc : List MV} {vs : List Value} {n : Nat} (C : CmpI K env nm ρ A σ s I D i acc σ₁ vs n s₁) (st : Stp [env.locals] σ₁ s₁ σ₂ s₂) (rs : Reps s₂.heap vs acc) (F : FInv K env nm ρ' A σ₂ s₂)
  (hDL : D ∉ ownOf env) (hI : σ₂ I = none) : CmpI K env nm ρ' A σ s I D i acc σ₂ vs n s₂ := by
 have hn : D ∉ [env.locals] := fun q => hDL (List.mem_singleton.mp q ▸ List.mem_cons_self)
 exact ⟨lst_keep st C.hD C.hDσ hn, rs, C.hacc, F, C.stp.trans (st.mono fun b hb => List.mem_append_left _ hb), st.dom D _ C.hD C.hDσ hn, hI⟩
inductive CmpR (K : Ktx) (env : Env) (nm : List Str) (ρ : Loc) (A : Around) (I D : Addr) (σ : Sto) (s : Shared) (Q : List MV → Sto → Prop) (s' : Shared) : Prop
 | mk (acc : List MV) (σ' : Sto) (vs : List Value) (n : Nat) (a1 : s'.heap.get? D = some (lstO vs n)) (a2 : Reps s'.heap vs acc) (a3 : acc.length ≤ sizeLine) (F : FInv K env nm ρ A σ' s') (st : Stp ([env.locals] ++ [I, D]) σ s σ' s') (a4 : σ' D = none) (q : Q acc σ')
inductive CmpJ (K : Ktx) (env : Env) (nm : List Str) (ρ : Loc) (A : Around) (σ : Sto) (s : Shared) (I D : Addr) (items : List MV) (ok : Sto → Prop) (St : Nat → Shared → Prop) (go : List MV → Sto → List MV → Prop) (k : Nat) (s' : Shared) : Prop
 | mk (i : Nat) (acc : List MV) (σ' : Sto) (vs : List Value) (n : Nat) (hk : k = items.length - i) (hi : i ≤ items.length) (C : CmpI K env nm ρ A σ s I D i acc σ' vs n s') (hok : ok σ') (st : St i s') (p : go (items.drop i) σ' acc)
theorem compLoop_ok {elt tgt iter : Expr} {ifs : List Expr} {scope : Scope} {pos : Pos} {T : PT} {B : PB} {P : PE} {I D : Addr} {items : List MV} {ok : Sto → Prop} {St : Nat → Shared → Prop} (hT : RefT K d env nm [env.locals] tgt T) (hB : RefIfs K d env nm ifs B) (hP : RefE K d env nm elt P)
  (S : Src K I [I] tgt items ok St) {A : Around} {ρ : Loc} (hle : ∀ m Q, T m ρ Q → T m ρ fun ρ₁ => Q ρ₁ ∧ ∀ i m, ρ i = some m → ρ₁ i = some m)
  {σ : Sto} {s : Shared} {Q : List MV → Sto → Prop} (rm : Room d A) (F : FInv K env nm ρ A σ s) (hok : ok σ) (hst : St 0 s) (hI : σ I = none ∧ K.h0.get? I = none) (hD : s.heap.get? D = some (lstO [] 0)) (hDo : σ D = none ∧ K.h0.get? D = none ∧ D ∉ ownOf env ∧ D ≠ I)
  (hsz : items.length ≤ sizeLine) (p : compGo T B P ok ρ items σ [] Q) :
  codeAny K.M A (.compLoop (.ListComp elt [⟨tgt, iter, ifs, 0⟩] scope pos) 0 (.ref I) (.ref D) env) (fun r s' => match r with
   | .ok _ => CmpR K env nm ρ A I D σ s Q s'
   | .error _ => False) s := by
 refine codeAny_compLoop_own (CmpJ K env nm ρ A σ s I D items ok St fun xs σ' acc => compGo T B P ok ρ xs σ' acc Q) ?_ items.length
  ⟨0, [], σ, [], 0, rfl, Nat.zero_le _, ⟨hD, .nil, Nat.le_refl _, F, .refl .., hDo.1, hI.1⟩, hok, hst, p⟩
 rintro k s₁ ⟨i, acc, σ₁, vs, n, rfl, hi, C₁, ok₁, st₁, p₁⟩
 have rm0 : Room 0 A := rm.mono (Nat.zero_le _)
 obtain ⟨ob₁, X₁⟩ := aux_of S st₁
 by_cases hlt : i < items.length
 ·rw [List.drop_eq_getElem_cons hlt] at p₁
  refine S.item A i σ₁ s₁ items[i] _ _ rm0 (List.getElem?_eq_getElem hlt) C₁.F.inv ok₁ st₁ (fun b hb => by rw [List.mem_singleton.mp hb]; exact ⟨C₁.hIσ, hI.2⟩) fun v s₂ r₂ I₂ stp₂ st₂ lo => ?_
  have C₂ : CmpI K env nm ρ A σ s I D i acc σ₁ vs n s₂ := ⟨lst_keep stp₂ C₁.hD C₁.hDσ (fun q => hDo.2.2.2 (List.mem_singleton.mp q)), C₁.rs.stepI X₁ stp₂ C₁.F.inv, C₁.hacc, C₁.F.stepI X₁ I₂ stp₂,
   C₁.stp.trans (stp₂.mono fun b hb => by rw [List.mem_singleton.mp hb]; exact List.mem_append_right _ List.mem_cons_self), C₁.hDσ, C₁.hIσ⟩
  clear C₁ X₁ stp₂
  obtain ⟨ob₂, X₂⟩ := aux_of S st₂
  have offL : I ∉ [env.locals] := fun q => X₂.off C₂.F (List.mem_singleton.mp q ▸ List.mem_cons_self)
  refine lo A _ _ (wpAny_mono (hT A ρ σ₁ s₂ v _ _ _ rm C₂.F r₂ (hle _ _ p₁)) ?_ fun _ _ h => h)
  rintro _ s₃ ⟨ρ₃, F₃, stp₃, p₃, le₃⟩
  have C₃ := C₂.next stp₃ (C₂.rs.mono (Rep.stpF C₂.F (stp₃.of1 mem_ownL))) F₃ hDo.2.2.1 C₂.hIσ
  refine wpAny_mono (hB A ρ₃ σ₁ s₃ _ _ rm F₃ p₃) ?_ fun _ _ h => not_fly h
  rintro b s₄ ⟨σ₄, I₄, stp₄, ok₄, p₄, p₄'⟩
  have st24 : Stp [env.locals] σ₁ s₂ σ₄ s₄ := stp₃.trans stp₄.nil
  have kI := X₂.kept st24 C₂.hIσ offL
  have C₄ := C₃.next stp₄.nil (C₃.rs.mono (stp₄.firm F₃.inv)) (F₃.step I₄ stp₄) hDo.2.2.1 kI.2
  clear C₃
  cases b with
  | false =>
   exact ⟨_, by grind, i + 1, acc, σ₄, vs, n, rfl, hlt, ⟨C₄.hD, C₄.rs, Nat.le_succ_of_le C₄.hacc, C₄.F.weaken le₃, C₄.stp, C₄.hDσ, C₄.hIσ⟩, ok₄, S.keep _ _ s₄ st₂ kI.1, p₄' rfl⟩
  | true =>
   refine wpAny_mono (hP A ρ₃ σ₄ s₄ _ _ rm C₄.F (p₄ rfl)) ?_ fun _ _ h => not_fly h
   rintro y s₅ ⟨m, σ₅, r₅, I₅, stp₅, ok₅, p₅⟩
   have kI := X₂.kept (st24.trans stp₅.nil) C₂.hIσ offL
   have C₅ := C₄.next stp₅.nil (C₄.rs.step stp₅ I₄) (C₄.F.step I₅ stp₅) hDo.2.2.1 kI.2
   refine call_append C₅.hD (by rw [C₅.rs.length]; exact Nat.le_trans C₅.hacc (Nat.le_trans hi hsz)) fun h' n' e' hs' => ?_
   have C₆ := C₅.add r₅ hDo.2 e' hs'
   have hIh : ∀ b ∈ [I], ∀ o, s₂.heap.get? b = some o → h'.get? b = some o := fun b hb o e => hs'.extBut b o (by rw [List.mem_singleton.mp hb]; exact fun q => hDo.2.2.2 q.symm) (kI.1 b hb o e)
   exact ⟨_, by grind, i + 1, acc ++ [m], σ₅, vs ++ [y], n', rfl, hlt, ⟨C₆.hD, C₆.rs, C₆.hacc, C₆.F.weaken le₃, C₆.stp, C₆.hDσ, C₆.hIσ⟩, ok₅, S.keep _ _ _ st₂ hIh, p₅⟩
 ·have hin : i = items.length := Nat.le_antisymm hi (Nat.le_of_not_lt hlt)
  subst hin
  rw [List.drop_length] at p₁
  refine S.done A σ₁ s₁ _ _ rm0 C₁.F.inv ok₁ st₁ (fun b hb => by rw [List.mem_singleton.mp hb]; exact ⟨C₁.hIσ, hI.2⟩) fun s₂ I₂ stp₂ => ?_
  exact ⟨acc, σ₁, vs, n, lst_keep stp₂ C₁.hD C₁.hDσ (fun q => hDo.2.2.2 (List.mem_singleton.mp q)), C₁.rs.stepI X₁ stp₂ C₁.F.inv, Nat.le_trans C₁.hacc hsz, C₁.F.stepI X₁ I₂ stp₂,
   C₁.stp.trans (stp₂.mono fun b hb => by rw [List.mem_singleton.mp hb]; exact List.mem_append_right _ List.mem_cons_self), C₁.hDσ, p₁⟩
end
def Tw (T : PT) (js : List Nat) : Prop := ∀ m ρ Q, T m ρ Q → ∃ ρ₁, Q ρ₁ ∧ (∀ i, i ∉ js → ρ₁ i = ρ i) ∧ ∀ Q', Q' ρ₁ → T m ρ Q'
theorem Tw.v {i : Nat} : Tw (tV i) [i] := fun m ρ Q q => ⟨_, q, fun j hj => by simp at hj; simp [upd, hj], fun Q' q' => q'⟩
def Tws (T : List MV → Loc → (Loc → Prop) → Prop) (js : List Nat) : Prop := ∀ m ρ Q, T m ρ Q → ∃ ρ₁, Q ρ₁ ∧ (∀ i, i ∉ js → ρ₁ i = ρ i) ∧ ∀ Q', Q' ρ₁ → T m ρ Q'
theorem Tws.nil : Tws tNil [] := fun m ρ Q ⟨e, q⟩ => ⟨ρ, q, fun _ _ => rfl, fun Q' q' => ⟨e, q'⟩⟩
theorem Tws.cons {T : PT} {R : List MV → Loc → (Loc → Prop) → Prop} {is js : List Nat} (ht : Tw T is) (h : Tws R js) : Tws (tCons T R) (is ++ js) := fun ms ρ Q ⟨m, ms', e, q⟩ => by
 obtain ⟨ρ₁, q₁, a₁, b₁⟩ := ht _ _ _ q
 obtain ⟨ρ₂, q₂, a₂, b₂⟩ := h _ _ _ q₁
 exact ⟨ρ₂, q₂, fun i hi => (a₂ i fun z => hi (List.mem_append_right _ z)).trans (a₁ i fun z => hi (List.mem_append_left _ z)), fun Q' q' => ⟨m, ms', e, b₁ _ (b₂ _ q')⟩⟩
theorem Tw.tup {R : List MV → Loc → (Loc → Prop) → Prop} {js : List Nat} (h : Tws R js) : Tw (tTup R) js := fun m ρ Q ⟨ms, e, q⟩ => by
 obtain ⟨ρ₁, a, b, c⟩ := h _ _ _ q
 exact ⟨ρ₁, a, b, fun Q' q' => ⟨ms, e, c _ q'⟩⟩
theorem closureFor_mem {scope : Scope} {env : Env} {cl : List (Str × Addr)} (h : closureFor scope env = pure cl) : ∀ p ∈ cl, p ∈ env.cells := by
 unfold closureFor at h
 have key : ∀ (names : List (Str × NameKind)) (cs cl : List (Str × Addr)) (_ : ∀ p ∈ cs, p ∈ env.cells),
   (forIn names cs fun (x : Str × NameKind) (r : List (Str × Addr)) => match x with
    | (name, kind) => if (kind == NameKind.free) = true then do let __do_lift ← cellOf env name; pure (ForInStep.yield ((name, __do_lift) :: r)) else pure (ForInStep.yield r) : Sem (List (Str × Addr))) = pure cl → ∀ p ∈ cl, p ∈ env.cells := by
  intro names
  induction names with
  | nil =>
   intro cs cl hcs e p hp
   rw [List.forIn_nil] at e
   have : cs = cl := by injection e
   exact hcs p (this ▸ hp)
  | cons x r ih =>
   obtain ⟨name, kind⟩ := x
   intro cs cl hcs e
   rw [List.forIn_cons] at e
   by_cases hk : (kind == NameKind.free) = true
   ·simp only [hk, if_true] at e
    unfold cellOf at e
    cases hl : env.cells.lookup name with
    | none => rw [hl] at e; cases e
    | some a =>
     rw [hl] at e
     refine ih ((name, a) :: cs) cl (fun p hp => ?_) e
     rcases List.mem_cons.mp hp with rfl | hp
     ·exact mem_of_lookup hl
     ·exact hcs p hp
   ·simp only [hk] at e
    exact ih cs cl hcs e
 refine key scope.names [] cl (fun _ h => nomatch h) ?_
 rw [← h]
 show _ = (forIn scope.names ([] : List (Str × Addr)) _ >>= fun cs => pure cs)
 rw [bind_pure]
noncomputable def nmOk (nm nm' : List Str) (sc sc' : List (Str × NameKind)) (fresh : List Nat) : Bool :=
 nm'.zipIdx.all fun (x, i) => match sc'.lookup x with
  | some .local => fresh.contains i
  | some .cell => decide (nm[i]? = some x) && (decide (sc.lookup x = some .cell) || decide (sc.lookup x = some .free))
  | some .free => decide (nm[i]? = some x) && (decide (sc.lookup x = some .cell) || decide (sc.lookup x = some .free))
  | _ => true
theorem nmOk.get {nm nm' : List Str} {sc sc' : List (Str × NameKind)} {fresh : List Nat} (h : nmOk nm nm' sc sc' fresh = true) {i : Nat} {x : Str} (hx : nm'[i]? = some x) :
  (sc'.lookup x = some .local → i ∈ fresh) ∧ ((sc'.lookup x = some .cell ∨ sc'.lookup x = some .free) → nm[i]? = some x ∧ (sc.lookup x = some .cell ∨ sc.lookup x = some .free)) := by
 have hm : (x, i) ∈ nm'.zipIdx := by
  rw [List.mem_zipIdx_iff_getElem?]; exact hx
 have := List.all_eq_true.mp h _ hm
 dsimp only at this
 refine ⟨fun e => ?_, fun e => ?_⟩
 ·rw [e] at this; simpa using this
 ·rcases e with e | e <;> rw [e] at this <;> simpa using this
section
variable {K : Ktx} {d : Nat} {env : Env} {nm : List Str}
theorem comp_block {elt tgt iter : Expr} {ifs : List Expr} {scope : Scope} {pos : Pos} {cl : List (Str × Addr)} {nm' : List Str} {fresh js : List Nat} {T : PT} {B : PB} {P : PE} {I : Addr} {items : List MV} {ok : Sto → Prop} {St : Nat → Shared → Prop}
  (hT : ∀ C, RefT K d (compEnvC scope cl C env) nm' [C] tgt T) (hB : ∀ C, RefIfs K d (compEnvC scope cl C env) nm' ifs B) (hP : ∀ C, RefE K d (compEnvC scope cl C env) nm' elt P) (hw : Tw T js) (hj : ∀ j ∈ js, j ∈ fresh)
  (hclos : closureFor scope env = pure cl) (hcell : ∀ y ∈ scope.names, y.2 ≠ .cell) (hkind : scope.kind = .function) (hnm : nmOk nm nm' env.scope.names (relabel scope env).names fresh = true)
  (S : ∀ tgt, Src K I [I] tgt items ok St) {A : Around} {ρ : Loc} {σ : Sto} {s₁ : Shared} {h₂ : Heap} {Q : List MV → Sto → Prop} {RR : Value → Addr → Result → Shared → Prop} {E : Value → Shared → Prop} (rm : Room d A) (F : FInv K env nm ρ A σ s₁) (hok : ok σ)
  (hst : St 0 { s₁ with heap := h₂ }) (hI : s₁.heap.get? I = none) (k : ∀ b o, s₁.heap.get? b = some o → h₂.get? b = some o) (hfr : ∀ i ∈ fresh, ρ i = none) (hsz : items.length ≤ sizeLine) (p : compGo T B P ok ρ items σ [] Q)
  (hRR : ∀ D C acc σ' vs n s', s₁.heap.get? D = none → s₁.heap.get? C = none → D ≠ C → s'.heap.get? D = some (lstO vs n) → Reps s'.heap vs acc → acc.length ≤ sizeLine → FInv K env nm ρ A σ' s' → Stp [] σ s₁ σ' s' → σ' D = none → σ' C = none → (∃ m, s'.heap.Ns C m) → Q acc σ' → ∀ f, RR (.ref D) C (.ok f) s') :
  wpAny K.M A (newList []) (fun acc s₃ => wpAny K.M A (newFunctionEnv scope env.globals cl [] env.qual none .none (some env)) (fun cenv s₄ =>
   codeAny K.M A (.compStart (.ListComp elt [⟨tgt, iter, ifs, 0⟩] scope pos) 0 (.ref I) acc { cenv with scope := relabel scope env }) (RR acc cenv.locals) s₄) E s₃) E { s₁ with heap := h₂ } := by
 refine wpAny_newObj_type (wpAny_newFunctionEnv hcell (by intro y hy; simp at hy) (fun h₁ hns₁ hsb₁ => ?_) hkind)
 dsimp only at hns₁ hsb₁ ⊢
 generalize hH2 : h₂.push { cls := .type "list", dict := none, data := .seq ([] : List Value).toArray } = H2 at hns₁ hsb₁ ⊢
 have hC : H2.objs.size = h₂.objs.size + 1 := by rw [← hH2, Heap.size_push]
 have hDC : h₂.objs.size ≠ H2.objs.size := by rw [hC]; exact Nat.ne_of_lt (Nat.lt_succ_self _)
 have old2 : ∀ b o, h₂.get? b = some o → h₁.get? b = some o := fun b o e =>
  hsb₁.extBut b o (by rw [hC]; exact Nat.ne_of_lt (Nat.lt_succ_of_lt (Heap.lt_size e))) (Heap.get?_push_of_some _ (hH2 ▸ Heap.get?_push_of_some _ e))
 have old : ∀ b o, s₁.heap.get? b = some o → h₁.get? b = some o := fun b o e => old2 b o (k b o e)
 have hD₁ : h₁.get? h₂.objs.size = some (lstO [] 0) := hsb₁.extBut _ _ hDC (Heap.get?_push_of_some _ (hH2 ▸ Heap.get?_push_size _ rfl))
 have fresh2 : ∀ a, h₂.objs.size ≤ a → s₁.heap.get? a = none := fun a ha => by
  cases e : s₁.heap.get? a with
  | none => rfl
  | some o => have := k a o e; rw [none_of_ge ha] at this; cases this
 have hDn := fresh2 _ (Nat.le_refl _)
 have hCn := fresh2 H2.objs.size (by rw [hC]; exact Nat.le_succ _)
 have IC := F.inv.offNew hCn
 have ID := F.inv.offNew hDn
 have II := F.inv.offNew hI
 have F₁ : FInv K (compEnvC scope cl H2.objs.size env) nm' ρ A σ { s₁ with heap := h₁, toks := s₁.toks + ([] : List (Str × Value)).length } := by
  have F₀ := F.grow (tk := s₁.toks + ([] : List (Str × Value)).length) old
  have cm := closureFor_mem hclos
  refine ⟨F₀.inv, ⟨_, hns₁, fun i x mv a b c => ?_⟩, fun x c hc => ?_, IC, fun x c hc => ?_, fun x y c a b => F₀.sep x y c (cm _ a) (cm _ b), fun x c c' a b => F₀.one x c c' (cm _ a) (cm _ b), F₀.stk, fun h => nomatch h⟩
  ·have := (nmOk.get hnm a).1 b
   rw [hfr i this] at c; cases c
  ·obtain ⟨vo, a, b⟩ := F₀.cells x c (cm _ hc)
   refine ⟨vo, a, fun i mv q1 q2 q3 => ?_⟩
   obtain ⟨r1, r2⟩ := (nmOk.get hnm q1).2 q2
   exact b i mv r1 r2 q3
  ·obtain ⟨a, b, _⟩ := F₀.offC x c (cm _ hc)
   refine ⟨a, b, fun q => ?_⟩
   obtain ⟨vo, hcl, _⟩ := F.cells x c (cm _ hc)
   obtain ⟨o, e, _⟩ := hcl
   have q' : c = H2.objs.size := q
   rw [q', hCn] at e; cases e
 have hst₁ : St 0 { s₁ with heap := h₁, toks := s₁.toks + ([] : List (Str × Value)).length } := (S tgt).keep 0 { s₁ with heap := h₂ } _ hst fun b _ o e => old2 b o e
 have hle : ∀ m Q, T m ρ Q → T m ρ fun ρ₁ => Q ρ₁ ∧ ∀ i m, ρ i = some m → ρ₁ i = some m := fun m Q q => by
  obtain ⟨ρ₁, q₁, a, b⟩ := hw m ρ Q q
  refine b _ ⟨q₁, fun i m' e => ?_⟩
  rw [a i fun hi => ?_]
  ·exact e
  ·rw [hfr i (hj i hi)] at e; cases e
 have hIh : h₁.get? I ≠ none := by
  obtain ⟨o, vs, e, _⟩ := (S tgt).aux 0 _ hst₁ I (by simp)
  rw [e]; simp
 have hDI : h₂.objs.size ≠ I := fun q => by
  obtain ⟨o, vs, e, hd, _⟩ := (S tgt).aux 0 _ hst₁ I (by simp)
  rw [← q] at e
  have e' : h₁.get? h₂.objs.size = some o := e
  rw [hD₁] at e'; cases e'; cases hd
 have hDo : h₂.objs.size ∉ ownOf (compEnvC scope cl H2.objs.size env) := fun hm => by
  rcases List.mem_cons.mp hm with q | q
  ·exact hDC q
  ·obtain ⟨⟨y, c⟩, hm', q⟩ := List.mem_map.mp q
   obtain ⟨vo, ⟨o, e, _⟩, _⟩ := F.cells y c (closureFor_mem hclos _ hm')
   have q' : c = h₂.objs.size := q
   rw [q', hDn] at e; cases e
 have loop : ∀ s₃ : Shared, s₃ = { s₁ with heap := h₁, toks := s₁.toks + ([] : List (Str × Value)).length } →
   codeAny K.M A (.compLoop (.ListComp elt [⟨tgt, iter, ifs, 0⟩] scope pos) 0 (.ref I) (.ref h₂.objs.size) (compEnvC scope cl H2.objs.size env)) (RR (.ref h₂.objs.size) H2.objs.size) s₃ := by
  rintro s₃ rfl
  refine codeAny_mono (compLoop_ok (hT _) (hB _) (hP _) (S tgt) hle rm F₁ hok hst₁ II hD₁ ⟨ID.1, ID.2, hDo, hDI⟩ hsz p) ?_
  rintro r s' hr
  cases r with
  | error e => exact hr.elim
  | ok f =>
   obtain ⟨acc, σ', vs, n, e, rs, hz, F', st', hD', q⟩ := hr
   have stp : Stp [] σ s₁ σ' s' := st'.drop old (fun _ _ e => e) fun b hb => by
    refine .inr ?_
    rcases List.mem_append.mp hb with hb | hb
    ·rw [List.mem_singleton.mp hb]; exact hCn
    ·rcases List.mem_cons.mp hb with hb | hb
     ·rw [hb]; exact hI
     ·rw [List.mem_singleton.mp hb]; exact hDn
   exact hRR _ _ acc σ' vs n s' hDn hCn hDC e rs hz (F.step F'.inv stp) stp hD' F'.offL.1 (let ⟨m, hn, _⟩ := F'.ns; ⟨m, hn⟩) q f
 exact codeAny_compStart_list (loop _ rfl) ((S tgt).self A 0 _ _ _ hst₁ (loop _ rfl))
def pComp (fresh : List Nat) (T : PT) (B : PB) (P : PE) (PI : PE) : PE := fun ρ σ Q X => PI ρ σ (fun m σ₁ => (∀ i ∈ fresh, ρ i = none) ∧ IterOf m σ₁ fun items ok => items.length ≤ sizeLine ∧ compGo T B P ok ρ items σ₁ [] fun acc σ₂ => ∀ a, σ₂ a = none → Q (.ref a) (put σ₂ a (.list acc))) X
theorem list_done {σ σ' : Sto} {s s' : Shared} {C D : Addr} {vs : List Value} {n : Nat} {acc : List MV} {h' : Heap} (I : SInv K σ s) (hDn : s.heap.get? D = none) (hCn : s.heap.get? C = none) (hDC : D ≠ C) (e : s'.heap.get? D = some (lstO vs n)) (rs : Reps s'.heap vs acc) (hz : acc.length ≤ sizeLine)
  (I' : SInv K σ' s') (stp : Stp [] σ s σ' s') (hD : σ' D = none) (hC : σ' C = none) (hn : ∃ m, s'.heap.Ns C m) (hs : Heap.SameBut C s'.heap h') : SInv K (put σ' D (.list acc)) { s' with heap := h' } ∧ Stp [] σ s (put σ' D (.list acc)) { s' with heap := h' } := by
 have nf : ∀ o, s'.heap.get? C = some o → ¬ Firm o := fun o e' => by
  obtain ⟨m, o', es, ep, e'', hd, _⟩ := hn
  rw [e'] at e''; cases e''; exact notFirm_dict hd
 have I₁ : SInv K σ' { s' with heap := h', toks := s'.toks } := I'.own hs.extBut hC (I.offNew hCn).2 nf
 have kf : ∀ a o, Firm o → s'.heap.get? a = some o → h'.get? a = some o := fun a o f g => hs.extBut a o (fun q => by subst q; exact nf o g f) g
 have e₁ : h'.get? D = some (lstO vs n) := hs.extBut D _ hDC e
 have hDh : K.h0.get? D = none := (I.offNew hDn).2
 refine ⟨⟨I₁.old, fun b o g => ?_, fun b mo g => ?_, I₁.os, I₁.bare⟩, ⟨fun b o g h1 h2 => ?_, fun b o g h1 h2 => ?_, stp.gens⟩⟩
 ·rw [put_other _ _ (fun z => by rw [z, hDh] at g; cases g)]; exact I₁.apart b o g
 ·by_cases hb : b = D
  ·subst hb; simp at g; subst g; exact ⟨vs, n, e₁, rs.mono kf, hz⟩
  ·rw [put_other _ _ hb] at g; exact I₁.sto b mo g
 ·obtain ⟨o', g', x⟩ := stp.keep b o g h1 h2
  exact ⟨o', hs.extBut b o' (fun z => by rw [z, hCn] at g; cases g) g', x⟩
 ·rw [put_other _ _ (fun z => by rw [z, hDn] at g; cases g)]; exact stp.dom b o g h1 h2
theorem RefE.comp {elt tgt iter : Expr} {ifs : List Expr} {scope : Scope} {pos : Pos} {cl : List (Str × Addr)} {nm' : List Str} {fresh js : List Nat} {T : PT} {B : PB} {P PI : PE} (hi : RefE K d env nm iter PI)
  (hT : ∀ C, RefT K d (compEnvC scope cl C env) nm' [C] tgt T) (hB : ∀ C, RefIfs K d (compEnvC scope cl C env) nm' ifs B) (hP : ∀ C, RefE K d (compEnvC scope cl C env) nm' elt P) (hw : Tw T js) (hj : ∀ j ∈ js, j ∈ fresh)
  (hclos : closureFor scope env = pure cl) (hcell : ∀ y ∈ scope.names, y.2 ≠ .cell) (hkind : scope.kind = .function) (hnames : ∀ y ∈ scope.names, y.2 = .local → scope.names.lookup y.1 = some .local) (hnm : nmOk nm nm' env.scope.names (relabel scope env).names fresh = true)
  (hs : ∀ x, foldedSetIterable iter env x = pure x := by intro _; rfl) :
  RefE K d env nm (.ListComp elt [⟨tgt, iter, ifs, 0⟩] scope pos) (pComp fresh T B P PI) := fun A ρ σ s Q X rm F pp => by
 rw [eval_ListComp]
 refine wpAny_comprehension_free (use := Option.none) rfl hs hclos hkind hnames (wpAny_mono (hi A ρ σ s _ X rm F pp) ?_ fun _ _ h => h)
 rintro v s₁ ⟨m, σ₁, r, I₁, st₁, hfr, q⟩
 refine iter_ok I₁ r q ?_
 rintro it s₂ ⟨I, items, ok, St, h', rfl, ⟨hsz, p⟩, S, hst, hok, hI, rfl, k⟩
 refine comp_block (RR := fun acc C => compPost K.M A (PostX K [] σ s X) Option.none (PostE K σ s Q) acc C) hT hB hP hw hj hclos hcell hkind hnm S rm (F.step I₁ st₁) hok hst hI k hfr hsz p ?_
 intro D C acc σ' vs n s' hDn hCn hDC e rs hz F' stp hD hC hn q f
 obtain ⟨m, hn'⟩ := hn
 exact ⟨m, hn', fun h'' hs'' => PostE.from st₁ (let ⟨a, b⟩ := list_done I₁ hDn hCn hDC e rs hz F'.inv stp hD hC ⟨m, hn'⟩ hs''; ⟨.ref D, _, .ref D, a, b, q D hD⟩)⟩
theorem FInv.turnOther {A : Around} {ρ : Loc} {σ : Sto} {s : Shared} (F : FInv K env nm ρ A σ s) {h' : Heap} {tk : Nat} {C : Addr} (hs : Heap.ExtBut C s.heap h') (h1 : σ C = Option.none) (h2 : K.h0.get? C = Option.none) (nf : ∀ o, s.heap.get? C = some o → ¬ Firm o) (hl : C ≠ env.locals)
  (hc : ∀ x c, (x, c) ∈ env.cells → c ≠ C) (hf : ∀ l, A.frames = some l → ∀ e ∈ l, e.frame ≠ some C) : FInv K env nm ρ A σ { s with heap := h', toks := tk } := by
 have kf : ∀ a o, Firm o → s.heap.get? a = some o → h'.get? a = some o := fun a o f e => hs a o (fun q => by subst q; exact nf o e f) e
 obtain ⟨m, hn, hv⟩ := F.ns
 refine ⟨F.inv.own hs h1 h2 nf, ⟨m, hn.at' fun o e => hs _ o hl.symm e, fun j x mv a b c => ?_⟩, fun x c hcm => ?_, F.offL, F.offC, F.sep, F.one, ?_, F.top⟩
 ·obtain ⟨v', e1, e2⟩ := hv j x mv a b c; exact ⟨v', e1, e2.mono kf⟩
 ·obtain ⟨vo, ⟨o, e, hd'⟩, h2⟩ := F.cells x c hcm
  refine ⟨vo, ⟨o, hs _ o (hc x c hcm) e, hd'⟩, fun j mv a b c => ?_⟩
  obtain ⟨v', e1, e2⟩ := h2 j mv a b c; exact ⟨v', e1, e2.mono kf⟩
 ·obtain ⟨l, a1, a2⟩ := F.stk
  refine ⟨l, a1, fun e he => ?_⟩
  obtain ⟨k, L, o, b1, b2, b3, b4, b5⟩ := a2 e he
  exact ⟨k, L, o, b1, hs L o (fun q => hf l a1 e he (q ▸ b1)) b2, b3, b4, b5⟩
theorem RefS.asgComp {elt tgt iter : Expr} {ifs : List Expr} {scope : Scope} {pos spos py : Pos} {y : Str} {i : Nat} {cl : List (Str × Addr)} {nm' : List Str} {fresh js : List Nat} {T : PT} {B : PB} {P PI : PE} (hi : RefE K d env nm iter PI)
  (hT : ∀ C, RefT K d (compEnvC scope cl C env) nm' [C] tgt T) (hB : ∀ C, RefIfs K d (compEnvC scope cl C env) nm' ifs B) (hP : ∀ C, RefE K d (compEnvC scope cl C env) nm' elt P) (hw : Tw T js) (hj : ∀ j ∈ js, j ∈ fresh)
  (hclos : closureFor scope env = pure cl) (hcell : ∀ y ∈ scope.names, y.2 ≠ .cell) (hkind : scope.kind = .function) (hnames : ∀ y ∈ scope.names, y.2 = .local → scope.names.lookup y.1 = some .local) (hnm : nmOk nm nm' env.scope.names (relabel scope env).names fresh = true)
  (hsw : swapsWith (.ListComp elt [⟨tgt, iter, ifs, 0⟩] scope pos) (some (.Name y py)) spos.line env = pure true := by rfl)
  (hyi : nm[i]? = some y := by rfl) (hl : env.kindOf y = some .local := by rfl) (hu : nm.Nodup := by decide) (hp : (env.scope.kind == .class || (env.scope.kind == .module && env.locals != env.globals)) = false := by rfl)
  (hs : ∀ x, foldedSetIterable iter env x = pure x := by intro _; rfl) :
  RefS K d env nm (.Assign [.Name y py] (.ListComp elt [⟨tgt, iter, ifs, 0⟩] scope pos) spos) (sSet i (pComp fresh T B P PI)) := fun A ρ σ s Q X rm F pp => by
 rw [exec_Assign_Name_used _ _ _ _ hsw]
 refine wpAny_bind (wpAny_standAt (wpAny_bind ?_))
 show wpAny _ A (do let _ ← comprehension (.ListComp elt [⟨tgt, iter, ifs, 0⟩] scope pos) scope env _ (newList []) false (eval iter env) (some (assign (.Name y py) env))) _ _ s
 refine wpAny_bind (wpAny_mono (wpAny_comprehension_free (use := some (assign (.Name y py) env)) (Q := fun _ s' => PostS K env nm A σ s Q .next s') rfl hs hclos hkind hnames (wpAny_mono (hi A ρ σ s _ X rm F pp) ?_ fun _ _ h => h.up F)) (fun _ s' hq => wpAny_pure (wpAny_pure hq)) fun _ _ e => e)
 rintro v s₁ ⟨m, σ₁, r, I₁, st₁, hfr, q⟩
 refine iter_ok I₁ r q ?_
 rintro it s₂ ⟨I, items, ok, St, h', rfl, ⟨hsz, p⟩, S, hst, hok, hI, rfl, k⟩
 have F₁ := F.step I₁ st₁
 refine comp_block (RR := fun acc C => compPost K.M A (PostXS K env nm A σ s X) (some (assign (.Name y py) env)) (fun _ s' => PostS K env nm A σ s Q .next s') acc C) hT hB hP hw hj hclos hcell hkind hnm S rm F₁ hok hst hI k hfr hsz p ?_
 intro D C acc σ' vs n s' hDn hCn hDC e rs hz F' stp hD hC hn q f
 show wpAny _ A (assign (.Name y py) env (.ref D)) _ _ _
 obtain ⟨I'', st''⟩ := list_done (h' := s'.heap) I₁ hDn hCn hDC e rs hz F'.inv stp hD hC hn (.refl ..)
 ·have q₁ := q D hD
  have q₂ : put σ' D (.list acc) C = Option.none := by rw [put_other _ _ hDC.symm]; exact hC
  have F'' := F₁.step I'' st''
  obtain ⟨mC, hnC⟩ := hn
  have hCl : C ≠ env.locals := fun q => by
   obtain ⟨f, ⟨o, es, ep, e', _⟩, _⟩ := F₁.ns
   rw [← q] at e'; exact absurd e' (by rw [hCn]; simp)
  refine wpAny_assign_Name (store_local F'' (.ref D) hyi hu hl hp fun s₃ F₃ st₃ => ?_)
  have keepC : ∀ o, s'.heap.get? C = some o → Kept s₃.heap C o := fun o e => st₃.keep C o e q₂ (by simpa using hCl)
  have hnC₃ := Heap.Ns.slot hnC keepC
  refine ⟨mC, hnC₃, fun h₄ hs₄ => ?_⟩
  have nf : ∀ o, s₃.heap.get? C = some o → ¬ Firm o := fun o e' => by
   obtain ⟨o', es, ep, e'', hd, _⟩ := hnC₃
   rw [e'] at e''; cases e''; exact notFirm_dict hd
  have hC0 := (I₁.offNew hCn).2
  have F₄ := F₃.turnOther (tk := s₃.toks) hs₄.extBut q₂ hC0 nf hCl (fun x c hc q => by
    obtain ⟨vo, ⟨o, e', _⟩, _⟩ := F₁.cells x c hc
    rw [q] at e'; exact absurd e' (by rw [hCn]; simp)) fun l hl e he q => by
    obtain ⟨l', h1, h2⟩ := F₁.stk
    rw [hl] at h1; cases h1
    obtain ⟨_, L, o, a1, a2, _⟩ := h2 e he
    rw [a1] at q; cases q
    exact absurd a2 (by rw [hCn]; simp)
  refine ⟨.next, _, _, .next, F₄, st₁.nil.trans (Stp.drop (fp := ownOf env ++ [C]) (s₁ := { s₁ with heap := s₁.heap }) ?_ (fun _ _ e => e) (fun _ _ e => e) fun b hb => ?_), q₁⟩
  ·exact st''.nil.trans ((st₃.mono fun b hb => List.mem_append_left _ (by rw [List.mem_singleton.mp hb]; exact mem_ownL)).trans (Stp.own (tk := s₃.toks) hs₄.extBut (by simp)))
  ·rcases List.mem_append.mp hb with hb | hb
   ·exact .inl hb
   ·rw [List.mem_singleton.mp hb]; exact .inr hCn
end
end Mine
end
section
namespace Mine
open PySem PySem.Calls PyProof.Rows PySem.W PySem.SeqAt PySem.MeetsSeq
theorem eqBool_int {prog : Program} {w : World} {A : Around} {E : Value → Shared → Prop} {s : Shared} {a b : Int} {t u : Tok} {Q : Bool → Shared → Prop} (h : Q (a == b) s) : wpAny (model prog w) A (eqBool (.int a t) (.int b u)) Q E s := EqAt.int_int a t b u prog w E Q h
theorem rich_lt_int {prog : Program} {w : World} {A : Around} {E : Value → Shared → Prop} {s : Shared} {a b : Int} {t u : Tok} {Q : Value → Shared → Prop} (h : Q (.bool (decide (a < b))) s) : wpAny (model prog w) A (richCompare .Lt (.int a t) (.int b u)) Q E s := P.lt_int h
theorem tuple_lt_pairs (l b : Addr) (x y x' y' : Int) (t u t' u' : Tok) (n n2 : Nat) :
  Meets (Builtin.«tuple.__lt__» ⟨[.ref l, .ref b], []⟩)
   (fun A R s => s.heap.get? l = some (tupO [.int x t, .int y u] n) ∧ s.heap.get? b = some (tupO [.int x' t', .int y' u'] n2) ∧
    R (.ok (.ret (.bool (decide (x < x' ∨ (x = x' ∧ y < y')))))) s) :=
 .of_wp fun prog w A R s h => by
  obtain ⟨hp, g, d, tk, os⟩ := s; obtain ⟨hl, hb, h⟩ := h
  have f2 := AutoSeq1.sub_tuple_tuple
  have done : ∀ (c : Bool), c = decide (x < x' ∨ (x = x' ∧ y < y')) → R (.ok (.ret (.bool c))) ⟨hp, g, d, tk, os⟩ := fun c hc => hc ▸ h
  wp_walk using wpAny_loadPart' hl, wpAny_loadPart' hb, wpAny_forIn_list _ (fun rest b s' => b.1 = none ∧ s' = ⟨hp, g, d, tk, os⟩ ∧
   (rest = [(Value.int x t, Value.int x' t'), (Value.int y u, Value.int y' u')] ∨ (x = x' ∧ rest = [(Value.int y u, Value.int y' u')]) ∨ (x = x' ∧ y = y' ∧ rest = []))) _
  case turn =>
   rintro ⟨p, q⟩ rest b s' ⟨hb', rfl, hr⟩
   rcases hr with hr | ⟨hx, hr⟩ | ⟨_, _, hr⟩
   ·injection hr with h1 h2
    injection h1 with h1 h3
    subst h1 h2 h3
    refine wpAny_bind (eqBool_int ?_)
    by_cases hx : x = x'
    ·simp only [beq_iff_eq.mpr hx]
     wp_walk
     exact ⟨rfl, rfl, .inr (.inl ⟨hx, trivial⟩)⟩
    ·simp only [beq_eq_false_iff_ne.mpr hx]
     wp_walk using rich_lt_int
     exact ⟨_, rfl, done _ (by simp [hx])⟩
   ·injection hr with h1 h2
    injection h1 with h1 h3
    subst h1 h2 h3
    refine wpAny_bind (eqBool_int ?_)
    by_cases hy : y = y'
    ·simp only [beq_iff_eq.mpr hy]
     wp_walk
     exact ⟨rfl, rfl, .inr (.inr ⟨hx, hy, trivial⟩)⟩
    ·simp only [beq_eq_false_iff_ne.mpr hy]
     wp_walk using rich_lt_int
     exact ⟨_, rfl, done _ (by simp [hx])⟩
   ·cases hr
  case fin =>
   rintro ⟨b1, b2⟩ s' ⟨hb', rfl, hr⟩
   simp only at hb'
   subst hb'
   rcases hr with hr | ⟨hx, hr⟩ | ⟨hx, hy, _⟩
   ·cases hr
   ·cases hr
   ·wp_walk
    exact ⟨_, rfl, done _ (by simp [Builtin.Tuple.tupleCompareSizes, hx, hy])⟩
  case h =>
   exact ⟨rfl, rfl, .inl rfl⟩
theorem lt_pairs {prog : Program} {w : World} {A : Around} {E : Value → Shared → Prop} {s : Shared} {l b : Addr} {x y x' y' : Int} {t u t' u' : Tok} {n n2 : Nat} {Q : Value → Shared → Prop} (hl : s.heap.get? l = some (tupO [.int x t, .int y u] n))
  (hb : s.heap.get? b = some (tupO [.int x' t', .int y' u'] n2)) (hu : A.units < cLine) (h : Q (.bool (decide (x < x' ∨ (x = x' ∧ y < y')))) s) : wpAny (model prog w) A (compareOp .Lt (.ref l) (.ref b)) Q E s :=
 richCompare_meets_room (op := .Lt) ⟨_, hl, rfl⟩ ⟨_, hb, rfl⟩ F.slot_tuple_lt F.entry_tuple_lt (F.args_tuple_lt_2 _ _) (tuple_lt_pairs l b x y x' y' t u t' u' n n2)
  ⟨hl, hb, show Value.bool _ ≠ Value.notImplemented ∧ Q (.bool _) s from ⟨(fun x => nomatch x), h⟩⟩ hu
section
variable {K : Ktx} {d : Nat} {env : Env} {nm : List Str}
theorem Room.u {A : Around} (r : Room 0 A) : A.units < cLine := by have := r.2.2; simp only [cLine]; (subst_vars; omega)
theorem Room.u64 {A : Around} (r : Room 0 A) : A.units + 64 < cLine := by have := r.2.2; simp only [cLine]; omega
theorem Rep.int_inv {h : Heap} {v : Value} {i : Int} (r : Rep h v (.int i)) : ∃ t, v = .int i t := by cases r; exact ⟨_, rfl⟩
theorem Rep.str_inv {h : Heap} {v : Value} {l : List Nat} (r : Rep h v (.str l)) : ∃ t, v = .str ⟨l.toArray⟩ t := by cases r; exact ⟨_, rfl⟩
theorem Rep.ref_inv {h : Heap} {v : Value} {a : Addr} (r : Rep h v (.ref a)) : v = .ref a := by cases r; rfl
theorem Rep.bool_inv {h : Heap} {v : Value} {b : Bool} (r : Rep h v (.bool b)) : v = .bool b := by cases r; rfl
theorem Rep.none_inv {h : Heap} {v : Value} (r : Rep h v .none) : v = .none := by cases r; rfl
theorem Reps.two {h : Heap} {vs : List Value} {a b : MV} (r : Reps h vs [a, b]) : ∃ v w, vs = [v, w] ∧ Rep h v a ∧ Rep h w b := by
 cases r with
 | cons r1 r => cases r with
  | cons r2 r => cases r; exact ⟨_, _, rfl, r1, r2⟩
theorem Reps.one {h : Heap} {vs : List Value} {a : MV} (r : Reps h vs [a]) : ∃ v, vs = [v] ∧ Rep h v a := by
 cases r with
 | cons r1 r => cases r; exact ⟨_, rfl, r1⟩
theorem str_append (x y : List Nat) : (⟨x.toArray⟩ : Str) ++ (⟨y.toArray⟩ : Str) = ⟨(x ++ y).toArray⟩ := by
 show (⟨x.toArray ++ y.toArray⟩ : Str) = _
 simp
theorem str_len (x : List Nat) : (⟨x.toArray⟩ : Str).length = x.length := by simp [Str.length]
def oAdd : MOp2 := fun a b σ Q => (∃ i j, a = .int i ∧ b = .int j ∧ Q (.int (i + j)) σ) ∨ (∃ x y, a = .str x ∧ b = .str y ∧ x.length + y.length ≤ sizeLine ∧ Q (.str (x ++ y)) σ) ∨
 ∃ a' b', a = .ref a' ∧ b = .ref b' ∧ ∃ x y, σ a' = some (.list x) ∧ σ b' = some (.list y) ∧ x.length + y.length ≤ sizeLine ∧ ∀ c, σ c = none → Q (.ref c) (put σ c (.list (x ++ y)))
theorem Op2.add : Op2Ok K (binaryOp .Add) oAdd := fun A va vb a b σ s Q E rm I ra rb q => by
 rcases q with ⟨i, j, rfl, rfl, q⟩ | ⟨x, y, rfl, rfl, q⟩ | ⟨a', b', rfl, rfl, q⟩
 ·obtain ⟨t, rfl⟩ := ra.int_inv; obtain ⟨u, rfl⟩ := rb.int_inv
  exact AutoIntOps.add_0 (postE_tok I (.int _ _) q)
 ·obtain ⟨t, rfl⟩ := ra.str_inv; obtain ⟨u, rfl⟩ := rb.str_inv
  refine add_str (fun t' tk => postE_tok I (by rw [str_append]; exact .str _ _) q.2) (by rw [str_len, str_len]; exact q.1)
 ·cases ra.ref_inv; cases rb.ref_inv
  obtain ⟨x, y, ha, hb, hz, q⟩ := q
  obtain ⟨vs, n, e, rs, _⟩ := I.sto _ _ ha
  obtain ⟨vs', n', e', rs', _⟩ := I.sto _ _ hb
  refine P.add_list (items := vs.toArray) (items2 := vs'.toArray) (n := n) (n2 := n') e e' ?_ (by simp only [List.size_toArray, rs.length, rs'.length]; exact hz)
  refine newList_post (tk := s.toks) (vs := vs ++ vs') I (rs.append rs') (by simpa using hz) (Nat.le_refl _) (by rw [Heap.get?_push_size _ rfl]; simp [lstO]) (fun b o e => Heap.get?_push_of_some _ e) q
def oIAdd : MOp2 := fun a b σ Q => ∃ i j, a = .int i ∧ b = .int j ∧ Q (.int (i + j)) σ
def oISub : MOp2 := fun a b σ Q => ∃ i j, a = .int i ∧ b = .int j ∧ Q (.int (i - j)) σ
theorem Op2.iadd : Op2Ok K (inplaceOp .Add) oIAdd := fun A va vb a b σ s Q E rm I ra rb q => by
 obtain ⟨i, j, rfl, rfl, q⟩ := q
 obtain ⟨t, rfl⟩ := ra.int_inv; obtain ⟨u, rfl⟩ := rb.int_inv
 exact AutoIntOps.iadd_0 (postE_tok I (.int _ _) q)
theorem Op2.isub : Op2Ok K (inplaceOp .Sub) oISub := fun A va vb a b σ s Q E rm I ra rb q => by
 obtain ⟨i, j, rfl, rfl, q⟩ := q
 obtain ⟨t, rfl⟩ := ra.int_inv; obtain ⟨u, rfl⟩ := rb.int_inv
 exact AutoIntOps.isub_0 (postE_tok I (.int _ _) q)
def oInt (f : Int → Int → Int) (c : Int → Int → Prop) : MOp2 := fun a b σ Q => ∃ i j, a = .int i ∧ b = .int j ∧ c i j ∧ Q (.int (f i j)) σ
noncomputable def oSub := oInt (· - ·) fun _ _ => True
noncomputable def oMul := oInt (· * ·) fun i j => IntMulOk i j
noncomputable def oMod := oInt Int.fmod fun _ j => j ≠ 0
noncomputable def oDiv := oInt Int.fdiv fun i j => j ≠ 0 ∧ Builtin.divisionGoesByPylong i j = false
def oShr : MOp2 := fun a b σ Q => ∃ i j, a = .int i ∧ b = .int j ∧ 0 ≤ i ∧ j = 1 ∧ Q (.int (i / 2)) σ
noncomputable def oPow := oInt (fun i j => i ^ j.toNat) fun i j => 2 ≤ i ∧ 0 < j ∧ ¬Builtin.Int.intTooBig (((Builtin.Int.intBits i : Nat) : Int) * j) = true
theorem Op2.sub : Op2Ok K (binaryOp .Sub) oSub := fun A va vb a b σ s Q E rm I ra rb q => by
 obtain ⟨i, j, rfl, rfl, q⟩ := q
 obtain ⟨t, rfl⟩ := ra.int_inv; obtain ⟨u, rfl⟩ := rb.int_inv
 exact AutoIntOps.sub_0 (postE_tok I (.int _ _) q.2)
theorem Op2.mul : Op2Ok K (binaryOp .Mult) oMul := fun A va vb a b σ s Q E rm I ra rb q => by
 obtain ⟨i, j, rfl, rfl, q⟩ := q
 obtain ⟨t, rfl⟩ := ra.int_inv; obtain ⟨u, rfl⟩ := rb.int_inv
 exact AutoIntOps.mul_0 (postE_tok I (.int _ _) q.2) q.1
theorem Op2.mod : Op2Ok K (binaryOp .Mod) oMod := fun A va vb a b σ s Q E rm I ra rb q => by
 obtain ⟨i, j, rfl, rfl, q⟩ := q
 obtain ⟨t, rfl⟩ := ra.int_inv; obtain ⟨u, rfl⟩ := rb.int_inv
 exact AutoIntOps.mod_1 (by simpa using q.1) (postE_tok I (.int _ _) q.2)
theorem Op2.div : Op2Ok K (binaryOp .FloorDiv) oDiv := fun A va vb a b σ s Q E rm I ra rb q => by
 obtain ⟨i, j, rfl, rfl, q⟩ := q
 obtain ⟨t, rfl⟩ := ra.int_inv; obtain ⟨u, rfl⟩ := rb.int_inv
 exact AutoIntOps.floordiv_1 (by simpa using q.1.1) (by rw [q.1.2]; simp) (postE_tok I (.int _ _) q.2)
theorem Op2.shr : Op2Ok K (binaryOp .RShift) oShr := fun A va vb a b σ s Q E rm I ra rb q => by
 obtain ⟨i, j, rfl, rfl, h1, rfl, q⟩ := q
 obtain ⟨t, rfl⟩ := ra.int_inv; obtain ⟨u, rfl⟩ := rb.int_inv
 exact wpAny_rshift1_int h1 (postE_tok I (.int _ _) q)
theorem Op2.pow : Op2Ok K (binaryOp .Pow) oPow := fun A va vb a b σ s Q E rm I ra rb q => by
 obtain ⟨i, j, rfl, rfl, q⟩ := q
 obtain ⟨t, rfl⟩ := ra.int_inv; obtain ⟨u, rfl⟩ := rb.int_inv
 obtain ⟨⟨h1, h2, h3⟩, q⟩ := q
 exact AutoIntOps.pow_4 (by walk_at "q") (by simp; lia) (by simp; grind) (by simp; (subst_vars; lia)) h3 (postE_tok I (.int _ _) q)
noncomputable abbrev MCmp := MV → MV → Sto → (Bool → Prop) → Prop
def cInt (f : Int → Int → Bool) : MCmp := fun a b σ R => ∃ i j, a = .int i ∧ b = .int j ∧ R (f i j)
theorem cmp_now {A : Around} {σ : Sto} {s : Shared} {Q : Value → Shared → Prop} {R : Bool → Prop} {c : Bool} (hQ : ∀ c h' tk, R c → (∀ b o, s.heap.get? b = some o → h'.get? b = some o) → Q (.bool c) { s with heap := h', toks := tk }) (r : R c) : Q (.bool c) s :=
 hQ c s.heap s.toks r fun _ _ e => e
def cLt : MCmp := fun a b σ R => (∃ i j, a = .int i ∧ b = .int j ∧ R (decide (i < j))) ∨ ∃ x y x' y', a = .tup [.int x, .int y] ∧ b = .tup [.int x', .int y'] ∧ R (decide (x < x' ∨ (x = x' ∧ y < y')))
theorem Cmp2.ltI : Cmp2Ok K (compareOp .Lt) cLt := fun A va vb a b σ s Q R E rm I ra rb q hQ => by
 rcases q with ⟨i, j, rfl, rfl, q⟩ | ⟨x, y, x', y', rfl, rfl, q⟩
 ·obtain ⟨t, rfl⟩ := ra.int_inv; obtain ⟨u, rfl⟩ := rb.int_inv
  exact P.lt_int (cmp_now (A := A) (σ := σ) hQ q)
 ·obtain ⟨p, vs, n, rfl, e, rs⟩ := ra.tupOf
  obtain ⟨p', vs', n', rfl, e', rs'⟩ := rb.tupOf
  obtain ⟨v1, v2, rfl, r1, r2⟩ := rs.two
  obtain ⟨v1', v2', rfl, r1', r2'⟩ := rs'.two
  obtain ⟨_, rfl⟩ := r1.int_inv; obtain ⟨_, rfl⟩ := r2.int_inv; obtain ⟨_, rfl⟩ := r1'.int_inv; obtain ⟨_, rfl⟩ := r2'.int_inv
  exact lt_pairs e e' rm.u (cmp_now (A := A) (σ := σ) hQ q)
theorem Cmp2.leI : Cmp2Ok K (compareOp .LtE) (cInt fun i j => decide (i ≤ j)) := fun A va vb a b σ s Q R E rm I ra rb q hQ => by
 obtain ⟨i, j, rfl, rfl, q⟩ := q
 obtain ⟨t, rfl⟩ := ra.int_inv; obtain ⟨u, rfl⟩ := rb.int_inv
 exact P.le_int (cmp_now (A := A) (σ := σ) hQ q)
def cGt : MCmp := fun a b σ R => (∃ i j, a = .int i ∧ b = .int j ∧ R (decide (i > j))) ∨ ∃ x y, a = .str x ∧ b = .str y ∧ R (decide (y < x))
theorem Cmp2.gtI : Cmp2Ok K (compareOp .Gt) cGt := fun A va vb a b σ s Q R E rm I ra rb q hQ => by
 rcases q with ⟨i, j, rfl, rfl, q⟩ | ⟨x, y, rfl, rfl, q⟩
 ·obtain ⟨t, rfl⟩ := ra.int_inv; obtain ⟨u, rfl⟩ := rb.int_inv
  exact P.gt_int (cmp_now (A := A) (σ := σ) hQ q)
 ·obtain ⟨t, rfl⟩ := ra.str_inv; obtain ⟨u, rfl⟩ := rb.str_inv
  exact P.gt_str (cmp_now (A := A) (σ := σ) hQ (by simpa using q))
theorem Cmp2.geI : Cmp2Ok K (compareOp .GtE) (cInt fun i j => decide (i ≥ j)) := fun A va vb a b σ s Q R E rm I ra rb q hQ => by
 obtain ⟨i, j, rfl, rfl, q⟩ := q
 obtain ⟨t, rfl⟩ := ra.int_inv; obtain ⟨u, rfl⟩ := rb.int_inv
 exact P.ge_int (cmp_now (A := A) (σ := σ) hQ q)
inductive Dat : MV → PyData → Prop
 | int (i : Int) : Dat (.int i) (.int i)
 | str {l : List Nat} : (∀ c ∈ l, c < 128) → Dat (.str l) (.str ⟨l.toArray⟩)
inductive DatR : List MV → List PyData → Prop
 | nil : DatR [] []
 | cons {m : MV} {d : PyData} {ms : List MV} {ds : List PyData} : Dat m d → DatR ms ds → DatR (m :: ms) (d :: ds)
inductive Dats : List MV → List PyData → Prop
 | nil : Dats [] []
 | cons {r : List MV} {e : List PyData} {ms : List MV} {ds : List PyData} : DatR r e → Dats ms ds → Dats (.tup r :: ms) (.tuple e :: ds)
theorem Dat.reads {h : Heap} {v : Value} {m : MV} {d : PyData} (r : Rep h v m) (x : Dat m d) : ∃ as, Reads h v d as := by
 cases x with
 | int i => obtain ⟨t, rfl⟩ := r.int_inv; exact ⟨_, .int i t⟩
 | str _ => obtain ⟨t, rfl⟩ := r.str_inv; exact ⟨_, .str _ t⟩
theorem DatR.reads {h : Heap} {ms : List MV} {ds : List PyData} (x : DatR ms ds) : ∀ {vs : List Value}, Reps h vs ms → ∃ as, ReadsAll h vs ds as := by
 induction x with
 | nil => intro vs r; cases r; exact ⟨_, .nil⟩
 | cons a _ ih =>
  intro vs r
  cases r with
  | cons r rs =>
   obtain ⟨as, h1⟩ := a.reads r
   obtain ⟨bs, h2⟩ := ih rs
   exact ⟨_, .cons h1 h2⟩
theorem Dats.reads {h : Heap} {ms : List MV} {ds : List PyData} (x : Dats ms ds) : ∀ {vs : List Value}, Reps h vs ms → ∃ as, ReadsAll h vs ds as := by
 induction x with
 | nil => intro vs r; cases r; exact ⟨_, .nil⟩
 | cons a _ ih =>
  intro vs r
  cases r with
  | cons r rs =>
   obtain ⟨p, ws, n, rfl, e, rr⟩ := r.tupOf
   obtain ⟨as, h1⟩ := a.reads rr
   obtain ⟨bs, h2⟩ := ih rs
   exact ⟨_, .cons (.tuple e rfl rfl (by simpa using h1)) h2⟩
theorem strOk_ascii {l : List Nat} (h : ∀ c ∈ l, c < 128) : PyData.strOk ⟨l.toArray⟩ = true := by
 simp only [PyData.strOk, List.all_toArray, List.all_eq_true, decide_eq_true_eq]
 intro c hc; have := h c hc; (subst_vars; grind only)
theorem Dat.lay {m : MV} {d : PyData} (x : Dat m d) : d.canLay0 = true := by
 cases x with
 | int i => rfl
 | str h => exact strOk_ascii h
theorem DatR.lay {ms : List MV} {ds : List PyData} (x : DatR ms ds) : PyData.canLayAll0 ds = true := by
 induction x with
 | nil => rfl
 | cons a _ ih => simp only [PyData.canLayAll0, a.lay, ih, Bool.and_self]
theorem Dats.lay {ms : List MV} {ds : List PyData} (x : Dats ms ds) : PyData.canLayAll0 ds = true := by
 induction x with
 | nil => rfl
 | cons a _ ih => simp only [PyData.canLayAll0, PyData.canLay0, a.lay, ih, Bool.and_self]
theorem Dat.eqv {m n : MV} {d e : PyData} (x : Dat m d) (y : Dat n e) : PyData.eqv d e = true ↔ m = n := by
 cases x <;> cases y <;> simp [PyData.eqv]
theorem DatR.eqv {m : List MV} {d : List PyData} (x : DatR m d) : ∀ {n : List MV} {e : List PyData}, DatR n e → (PyData.eqvAll d e = true ↔ m = n) := by
 induction x with
 | nil => intro n e y; cases y <;> simp [PyData.eqvAll]
 | cons a _ ih =>
  intro n e y
  cases y with
  | nil => simp [PyData.eqvAll]
  | cons b y => rw [PyData.eqvAll, Bool.and_eq_true, a.eqv b, ih y, List.cons.injEq]
theorem Dats.eqv {m : List MV} {d : List PyData} (x : Dats m d) : ∀ {n : List MV} {e : List PyData}, Dats n e → (PyData.eqvAll d e = true ↔ m = n) := by
 induction x with
 | nil => intro n e y; cases y <;> simp [PyData.eqvAll]
 | cons a _ ih =>
  intro n e y
  cases y with
  | nil => simp [PyData.eqvAll]
  | cons b y => rw [PyData.eqvAll, Bool.and_eq_true, ih y, List.cons.injEq, MV.tup.injEq, ← a.eqv b, PyData.eqv]
def Eqs (p : Prop) (R : Bool → Prop) : Prop := ∀ c : Bool, (c = true ↔ p) → R c
def cEq (neg : Bool) : MCmp := fun a b σ R => (∃ i j, a = .int i ∧ b = .int j ∧ R (decide (i = j) ^^ neg)) ∨ (∃ x y, a = .str x ∧ b = .str y ∧ R (decide (x = y) ^^ neg)) ∨
 ∃ a' b', a = .ref a' ∧ b = .ref b' ∧ ∃ x y dx dy, σ a' = some (.list x) ∧ σ b' = some (.list y) ∧ Dats x dx ∧ Dats y dy ∧ (PyData.list dx).depth ≤ 64 ∧ Eqs (x = y) fun c => R (c ^^ neg)
theorem dats_eqv {x y : List MV} {dx dy : List PyData} (Dx : Dats x dx) (Dy : Dats y dy) : PyData.eqv (.list dx) (.list dy) = true ↔ x = y := by simpa [PyData.eqv] using Dx.eqv Dy
theorem Cmp2.eq : Cmp2Ok K (compareOp .Eq) (cEq false) := fun A va vb a b σ s Q R E rm I ra rb q hQ => by
 rcases q with ⟨i, j, rfl, rfl, q⟩ | ⟨x, y, rfl, rfl, q⟩ | ⟨a', b', rfl, rfl, q⟩
 ·obtain ⟨t, rfl⟩ := ra.int_inv; obtain ⟨u, rfl⟩ := rb.int_inv
  exact P.eq_int (cmp_now (A := A) (σ := σ) hQ (by simpa [Bool.beq_eq_decide_eq] using q))
 ·obtain ⟨t, rfl⟩ := ra.str_inv; obtain ⟨u, rfl⟩ := rb.str_inv
  exact P.eq_str (cmp_now (A := A) (σ := σ) hQ (by simpa [Bool.beq_eq_decide_eq] using q))
 ·cases ra.ref_inv; cases rb.ref_inv
  obtain ⟨x, y, dx, dy, ha, hb, Dx, Dy, hd, q⟩ := q
  obtain ⟨vs, n, e, rs, _⟩ := I.sto _ _ ha
  obtain ⟨vs', n', e', rs', _⟩ := I.sto _ _ hb
  obtain ⟨as, r⟩ := Dx.reads rs
  obtain ⟨bs, r'⟩ := Dy.reads rs'
  exact PySem.SeqAt.compareEq_reads (Reads.list e rfl rfl (by simpa using r)) (Reads.list e' rfl rfl (by simpa using r')) (by simpa [PyData.canLay0] using Dx.lay) (by simpa [PyData.canLay0] using Dy.lay)
   (by have := rm.u64; grind) (cmp_now (A := A) (σ := σ) hQ (by simpa only [Bool.xor_false] using q _ (dats_eqv Dx Dy)))
theorem Cmp2.ne : Cmp2Ok K (compareOp .NotEq) (cEq true) := fun A va vb a b σ s Q R E rm I ra rb q hQ => by
 rcases q with ⟨i, j, rfl, rfl, q⟩ | ⟨x, y, rfl, rfl, q⟩ | ⟨a', b', rfl, rfl, q⟩
 ·obtain ⟨t, rfl⟩ := ra.int_inv; obtain ⟨u, rfl⟩ := rb.int_inv
  exact P.ne_int (cmp_now (A := A) (σ := σ) hQ (by simpa [bne, Bool.beq_eq_decide_eq] using q))
 ·obtain ⟨t, rfl⟩ := ra.str_inv; obtain ⟨u, rfl⟩ := rb.str_inv
  exact P.ne_str (cmp_now (A := A) (σ := σ) hQ (by simpa [bne, Bool.beq_eq_decide_eq] using q))
 ·cases ra.ref_inv; cases rb.ref_inv
  obtain ⟨x, y, dx, dy, ha, hb, Dx, Dy, hd, q⟩ := q
  obtain ⟨vs, n, e, rs, _⟩ := I.sto _ _ ha
  obtain ⟨vs', n', e', rs', _⟩ := I.sto _ _ hb
  obtain ⟨as, r⟩ := Dx.reads rs
  obtain ⟨bs, r'⟩ := Dy.reads rs'
  exact PySem.SeqAt.compareNe_reads (Reads.list e rfl rfl (by simpa using r)) (Reads.list e' rfl rfl (by simpa using r')) (by simpa [PyData.canLay0] using Dx.lay) (by simpa [PyData.canLay0] using Dy.lay)
   (by have := rm.u64; lia) (cmp_now (A := A) (σ := σ) hQ (by simpa only [Bool.xor_true] using q _ (dats_eqv Dx Dy)))
theorem eqAt_dat {A : Around} {σ : Sto} {s : Shared} {v u : Value} {m n : MV} (rv : Rep s.heap v m) (ru : Rep s.heap u n) (h : (∃ i, m = .int i) ∧ (∃ i, n = .int i) ∨ (∃ i, m = .str i) ∧ (∃ i, n = .str i)) : ∃ b : Bool, (b = true ↔ m = n) ∧ EqAt A s v u b := by
 rcases h with ⟨⟨i, rfl⟩, ⟨j, rfl⟩⟩ | ⟨⟨x, rfl⟩, ⟨y, rfl⟩⟩
 ·obtain ⟨t, rfl⟩ := rv.int_inv; obtain ⟨u, rfl⟩ := ru.int_inv
  exact ⟨_, by simp, EqAt.int_int i t j u⟩
 ·obtain ⟨t, rfl⟩ := rv.str_inv; obtain ⟨u, rfl⟩ := ru.str_inv
  exact ⟨_, by simp, EqAt.str_str _ t _ u⟩
def Kin (m : MV) (l : List MV) : Prop := (∃ i, m = .int i) ∧ (∀ x ∈ l, ∃ i, x = .int i) ∨ (∃ i, m = .str i) ∧ (∀ x ∈ l, ∃ i, x = .str i)
def cIn (neg : Bool) : MCmp := fun a b σ R => (∃ x y, a = .str x ∧ b = .str y ∧ R (Txt.contains ⟨y.toArray⟩ ⟨x.toArray⟩ ^^ neg)) ∨ (∃ l, b = .tup l ∧ Kin a l ∧ Eqs (a ∈ l) fun c => R (c ^^ neg)) ∨
 ∃ p l, b = .ref p ∧ σ p = some (.list l) ∧ Kin a l ∧ Eqs (a ∈ l) fun c => R (c ^^ neg)
theorem mem_any {A : Around} {s : Shared} {a : MV} {va : Value} (ra : Rep s.heap va a) : ∀ {vs : List Value} {l : List MV}, Reps s.heap vs l → Kin a l → ∃ e : Value → Bool, (∀ y ∈ vs, EqAt A s y va (e y)) ∧ (vs.any e = true ↔ a ∈ l) := by
 intro vs l rs hk
 classical
 have h1 : ∀ y ∈ vs, ∃ m ∈ l, Rep s.heap y m := by
  intro y hy
  obtain ⟨i, hi, rfl⟩ := List.getElem_of_mem hy
  have hi' : i < l.length := rs.length ▸ hi
  obtain ⟨v, e, r⟩ := rs.get (i := i) (m := l[i]) (by simp [hi'])
  rw [List.getElem?_eq_getElem hi] at e; cases e
  exact ⟨_, List.getElem_mem hi', r⟩
 have h2 : ∀ y, ∃ b : Bool, y ∈ vs → EqAt A s y va b ∧ ∀ m ∈ l, Rep s.heap y m → (b = true ↔ m = a) := by
  intro y
  by_cases hy : y ∈ vs
  ·obtain ⟨m, hm, r⟩ := h1 y hy
   obtain ⟨b, hb, he⟩ := eqAt_dat (A := A) (σ := fun _ => none) r ra (by
    rcases hk with ⟨h, hk⟩ | ⟨h, hk⟩
    ·exact .inl ⟨hk m hm, h⟩
    ·exact .inr ⟨hk m hm, h⟩)
   refine ⟨b, fun _ => ⟨he, fun m' hm' r' => ?_⟩⟩
   have : m' = m := by
    rcases hk with ⟨h, hk⟩ | ⟨h, hk⟩
    ·obtain ⟨i, rfl⟩ := hk m hm; obtain ⟨j, rfl⟩ := hk m' hm'
     cases r; cases r'; rfl
    ·obtain ⟨i, rfl⟩ := hk m hm; obtain ⟨j, rfl⟩ := hk m' hm'
     obtain ⟨t, rfl⟩ := r.str_inv; obtain ⟨t', e⟩ := r'.str_inv
     injection e with e; injection e with e
     have e' := congrArg Array.toList e
     simp at e'
     rw [e']
   rw [this]; exact hb
  ·exact ⟨false, fun h => absurd h hy⟩
 obtain ⟨e, he⟩ := Classical.axiomOfChoice h2
 refine ⟨e, fun y hy => (he y hy).1, ?_⟩
 rw [List.any_eq_true]
 constructor
 ·rintro ⟨y, hy, hb⟩
  obtain ⟨m, hm, r⟩ := h1 y hy
  rw [← ((he y hy).2 m hm r).mp hb]; exact hm
 ·intro hm
  obtain ⟨i, hi, hx⟩ := List.getElem_of_mem hm
  obtain ⟨v, e', r⟩ := rs.get (i := i) (m := a) (by simp [hi, hx])
  have hv : v ∈ vs := List.mem_of_getElem? e'
  exact ⟨v, hv, ((he v hv).2 a hm r).mpr rfl⟩
theorem Cmp2.isIn : Cmp2Ok K (compareOp .In) (cIn false) := fun A va vb a b σ s Q R E rm I ra rb q hQ => by
 simp only [cIn, Bool.xor_false] at q
 rcases q with ⟨x, y, rfl, rfl, q⟩ | ⟨l, rfl, hk, q⟩ | ⟨p, l, rfl, hl, hk, q⟩
 ·obtain ⟨t, rfl⟩ := ra.str_inv; obtain ⟨u, rfl⟩ := rb.str_inv
  exact SB.contains (cmp_now (A := A) (σ := σ) hQ q)
 ·obtain ⟨p, vs, n, rfl, e, rs⟩ := rb.tupOf
  obtain ⟨f, he, hm⟩ := mem_any (A := A.in1) ra rs hk
  exact in_tupleAt (items := vs.toArray) f ⟨_, e, rfl, n, rfl⟩ (fun y hy => he y (by simpa using hy)) (cmp_now (A := A) (σ := σ) hQ (q _ (by simpa using hm)))
 ·cases rb.ref_inv
  obtain ⟨vs, n, e, rs, _⟩ := I.sto _ _ hl
  obtain ⟨f, he, hm⟩ := mem_any (A := A.in1) ra rs hk
  exact in_listAt (items := vs.toArray) f ⟨_, e, rfl, n, rfl⟩ (fun y hy => he y (by simpa using hy)) (cmp_now (A := A) (σ := σ) hQ (q _ (by simpa using hm)))
theorem Cmp2.notIn : Cmp2Ok K (compareOp .NotIn) (cIn true) := fun A va vb a b σ s Q R E rm I ra rb q hQ => by
 simp only [cIn, Bool.xor_true] at q
 rcases q with ⟨x, y, rfl, rfl, q⟩ | ⟨l, rfl, hk, q⟩ | ⟨p, l, rfl, hl, hk, q⟩
 ·obtain ⟨t, rfl⟩ := ra.str_inv; obtain ⟨u, rfl⟩ := rb.str_inv
  exact SB.notContains (cmp_now (A := A) (σ := σ) hQ q)
 ·obtain ⟨p, vs, n, rfl, e, rs⟩ := rb.tupOf
  obtain ⟨f, he, hm⟩ := mem_any (A := A.in1) ra rs hk
  exact notIn_tupleAt (items := vs.toArray) f ⟨_, e, rfl, n, rfl⟩ (fun y hy => he y (by simpa using hy)) (cmp_now (A := A) (σ := σ) hQ (q _ (by simpa using hm)))
 ·cases rb.ref_inv
  obtain ⟨vs, n, e, rs, _⟩ := I.sto _ _ hl
  obtain ⟨f, he, hm⟩ := mem_any (A := A.in1) ra rs hk
  exact notIn_listAt (items := vs.toArray) f ⟨_, e, rfl, n, rfl⟩ (fun y hy => he y (by simpa using hy)) (cmp_now (A := A) (σ := σ) hQ (q _ (by simpa using hm)))
end
section
variable {K : Ktx} {d : Nat} {env : Env} {nm : List Str}
def cIs (neg : Bool) : MCmp := fun a b σ R => (∃ x y, a = .bool x ∧ b = .bool y ∧ R (decide (x = y) ^^ neg)) ∨ (a = .none ∧ b = .none ∧ R (true ^^ neg)) ∨ (∃ i, a = .int i ∧ b = .none ∧ R (false ^^ neg)) ∨ (∃ x, a = .ref x ∧ b = .none ∧ R (false ^^ neg)) ∨
 (∃ x y, a = .str x ∧ b = .ref y ∧ R (false ^^ neg)) ∨ ∃ x, a = .ref x ∧ b = .ref x ∧ R (true ^^ neg)
theorem Cmp2.is : Cmp2Ok K (compareOp .Is) (cIs false) := fun A va vb a b σ s Q R E rm I ra rb q hQ => by
 simp only [cIs, Bool.xor_false] at q
 rcases q with ⟨x, y, rfl, rfl, q⟩ | ⟨rfl, rfl, q⟩ | ⟨i, rfl, rfl, q⟩ | ⟨x, rfl, rfl, q⟩ | ⟨x, y, rfl, rfl, q⟩ | ⟨x, rfl, rfl, q⟩
 ·cases ra.bool_inv; cases rb.bool_inv; exact is_bool (cmp_now (A := A) (σ := σ) hQ (by simpa [Bool.beq_eq_decide_eq] using q))
 ·cases ra.none_inv; cases rb.none_inv; exact is_none_none (cmp_now (A := A) (σ := σ) hQ q)
 ·obtain ⟨t, rfl⟩ := ra.int_inv; cases rb.none_inv; exact is_none_ne (by simp) (cmp_now (A := A) (σ := σ) hQ q)
 ·cases ra.ref_inv; cases rb.none_inv; exact is_none_ne (by simp) (cmp_now (A := A) (σ := σ) hQ q)
 ·obtain ⟨t, rfl⟩ := ra.str_inv; cases rb.ref_inv
  exact wpAny_is_other (by rfl) (by simp) (cmp_now (A := A) (σ := σ) hQ q)
 ·cases ra.ref_inv; cases rb.ref_inv
  exact wpAny_is_ref_self (cmp_now (A := A) (σ := σ) hQ q)
theorem Cmp2.isNot : Cmp2Ok K (compareOp .IsNot) (cIs true) := fun A va vb a b σ s Q R E rm I ra rb q hQ => by
 simp only [cIs, Bool.xor_true] at q
 rcases q with ⟨x, y, rfl, rfl, q⟩ | ⟨rfl, rfl, q⟩ | ⟨i, rfl, rfl, q⟩ | ⟨x, rfl, rfl, q⟩ | ⟨x, y, rfl, rfl, q⟩ | ⟨x, rfl, rfl, q⟩
 ·cases ra.bool_inv; cases rb.bool_inv; exact isnot_bool (cmp_now (A := A) (σ := σ) hQ (by simpa [bne, Bool.beq_eq_decide_eq] using q))
 ·cases ra.none_inv; cases rb.none_inv; exact isnot_none_none (cmp_now (A := A) (σ := σ) hQ q)
 ·obtain ⟨t, rfl⟩ := ra.int_inv; cases rb.none_inv; exact isnot_none_ne (by simp) (cmp_now (A := A) (σ := σ) hQ q)
 ·cases ra.ref_inv; cases rb.none_inv; exact isnot_none_ne (by simp) (cmp_now (A := A) (σ := σ) hQ q)
 ·obtain ⟨t, rfl⟩ := ra.str_inv; cases rb.ref_inv
  exact wpAny_isNot_other (by rfl) (by simp) (cmp_now (A := A) (σ := σ) hQ q)
 ·cases ra.ref_inv; cases rb.ref_inv
  exact wpAny_isNot_ref_self (cmp_now (A := A) (σ := σ) hQ q)
def pTruth (P : PE) : PB := fun ρ σ Q X => P ρ σ (fun m σ₁ => Truth m σ₁ fun b => Q b σ₁) X
theorem postB_tok {σ : Sto} {s : Shared} {Q : Bool → Sto → Prop} {b : Bool} {tk : Nat} (I : SInv K σ s) (q : Q b σ) : PostB K σ s Q b { s with toks := tk } := ⟨σ, I.grow (h' := s.heap) (tk := tk) (fun _ _ e => e), .grow (h' := s.heap) (fun _ _ e => e), q⟩
theorem truthy_ok {A : Around} {σ : Sto} {s : Shared} {v : Value} {m : MV} {Q : Bool → Sto → Prop} {E : Value → Shared → Prop} (rm : Room 0 A) (I : SInv K σ s) (r : Rep s.heap v m) (p : Truth m σ fun b => Q b σ) : wpAny K.M A (truthy v) (PostB K σ s Q) E s := by
 rcases p with ⟨b, rfl, p⟩ | ⟨l, rfl, p⟩ | ⟨a, l, rfl, hl, p⟩
 ·cases r.bool_inv; exact wpAny_truthy_bool (postB_now I p)
 ·obtain ⟨t, rfl⟩ := r.str_inv
  have e : ((((⟨l.toArray⟩ : Str).length : Nat) : Int) != 0) = !l.isEmpty := by
   rw [str_len]; cases l
   ·rfl
   ·simp [bne]; (subst_vars; lia)
  exact P.truthy_str (by rw [str_len]; have := p.1; simp only [sizeLine] at this; omega) (postB_tok I (by rw [e]; exact p.2))
 ·cases r.ref_inv
  obtain ⟨vs, n, e, rs, hz⟩ := I.sto _ _ hl
  exact wpAny_truthy_list (items := vs.toArray) ⟨_, e, rfl, n, rfl⟩ (by simp only [List.size_toArray, rs.length]; simp only [sizeLine] at hz; omega) (postB_tok I (by
   have : vs.isEmpty = l.isEmpty := by cases rs <;> rfl
   simpa [this] using p))
theorem RefB.val {e : Expr} {P : PE} (h : RefE K d env nm e P) (hv : ∀ whole, isTrue e env whole = (do let v ← whole; standAt e.pos; holding [v] (truthy v)) := by intro _; rfl) : RefB K d env nm e (pTruth P) := fun A ρ σ s Q X rm F p => by
 refine wpAny_isTrue_value (wpAny_mono (h A ρ σ s _ X rm F p) ?_ fun _ _ h => h) (hv _)
 rintro v s₁ ⟨m, σ₁, r, I₁, st₁, q⟩
 exact wpAny_mono (truthy_ok (rm.mono (Nat.zero_le _)) I₁ r q) (fun _ _ h => h.from st₁) fun _ _ h => h
end
noncomputable def cut {α : Type} (l : List α) (lo hi : Option Int) : List α := (l.drop (lo.elim 0 (clipAt l.length))).take (hi.elim l.length (clipAt l.length) - lo.elim 0 (clipAt l.length))
theorem cut_le {α : Type} (l : List α) (lo hi : Option Int) : (cut l lo hi).length ≤ l.length := by simp [cut]; lia
theorem Reps.cut {h : Heap} {vs : List Value} {ms : List MV} (r : Reps h vs ms) (lo hi : Option Int) : Reps h (Mine.cut vs lo hi) (Mine.cut ms lo hi) := by
 unfold Mine.cut; rw [r.length]; exact (r.drop _).take _
theorem cut_from {α : Type} (l : List α) (a : Nat) : cut l (some (a : Int)) none = l.drop a := by
 simp only [cut, Option.elim, clipAt_nat]
 rcases Nat.le_total a l.length with h | h
 ·rw [Nat.min_eq_left h, List.take_of_length_le (by simp)]
 ·rw [Nat.min_eq_right h, List.drop_of_length_le (by simp), List.drop_of_length_le h]; simp
theorem cut_upto {α : Type} (l : List α) (b : Nat) : cut l none (some (b : Int)) = l.take b := by
 simp only [cut, Option.elim, clipAt_nat, List.drop_zero, Nat.sub_zero]
 rcases Nat.le_total b l.length with h | h
 ·rw [Nat.min_eq_left h]
 ·rw [Nat.min_eq_right h, List.take_of_length_le (by simp), List.take_of_length_le h]
theorem cut_butLast {α : Type} (l : List α) : cut l none (some (-1)) = l.dropLast := by
 have := clipAt_neg l.length 1 (Nat.le_refl _)
 simp only [cut, Option.elim, List.drop_zero, Nat.sub_zero]
 rw [show (-1 : Int) = -((1 : Nat) : Int) from rfl, this, List.dropLast_eq_take]
theorem cut_mid {α : Type} (l : List α) (a b : Nat) (h1 : a ≤ b) (h2 : b ≤ l.length) : cut l (some (a : Int)) (some (b : Int)) = (l.drop a).take (b - a) := by
 simp only [cut, Option.elim, clipAt_nat, Nat.min_eq_left h2, Nat.min_eq_left (Nat.le_trans h1 h2)]
theorem slicePick_cut (vs : List Value) (lo hi : Option Int) : slicePick vs.toArray lo hi none = (cut vs lo hi).toArray := by
 rw [slicePick_plain]; simp [cut]
theorem strIdx (lo hi : Option Int) (n : Nat) : Builtin.Str.strSliceIndices lo hi 1 n = (List.range (hi.elim n (clipAt n) - lo.elim 0 (clipAt n))).map (lo.elim 0 (clipAt n) + ·) := by
 rw [← sliceRange_one]
 unfold Builtin.Str.strSliceIndices
 cases lo <;> cases hi <;> simp [clipAt_cast]
theorem slice_cut (x : List Nat) (lo hi : Option Int) : ((Builtin.Str.strSliceIndices lo hi 1 x.length).filterMap (x[·]?)) = cut x lo hi := by
 have h := pick_run x.toArray (lo.elim 0 (clipAt x.length)) (hi.elim x.length (clipAt x.length) - lo.elim 0 (clipAt x.length))
 rw [strIdx]
 unfold cut
 simpa only [List.getElem?_toArray] using h
theorem clipAt_le (n : Nat) (i : Int) : clipAt n i ≤ n := by have := clipAt_cast n i; omega
theorem cut_whole (x : List Nat) (lo hi : Option Int) (h : (Builtin.Str.strSliceIndices lo hi 1 x.length).length = x.length) : cut x lo hi = x := by
 rw [strIdx] at h
 simp only [List.length_map, List.length_range] at h
 unfold cut
 have h1 : hi.elim x.length (clipAt x.length) ≤ x.length := by cases hi <;> simp [clipAt_le]
 by_cases h0 : x.length = 0
 ·rw [List.eq_nil_of_length_eq_zero h0]; simp
 ·have h2 : lo.elim 0 (clipAt x.length) = 0 := by (subst_vars; lia)
  rw [h2] at h ⊢
  rw [h]; simp
theorem fm_congr {α β : Type} {f g : α → Option β} : ∀ {l : List α}, (∀ a ∈ l, f a = g a) → l.filterMap f = l.filterMap g
 | [], _ => rfl
 | a :: l, h => by
  simp only [List.filterMap_cons, h a (by simp), fm_congr fun b hb => h b (List.mem_cons_of_mem _ hb)]
theorem slicePick_step (vs : List Value) (st : Int) (h : st = 1 ∨ st = -1) : slicePick vs.toArray none none (some st) = (if st = 1 then vs else vs.reverse).toArray := by
 rcases h with rfl | rfl
 ·have h1 : slicePick vs.toArray none none (some 1) = slicePick vs.toArray none none none := by simp [slicePick, sliceBounds]
  rw [if_pos rfl, h1, slicePick_cut]
  simp [cut]
 ·rw [if_neg (by decide)]
  unfold slicePick
  congr 1
  simp only [sliceBounds, Option.getD_some, List.size_toArray]
  unfold sliceRange
  have e : ∀ n : Nat, (if (n : Int) - 1 > -1 then ((n : Int) - 1 - -1 - -1 - 1) / (- -1) else 0).toNat = n := fun n => by
   split
   ·rw [show (- -1 : Int) = 1 from rfl, Int.ediv_one]; (subst_vars; lia)
   ·lia
  simp only [show ¬ ((-1 : Int) > 0) by decide, if_false, e]
  rw [List.filterMap_map]
  have e2 : ∀ k ∈ List.range vs.length, (((vs.toArray[·]?) : Nat → Option Value) ∘ fun k : Nat => ((vs.length : Int) - 1 + -1 * (k : Int)).toNat) k = some (vs.getD (vs.length - 1 - k) .none) := fun k hk => by
   have hk' := List.mem_range.mp hk
   have : ((vs.length : Int) - 1 + -1 * (k : Int)).toNat = vs.length - 1 - k := by omega
   simp only [Function.comp, this, List.getElem?_toArray]
   rw [List.getElem?_eq_getElem (by (subst_vars; omega))]
   simp [List.getD, List.getElem?_eq_getElem (show vs.length - 1 - k < vs.length by omega)]
  rw [fm_congr e2, show (fun k => some (vs.getD (vs.length - 1 - k) Value.none)) = some ∘ fun k => vs.getD (vs.length - 1 - k) Value.none from rfl, List.filterMap_eq_map]
  apply List.ext_getElem
  ·simp
  ·intro i h1 h2
   simp at h1
   simp [List.getD, List.getElem?_eq_getElem (show vs.length - 1 - i < vs.length by omega)]
section
variable {K : Ktx} {d : Nat} {env : Env} {nm : List Str}
def Item (o i : MV) (σ : Sto) (R : MV → Prop) : Prop := ∃ k, i = .int k ∧ ((∃ l, o = .str l ∧ l.length ≤ sizeLine ∧ ∃ j c, seqIndex? k l.length = some j ∧ l[j]? = some c ∧ R (.str [c])) ∨
 (∃ l, o = .tup l ∧ l.length ≤ sizeLine ∧ ∃ j m, seqIndex? k l.length = some j ∧ l[j]? = some m ∧ R m) ∨
 ∃ a, o = .ref a ∧ ((∃ l, σ a = some (.list l) ∧ ∃ j m, seqIndex? k l.length = some j ∧ l[j]? = some m ∧ R m) ∨ (∃ l ep m, σ a = some (.dict l ep) ∧ a ≠ sysModules ∧ l.lookup k = some m ∧ R m)))
def pItem (P I : PE) : PE := fun ρ σ Q X => P ρ σ (fun o σ₁ => I ρ σ₁ (fun i σ₂ => Item o i σ₂ fun m => Q m σ₂) X) X
theorem seqIndex_fit {k : Int} {n j : Nat} (h : seqIndex? k n = some j) (hn : n ≤ sizeLine) : -(2 ^ 63) ≤ k ∧ k < 2 ^ 63 := by
 unfold seqIndex? at h
 simp only [sizeLine] at hn
 dsimp only at h
 by_cases hk : k < 0
 ·rw [if_pos hk] at h
  by_cases hh : (decide (0 ≤ k + (n : Int)) && decide (k + (n : Int) < (n : Int))) = true
  ·simp at hh; omega
  ·rw [if_neg hh] at h; cases h
 ·rw [if_neg hk] at h
  by_cases hh : (decide (0 ≤ k) && decide (k < (n : Int))) = true
  ·simp at hh; omega
  ·rw [if_neg hh] at h; cases h
theorem seqIndex_nat {k : Int} {n j : Nat} (h : seqIndex? k n = some j) (h0 : 0 ≤ k) : j = k.toNat := by
 unfold seqIndex? at h
 dsimp only at h
 rw [if_neg (show ¬ k < 0 by walk_at "q")] at h
 by_cases hh : (decide (0 ≤ k) && decide (k < (n : Int))) = true
 ·rw [if_pos hh] at h; simpa using h.symm
 ·rw [if_neg hh] at h; cases h
theorem lookup_ok {h : Heap} : ∀ {kvs : List (Int × Value)} {l : List (Int × MV)} {k : Int} {m : MV}, Reps h (kvs.map (·.2)) (l.map (·.2)) → kvs.map (·.1) = l.map (·.1) → l.lookup k = some m → ∃ v, valueAt kvs k = some v ∧ Rep h v m
 | [], [], _, _, _, _, e => by simp at e
 | [], _ :: _, _, _, _, hk, _ => by simp at hk
 | _ :: _, [], _, _, _, hk, _ => by simp at hk
 | (a, v) :: kvs, (b, m') :: l, k, m, rs, hk, e => by
  simp at hk rs
  obtain ⟨rfl, hk⟩ := hk
  cases rs with
  | cons r rs =>
   by_cases hkb : k = a
   ·subst hkb
    simp [List.lookup] at e; subst e
    exact ⟨v, by simp [valueAt], r⟩
   ·have : (k == a) = false := by simpa using hkb
    simp [List.lookup, this] at e
    obtain ⟨v', h1, h2⟩ := lookup_ok rs hk e
    exact ⟨v', by simpa [valueAt, List.find?, Ne.symm hkb] using h1, h2⟩
theorem getItem_ok {A : Around} {σ : Sto} {s : Shared} {v u : Value} {o i : MV} {Q : MV → Sto → Prop} {E : Value → Shared → Prop} (rm : Room 0 A) (I : SInv K σ s) (rv : Rep s.heap v o) (ru : Rep s.heap u i) (p : Item o i σ fun m => Q m σ) :
  wpAny K.M A (getItem v u) (PostE K σ s Q) E s ∧ ∃ T id, s.TypeIs v T ∧ typeLookup (.type T) "__getitem__" = pure (some (.builtin id)) := by
 obtain ⟨k, rfl, p⟩ := p
 obtain ⟨u, rfl⟩ := ru.int_inv
 rcases p with ⟨l, rfl, hz, j, c, hj, hc, q⟩ | ⟨l, rfl, hz, j, m, hj, hm, q⟩ | ⟨a, rfl, p⟩
 ·obtain ⟨t, rfl⟩ := rv.str_inv
  have hf := seqIndex_fit hj hz
  refine ⟨getItem_str (c := c) (by simp; omega) (by rw [str_len, hj]; simpa using hc) (postE_tok I ?_ q), "str", _, typeIs_str _ _ _, F.slot_str_getitem.lookup⟩
  exact .str [c] _
 ·obtain ⟨a, vs, n, rfl, e, rs⟩ := rv.tupOf
  have hf := seqIndex_fit hj hz
  obtain ⟨v, hv, r⟩ := rs.get hm
  refine ⟨P.getItem_tuple (items := vs.toArray) e hf.1 hf.2 (by simpa [rs.length] using hj) (by simpa using hv) (postE_now I r q), "tuple", _, ⟨_, e, rfl⟩, F.slot_tuple_getitem.lookup⟩
 ·cases rv.ref_inv
  rcases p with ⟨l, hl, j, m, hj, hm, q⟩ | ⟨l, ep, m, hl, hne, hm, q⟩
  ·obtain ⟨vs, n, e, rs, hz⟩ := I.sto _ _ hl
   have hf := seqIndex_fit hj hz
   obtain ⟨v, hv, r⟩ := rs.get hm
   have hL : s.heap.IsList a vs.toArray := ⟨_, e, rfl, n, rfl⟩
   refine ⟨?_, "list", _, ⟨_, e, rfl⟩, list_getitem_lookup⟩
   rcases Int.lt_or_le k 0 with h0 | h0
   ·exact kde_getNeg hL h0 hf.1 (by rw [rs.length]; exact hj) hv (postE_now I r q)
   ·refine wpAny_getItem_list hL h0 hf.2 ?_ (postE_now I r q)
    have := seqIndex_nat hj h0
    rw [← this]; simpa using hv
  ·obtain ⟨kvs, hD, rs, hk⟩ := I.sto _ _ hl
   have hD' := hD
   obtain ⟨o, es, e, hc, hd, _⟩ := hD'
   have hO : s.heap.DictOf (intKind K.prog K.w) a kvs := ⟨o, es, ep, e, hc, by assumption, by assumption⟩
   obtain ⟨v, hv, r⟩ := lookup_ok rs hk hm
   refine ⟨wpAny_getItem_of (knd := intKind K.prog K.w) (k := k) (show Value.isInt k (.int k u) = true by simp [Value.isInt]) hO.mapOf hv (postE_tok I r q), "dict", _, hO.typeIs, F.slot_dict_getitem.lookup⟩
theorem RefE.item {v i : Expr} {pos : Pos} {P R : PE} (hv : RefE K d env nm v P) (hi : RefE K d env nm i R) (hs : ∀ o j, subscripted i false o j = operate [o, j] (getItem o j) := by intro _ _; rfl) :
  RefE K d env nm (.Subscript v i pos) (pItem P R) := fun A ρ σ s Q X rm F p => by
 refine Subscript_ (wpAny_mono (hv A ρ σ s _ X rm F p) ?_ fun _ _ h => h)
 rintro o s₁ ⟨m, σ₁, r, I₁, st₁, q⟩
 refine wpAny_mono (hi A ρ σ₁ s₁ _ X rm (F.step I₁ st₁) q) ?_ fun _ _ h => h.from st₁
 rintro j s₂ ⟨m₂, σ₂, r₂, I₂, st₂, q₂⟩
 obtain ⟨hg, T, id, hT, hl⟩ := getItem_ok (E := PostX K [] σ s X) (rm.mono (Nat.zero_le _)) I₂ (r.step st₂ I₁) r₂ q₂
 exact wpAny_mono (tail_any hT hl hg (hs _ _)) (fun _ _ h => h.from (st₁.trans st₂)) fun _ _ h => h
def RefP (K : Ktx) (d : Nat) (env : Env) (nm : List Str) (e : Option Expr) (P : PE) : Prop := ∀ A ρ σ s Q X, Room d A → FInv K env nm ρ A σ s → P ρ σ Q X → wpAny K.M A (evalPart e env) (PostE K σ s Q) (PostX K [] σ s X) s
theorem RefP.none : RefP K d env nm Option.none (pK .none) := fun A ρ σ s Q X rm F p => wpAny_pure (postE_now F.inv .none p)
theorem RefP.some {e : Expr} {P : PE} (h : RefE K d env nm e P) : RefP K d env nm (Option.some e) P := h
noncomputable def partOf : MV → Option Int
 | .int i => some i
 | _ => none
def Partly (m : MV) : Prop := m = .none ∨ ∃ i, m = .int i
theorem Rep.part {h : Heap} {v : Value} {m : MV} (r : Rep h v m) (p : Partly m) : IsPart v (partOf m) ∧ ∃ l : Option (Int × Tok), v = partValue l ∧ l.map (·.1) = partOf m := by
 rcases p with rfl | ⟨i, rfl⟩
 ·cases r.none_inv; exact ⟨.none, Option.none, rfl, rfl⟩
 ·obtain ⟨t, rfl⟩ := r.int_inv; exact ⟨.int i t, Option.some (i, t), rfl, rfl⟩
def Slc (o lo hi : MV) (σ : Sto) (Q : MV → Sto → Prop) : Prop := Partly lo ∧ Partly hi ∧ ((∃ l, o = .str l ∧ l.length ≤ sizeLine ∧ Q (.str (cut l (partOf lo) (partOf hi))) σ) ∨
 ∃ a l, o = .ref a ∧ σ a = some (.list l) ∧ ∀ b, σ b = none → Q (.ref b) (put σ b (.list (cut l (partOf lo) (partOf hi)))))
def pSlc (P L H : PE) : PE := fun ρ σ Q X => P ρ σ (fun o σ₁ => L ρ σ₁ (fun l σ₂ => H ρ σ₂ (fun h σ₃ => Slc o l h σ₃ Q) X) X) X
set_option tactic.hygienic true
theorem RefE.slc {v : Expr} {lo hi : Option Expr} {p pos : Pos} {P L H : PE} (hv : RefE K d env nm v P) (hl : RefP K d env nm lo L) (hh : RefP K d env nm hi H) :
  RefE K d env nm (.Subscript v (.Slice lo hi Option.none p) pos) (pSlc P L H) := fun A ρ σ s Q X rm F pp => by
 have rm0 := rm.mono (Nat.zero_le d)
 refine Subscript_ (wpAny_mono (hv A ρ σ s _ X rm F pp) ?_ fun _ _ h => h)
 rintro o s₁ ⟨m, σ₁, r, I₁, st₁, q⟩
 have F₁ := F.step I₁ st₁
 refine wpAny_Slice (wpAny_mono (hl A ρ σ₁ s₁ _ X rm F₁ q) ?_ fun _ _ h => h.from st₁)
 rintro vl s₂ ⟨ml, σ₂, rl, I₂, st₂, q₂⟩
 have F₂ := F₁.step I₂ st₂
 refine wpAny_mono (hh A ρ σ₂ s₂ _ X rm F₂ q₂) ?_ fun _ _ h => h.from (st₁.trans st₂)
 rintro vh s₃ ⟨mh, σ₃, rh, I₃, st₃, p1, p2, q₃⟩
 replace r := (r.step st₂ I₁).step st₃ I₂
 replace rl := rl.step st₃ I₂
 have st := (st₁.trans st₂).trans st₃
 rw [evalPart_none]
 refine wpAny_pure ?_
 obtain ⟨il, l, rfl, el⟩ := rl.part p1
 obtain ⟨ih, u, rfl, eu⟩ := rh.part p2
 have k : ∀ b o, s₃.heap.get? b = some o → (s₃.heap.push { cls := .type "slice", data := .fields #[partValue l, partValue u, .none] }).get? b = some o := fun b o e => Heap.get?_push_of_some _ e
 have I₄ := I₃.grow (tk := s₃.toks) k
 have st4 : Stp [] σ₃ s₃ σ₃ { s₃ with heap := s₃.heap.push { cls := .type "slice", data := .fields #[partValue l, partValue u, .none] } } := .grow (tk := s₃.toks) k
 rcases q₃ with ⟨x, rfl, hz, q₃⟩ | ⟨a, x, rfl, hx, q₃⟩
 ·obtain ⟨t, rfl⟩ := r.str_inv
  refine tail_any (ops := [.ref _, .str _ t]) (typeIs_str _ _ t) PySem.F.slot_str_getitem.lookup (wpAny_getItem_str_slice (l := l) (u := u) (st := Option.none) ⟨_, Heap.get?_push_size _ rfl, rfl, rfl⟩ rfl ?_) rfl
  have hc : ∀ c, ((slicePicked ⟨x.toArray⟩ l u Option.none).filterMap ((⟨x.toArray⟩ : Str).cps[·]?)) = c → c = cut x (partOf ml) (partOf mh) := fun c e => by
   rw [← e]
   unfold slicePicked
   rw [el, eu, str_len]
   simpa using slice_cut x (partOf ml) (partOf mh)
  unfold sliceMade
  have hcut := hc _ rfl
  have hlen := cut_le x (partOf ml) (partOf mh)
  split
  ·rename_i hw
   have hw' : (slicePicked ⟨x.toArray⟩ l u Option.none).length = x.length := by simp at hw; simpa [str_len] using hw
   have e : cut x (partOf ml) (partOf mh) = x := by
    refine cut_whole x _ _ ?_
    unfold slicePicked at hw'
    rw [el, eu, str_len] at hw'
    simpa using hw'
   rw [e] at q₃
   exact PostE.from st (PostE.from st4 (postE_now I₄ (.str x t) q₃))
  ·rw [hcut]
   refine ⟨by rw [str_len]; walk_at "q", PostE.from st (PostE.from st4 (postE_tok I₄ (.str _ _) q₃))⟩
 ·cases r.ref_inv
  obtain ⟨vs, n, e, rs, hz⟩ := I₄.sto _ _ hx
  refine tail_any (ops := [.ref _, .ref _]) ⟨_, e, rfl⟩ list_getitem_lookup (wpAny_getItem_list_slice (items := vs.toArray) ⟨_, e, rfl, n, rfl⟩ (Heap.IsSliceOf.new ..) il ih .none (by simp) ?_ (by simpa [rs.length] using hz)) rfl
  rw [slicePick_cut]
  refine PostE.from st (PostE.from st4 (newList_post (tk := s₃.toks) (vs := cut vs (partOf ml) (partOf mh)) I₄ (rs.cut _ _) (Nat.le_trans (cut_le _ _ _) hz) (Nat.le_refl _) (Heap.get?_push_size _ rfl) (fun b o e => Heap.get?_push_of_some _ e) q₃))
set_option tactic.hygienic false
def pRev (P W : PE) : PE := fun ρ σ Q X => P ρ σ (fun o σ₁ => W ρ σ₁ (fun w σ₂ => ∃ a l i, o = .ref a ∧ σ₂ a = some (.list l) ∧ w = .int i ∧ (i = 1 ∨ i = -1) ∧ ∀ b, σ₂ b = none → Q (.ref b) (put σ₂ b (.list (if i = 1 then l else l.reverse)))) X) X
theorem RefE.rev {v w : Expr} {p pos : Pos} {P W : PE} (hv : RefE K d env nm v P) (hw : RefE K d env nm w W) :
  RefE K d env nm (.Subscript v (.Slice Option.none Option.none (Option.some w) p) pos) (pRev P W) := fun A ρ σ s Q X rm F pp => by
 refine Subscript_ (wpAny_mono (hv A ρ σ s _ X rm F pp) ?_ fun _ _ h => h)
 rintro o s₁ ⟨m, σ₁, r, I₁, st₁, q⟩
 have F₁ := F.step I₁ st₁
 refine wpAny_Slice ?_
 rw [evalPart_none, evalPart_some]
 refine wpAny_pure (wpAny_pure (wpAny_mono (hw A ρ σ₁ s₁ _ X rm F₁ q) ?_ fun _ _ h => h.from st₁))
 rintro vw s₂ ⟨mw, σ₂, rw', I₂, st₂, a, l, i, rfl, hl, rfl, hi, q⟩
 obtain ⟨t, rfl⟩ := rw'.int_inv
 cases r.ref_inv
 have k : ∀ b o, s₂.heap.get? b = some o → (s₂.heap.push { cls := .type "slice", data := .fields #[.none, .none, .int i t] }).get? b = some o := fun b o e => Heap.get?_push_of_some _ e
 have I₄ := I₂.grow (tk := s₂.toks) k
 have st4 : Stp [] σ₂ s₂ σ₂ { s₂ with heap := s₂.heap.push { cls := .type "slice", data := .fields #[.none, .none, .int i t] } } := .grow (tk := s₂.toks) k
 obtain ⟨vs, n, e, rs, hz⟩ := I₄.sto _ _ hl
 refine tail_any (ops := [.ref _, .ref _]) ⟨_, e, rfl⟩ list_getitem_lookup (wpAny_getItem_list_slice (items := vs.toArray) ⟨_, e, rfl, n, rfl⟩ (Heap.IsSliceOf.new ..) .none .none (.int i t) (by rcases hi with rfl | rfl <;> simp) ?_ (by simpa [rs.length] using hz)) rfl
 rw [slicePick_step _ _ hi]
 refine PostE.from (st₁.trans st₂) (PostE.from st4 (newList_post (tk := s₂.toks) (vs := if i = 1 then vs else vs.reverse) I₄ ?_ ?_ (Nat.le_refl _) (Heap.get?_push_size _ rfl) (fun b o e => Heap.get?_push_of_some _ e) q))
 ·by_cases h : i = 1
  ·rw [if_pos h, if_pos h]; exact rs
  ·rw [if_neg h, if_neg h]; exact rs.reverse
 ·split <;> simpa using hz
end
section
variable {K : Ktx} {d : Nat} {env : Env} {nm : List Str}
theorem turn_list {σ : Sto} {s : Shared} (I : SInv K σ s) {a : Addr} {l l' : List MV} {vs vs' : List Value} {n : Nat} {f : Array Value → Array Value} (hl : σ a = some (.list l)) (e : s.heap.get? a = some (lstO vs n)) (hf : f vs.toArray = vs'.toArray)
  (rs : Reps s.heap vs' l') (hz : l'.length ≤ sizeLine) {tk : Nat} : SInv K (put σ a (.list l')) { s with heap := s.heap.update a (Obj.mapSeq f), toks := tk } ∧ Stp [] σ s (put σ a (.list l')) { s with heap := s.heap.update a (Obj.mapSeq f), toks := tk } := by
 have hs : Heap.ExtBut a s.heap (s.heap.update a (Obj.mapSeq f)) := fun b o hb g => (Heap.get?_update_other _ _ (Ne.symm hb)).trans g
 have e' := IsL.update (items := vs.toArray) e f
 rw [hf] at e'
 have kf : ∀ b o, Firm o → s.heap.get? b = some o → (s.heap.update a (Obj.mapSeq f)).get? b = some o := fun b o fo g => hs b o (fun q => by subst q; have := I.firm g fo; rw [hl] at this; cases this) g
 exact ⟨I.turn hs hl ⟨vs', _, e', rs.mono kf, hz⟩, .turn hs hl⟩
def MethOk (K : Ktx) (T : String) (name : Str) (id : String) (f : MV → List MV → Sto → (MV → Sto → Prop) → (Sto → Prop) → Prop) : Prop :=
 ∀ A v vs o ms σ s Q X, Room 0 A → SInv K σ s → s.TypeIs v T → Rep s.heap v o → Reps s.heap vs ms → f o ms σ Q X → wpAny K.M A (call (.builtin id) (v :: vs)) (PostE K σ s Q) (PostX K [] σ s X) s
def KindOf (T : String) (o : MV) (σ : Sto) : Prop := (∃ a l, o = .ref a ∧ T = "list" ∧ σ a = some (.list l)) ∨ (∃ a l ep, o = .ref a ∧ T = "dict" ∧ σ a = some (.dict l ep)) ∨ ∃ x, o = .str x ∧ T = "str"
theorem KindOf.type {T : String} {o : MV} {σ : Sto} {s : Shared} {v : Value} (k : KindOf T o σ) (I : SInv K σ s) (r : Rep s.heap v o) : s.TypeIs v T ∧ ∀ a, v = .ref a → ∃ ob, s.heap.get? a = some ob ∧ ob.dict = none := by
 rcases k with ⟨a, l, rfl, rfl, hl⟩ | ⟨a, l, ep, rfl, rfl, hl⟩ | ⟨x, rfl, rfl⟩
 ·cases r.ref_inv
  obtain ⟨vs, n, e, _⟩ := I.sto _ _ hl
  exact ⟨⟨_, e, rfl⟩, fun a q => by cases q; exact ⟨_, e, rfl⟩⟩
 ·cases r.ref_inv
  obtain ⟨kvs, hD, _⟩ := I.sto _ _ hl
  obtain ⟨o, es, e, hx, r⟩ := hD
  have hO : s.heap.DictOf (intKind K.prog K.w) _ kvs := ⟨o, es, ep, e, hx, r⟩
  exact ⟨hO.typeIs, hO.mapOf.noDict⟩
 ·obtain ⟨t, rfl⟩ := r.str_inv; exact ⟨typeIs_str _ _ _, fun a e => by cases e⟩
def pMeth (T : String) (f : MV → List MV → Sto → (MV → Sto → Prop) → (Sto → Prop) → Prop) (P : PE) (R : PA) : PE := fun ρ σ Q X => P ρ σ (fun o σ₁ => KindOf T o σ₁ ∧ R ρ σ₁ (fun ms σ₂ => KindOf T o σ₂ ∧ f o ms σ₂ Q X) X) X
theorem RefE.meth {v e : Expr} {name : Str} {T id : String} {apos pos : Pos} {rest : List Expr} {f : MV → List MV → Sto → (MV → Sto → Prop) → (Sto → Prop) → Prop} {P : PE} {R : PA} (hm : MethOk K T name id f) (hp : PlainAttrs T) (slot : Slot T name id) (ht : typeOf (.builtin id) = pure (.type "method_descriptor"))
  (hv : RefE K d env nm v P) (h : RefA K d env nm (e :: rest) R) (hbase : attributeBase v name env (eval v env) = eval v env := by rfl)
  (hfew : ((backTo pos (starEach (e :: rest) env)).all (fun x => !x.1) && (backToKw pos (keywordEach [] env)).all (fun x => x.1.isSome)
   && decide ((e :: rest).length + ([] : List Keyword).length + (if ([] : List Keyword).isEmpty then 0 else 1) < 30)) = true := by exact star_few rfl (by decide) _ _) (hline : (apos.endLine == pos.line) = true := by rfl)
  (he : starEach (e :: rest) env = (false, eval e env) :: starEach rest env := by exact star_cons rfl _ _) (hplain : (backTo pos (starEach (e :: rest) env)).any (·.1) = false := by exact star_any rfl _ _) : RefE K d env nm (.Call (.Attribute v name apos) (e :: rest) [] pos) (pMeth T f P R) := fun A ρ σ s Q X rm F pp => by
 have rm0 := rm.mono (Nat.zero_le d)
 refine wpAny_Call_method_late hbase hfew hline rfl (wpAny_mono (hv A ρ σ s _ X rm F pp) ?_ fun _ _ h => h)
 rintro ov s₁ ⟨o, σ₁, r, I₁, st₁, k, q⟩
 obtain ⟨hT, hd⟩ := k.type I₁ r
 refine ⟨T, id, hp, slot, ht, hT, hd, ?_⟩
 have hh := wpAny_mono (h A ρ σ₁ s₁ _ X pos rm (F.step I₁ st₁) q) (fun _ _ h => h) fun _ _ (h : PostX K [] σ₁ s₁ X _ _) => h.from st₁
 rw [he] at hh hplain ⊢
 refine callWith_builtin hplain (evalArgs_plain (wpAny_mono hh ?_ fun _ _ h => h))
 rintro vs s₂ ⟨ms, σ₂, rs, I₂, st₂, k₂, q₂⟩
 have r₂ := r.step st₂ I₁
 show wpAny K.M A (call (.builtin id) (ov :: vs)) _ _ s₂
 exact wpAny_mono (hm A ov vs o ms σ₂ s₂ Q X rm0 I₂ (k₂.type I₂ r₂).1 r₂ rs q₂) (fun _ _ h => h.from (st₁.trans st₂)) fun _ _ h => h.from (st₁.trans st₂)
def pMeth0 (T : String) (f : MV → List MV → Sto → (MV → Sto → Prop) → (Sto → Prop) → Prop) (P : PE) : PE := fun ρ σ Q X => P ρ σ (fun o σ₁ => KindOf T o σ₁ ∧ f o [] σ₁ Q X) X
theorem RefE.meth0 {v : Expr} {name : Str} {T id : String} {apos pos : Pos} {f : MV → List MV → Sto → (MV → Sto → Prop) → (Sto → Prop) → Prop} {P : PE} (hm : MethOk K T name id f) (hp : PlainAttrs T) (slot : Slot T name id) (ht : typeOf (.builtin id) = pure (.type "method_descriptor"))
  (hv : RefE K d env nm v P) (hbase : attributeBase v name env (eval v env) = eval v env := by rfl) (hline : (apos.endLine == pos.line) = true := by rfl) : RefE K d env nm (.Call (.Attribute v name apos) [] [] pos) (pMeth0 T f P) := fun A ρ σ s Q X rm F pp => by
 have rm0 := rm.mono (Nat.zero_le d)
 refine wpAny_Call_method_late hbase rfl hline rfl (wpAny_mono (hv A ρ σ s _ X rm F pp) ?_ fun _ _ h => h)
 rintro ov s₁ ⟨o, σ₁, r, I₁, st₁, k, q⟩
 obtain ⟨hT, hd⟩ := k.type I₁ r
 refine ⟨T, id, hp, slot, ht, hT, hd, callWith_builtin rfl (PySem.evalArgs_none ?_)⟩
 show wpAny K.M A (call (.builtin id) (ov :: [])) _ _ s₁
 exact wpAny_mono (hm A ov [] o [] σ₁ s₁ Q X rm0 I₁ hT r .nil q) (fun _ _ h => h.from st₁) fun _ _ h => h.from st₁
noncomputable abbrev MMeth := MV → List MV → Sto → (MV → Sto → Prop) → (Sto → Prop) → Prop
def mAppend : MMeth := fun o ms σ Q X => ∃ a l m, o = .ref a ∧ ms = [m] ∧ σ a = some (.list l) ∧ l.length < sizeLine ∧ Q .none (put σ a (.list (l ++ [m])))
theorem Meth.append : MethOk K "list" "append" "list.append" mAppend := fun A v vs o ms σ s Q X rm I hT r rs q => by
 obtain ⟨a, l, m, rfl, rfl, hl, hz, q⟩ := q
 cases r.ref_inv
 obtain ⟨u, rfl, ru⟩ := rs.one
 obtain ⟨ws, n, e, rws, _⟩ := I.sto _ _ hl
 refine call_meets F.slot_list_append hT F.entry_list_append (F.args_list_append_2 _ _) (list_append a ws.toArray n u (by simp only [List.size_toArray, rws.length]; omega)) ⟨e, ?_⟩
 obtain ⟨J, st⟩ := turn_list (f := fun x => x.push u) (vs' := ws ++ [u]) (l' := l ++ [m]) (tk := s.toks) I hl e (by simp) (rws.append (.cons ru .nil)) (by simp; lia)
 exact ⟨.none, _, .none, J, st, q⟩
def mPop : MMeth := fun o ms σ Q X => ∃ a l, o = .ref a ∧ ms = [] ∧ σ a = some (.list l) ∧ (l = [] → X σ) ∧ ∀ l' m, l = l' ++ [m] → Q m (put σ a (.list l'))
theorem Meth.pop : MethOk K "list" "pop" "list.pop" mPop := fun A v vs o ms σ s Q X rm I hT r rs q => by
 obtain ⟨a, l, rfl, rfl, hl, q1, q2⟩ := q
 cases r.ref_inv
 cases rs
 obtain ⟨ws, n, e, rws, hz⟩ := I.sto _ _ hl
 rcases List.eq_nil_or_concat l with rfl | ⟨l', m, rfl⟩
 ·have hw : ws = [] := by cases rws; rfl
  subst hw
  refine call_meets F.slot_list_pop hT F.entry_list_pop (F.args_list_pop_1 _) (AutoSeq1.list_pop_list_0 a #[] n rfl) ⟨e, rm.1, fun h' tk ea N => ?_⟩
  obtain ⟨ob, t, e', hc, hd⟩ := N.there
  have k := N.keeps
  refine ⟨σ, ⟨ea, ob, _, rfl, (I.offNew N.new).2, e', hc, hd, by simp, .inl rfl⟩, I.grow k, .grow k, q1 rfl⟩
 ·obtain ⟨u, hu, ru⟩ := rws.get (i := l'.length) (m := m) (by simp)
  have hlen : ws.length = l'.length + 1 := by rw [rws.length]; simp
  refine call_meets F.slot_list_pop hT F.entry_list_pop (F.args_list_pop_1 _) (list_pop_last a ws.toArray n u (by simpa [hlen] using hu) (by simpa [rws.length] using hz)) ⟨e, ?_⟩
  have htk : Reps s.heap (ws.take l'.length) l' := by simpa using rws.take l'.length
  obtain ⟨J, st⟩ := turn_list (f := fun xs => xs.eraseIdxIfInBounds (ws.toArray.size - 1)) (vs' := ws.take l'.length) (l' := l') (tk := s.toks) I hl e (by
   simp only [List.size_toArray, hlen, Nat.add_sub_cancel]
   rw [Array.eraseIdxIfInBounds, dif_pos (by simp [hlen])]
   apply Array.toList_inj.mp
   simp only [Array.toList_eraseIdx]
   rw [List.eraseIdx_eq_take_drop_succ, List.drop_of_length_le (by lia)]; simp) htk (by simp at hz; walk_at "q")
  exact ⟨m, _, ru.mono fun b o f g => st.firm I b o f g, J, st, q2 l' m (by simp)⟩
def mGet : MMeth := fun o ms σ Q X => ∃ a l ep k, o = .ref a ∧ σ a = some (.dict l ep) ∧ a ≠ sysModules ∧ ((ms = [.int k] ∧ Q ((l.lookup k).getD .none) σ) ∨ ∃ m, ms = [.int k, m] ∧ Q ((l.lookup k).getD m) σ)
theorem lookup_no {h : Heap} : ∀ {kvs : List (Int × Value)} {l : List (Int × MV)} {k : Int}, Reps h (kvs.map (·.2)) (l.map (·.2)) → kvs.map (·.1) = l.map (·.1) → l.lookup k = none → valueAt kvs k = none
 | [], _, _, _, _, _ => by simp [valueAt]
 | _ :: _, [], _, _, hk, _ => by simp at hk
 | (a, v) :: kvs, (b, m') :: l, k, rs, hk, e => by
  simp at hk rs
  obtain ⟨rfl, hk⟩ := hk
  cases rs with
  | cons r rs =>
   by_cases hkb : k = a
   ·subst hkb
    simp [List.lookup] at e
   ·have : (k == a) = false := by simpa using hkb
    rw [List.lookup_cons, this] at e
    have h1 := lookup_no rs hk e
    simpa [valueAt, List.find?, Ne.symm hkb] using h1
theorem Meth.get : MethOk K "dict" "get" "dict.get" mGet := fun A v vs o ms σ s Q X rm I hT r rs q => by
 obtain ⟨a, l, ep, k, rfl, hl, hne, q⟩ := q
 cases r.ref_inv
 obtain ⟨kvs, hD, rws, hk⟩ := I.sto _ _ hl
 obtain ⟨o, es, e, hx, r⟩ := id hD
 have hO : s.heap.DictOf (intKind K.prog K.w) a kvs := ⟨o, es, ep, e, hx, r⟩
 have hs : (a == sysModules) = false := by simpa using hne
 rcases q with ⟨rfl, q⟩ | ⟨m, rfl, q⟩
 ·obtain ⟨u, rfl, ru⟩ := rs.one
  obtain ⟨t, rfl⟩ := ru.int_inv
  refine call_meetsIn F.slot_dict_get hT F.entry_dict_get (F.args_dict_get_2 _ _) (meets_dict_get (intKind K.prog K.w) a (k := k) (key := .int k t) (show Value.isInt k (.int k t) = true by simp [Value.isInt]) hs) ⟨_, hO.mapOf, ?_⟩
  cases hc : l.lookup k with
  | none =>
   rw [lookup_no rws hk hc]; rw [hc] at q
   exact postE_tok I .none q
  | some m =>
   obtain ⟨v', h1, h2⟩ := lookup_ok rws hk hc
   rw [h1]; rw [hc] at q
   exact postE_tok I h2 q
 ·obtain ⟨u, w, rfl, ru, rw'⟩ := rs.two
  obtain ⟨t, rfl⟩ := ru.int_inv
  refine call_meetsIn F.slot_dict_get hT F.entry_dict_get (F.args_dict_get_3 _ _ _) (meets_dict_get_default (intKind K.prog K.w) a (k := k) (key := .int k t) (show Value.isInt k (.int k t) = true by simp [Value.isInt]) hs w) ⟨_, hO.mapOf, ?_⟩
  cases hc : l.lookup k with
  | none =>
   rw [lookup_no rws hk hc]; rw [hc] at q
   exact postE_tok I rw' q
  | some m' =>
   obtain ⟨v', h1, h2⟩ := lookup_ok rws hk hc
   rw [h1]; rw [hc] at q
   exact postE_tok I h2 q
end
section
variable {K : Ktx} {d : Nat} {env : Env} {nm : List Str}
theorem RefE.never {e : Expr} : RefE K d env nm e (fun _ _ _ _ => False) := fun _ _ _ _ _ _ _ _ p => p.elim
theorem RefB.never {e : Expr} : RefB K d env nm e (fun _ _ _ _ => False) := fun _ _ _ _ _ _ _ _ p => p.elim
def pNeg (P : PE) : PE := fun ρ σ Q X => P ρ σ (fun m σ₁ => ∃ i, m = .int i ∧ Q (.int (-i)) σ₁) X
theorem RefE.neg {e : Expr} {pos : Pos} {P : PE} (h : RefE K d env nm e P) : RefE K d env nm (.UnaryOp .USub e pos) (pNeg P) := fun A ρ σ s Q X rm F pp => by
 refine wpAny_UnaryOp (wpAny_mono (h A ρ σ s _ X rm F pp) ?_ fun _ _ h => h)
 rintro v s₁ ⟨m, σ₁, r, I₁, st₁, i, rfl, q⟩
 obtain ⟨t, rfl⟩ := r.int_inv
 exact PySem.P.neg_int (PostE.from st₁ (postE_tok I₁ (.int _ _) q))
noncomputable abbrev MFun := List MV → Sto → (MV → Sto → Prop) → Prop
def fLen : MFun := fun ms σ Q => ∃ m, ms = [m] ∧ match m with
 | .str l => l.length ≤ sizeLine ∧ Q (.int l.length) σ
 | .ref a => ∃ l, σ a = some (.list l) ∧ Q (.int l.length) σ
 | _ => False
theorem B.len : BOk K "len" fLen := fun A vs ms σ s Q E rm I rs q => by
 obtain ⟨m, rfl, q⟩ := q
 obtain ⟨v, rfl, r⟩ := rs.one
 cases m <;> simp only at q
 ·obtain ⟨t, rfl⟩ := r.str_inv
  refine len_str (by rw [str_len]; have := q.1; simp only [sizeLine] at this; omega) (postE_tok I ?_ q.2)
  rw [str_len]; exact .int _ _
 ·cases r.ref_inv
  obtain ⟨l, hl, q⟩ := q
  obtain ⟨ws, n, e, rws, hz⟩ := I.sto _ _ hl
  refine call_len_list (items := ws.toArray) ⟨_, e, rfl, n, rfl⟩ (by simp only [List.size_toArray, rws.length]; simp only [sizeLine] at hz; omega) (postE_tok I ?_ q)
  simp only [List.size_toArray, rws.length]; exact .int _ _
def fMin : MFun := fun ms σ Q => ∃ i j, ms = [.int i, .int j] ∧ Q (.int (if j < i then j else i)) σ
theorem B.min : BOk K "min" fMin := fun A vs ms σ s Q E rm I rs q => by
 obtain ⟨i, j, rfl, q⟩ := q
 obtain ⟨v, w, rfl, r, r'⟩ := rs.two
 obtain ⟨t, rfl⟩ := r.int_inv; obtain ⟨u, rfl⟩ := r'.int_inv
 refine min_two_ints rm.1 fun h' tk k => ⟨.int (if j < i then j else i), σ, ?_, I.grow k, .grow k, q⟩
 by_cases h : j < i
 ·rw [if_pos h, if_pos h]; exact .int _ _
 ·rw [if_neg h, if_neg h]; exact .int _ _
def fSum : MFun := fun ms σ Q => ∃ (a : Addr) (l : List Int), ms = [.ref a] ∧ σ a = some (.list (l.map .int)) ∧ (∀ i ∈ l, 0 ≤ i ∧ i ≤ 2000000000) ∧ l.length ≤ 1000 ∧ Q (.int l.sum) σ
theorem preSum_take (l : List Int) (val : Nat → Int) (h : ∀ i, i < l.length → val i = l.getD i 0) : ∀ n, n ≤ l.length → preSum val n = (l.take n).sum := by
 intro n
 induction n with
 | zero => intro _; simp [preSum]
 | succ n ih =>
  intro hn
  rw [preSum, ih (by omega), h n (by omega), List.take_add_one, List.getElem?_eq_getElem (by omega)]
  rw [List.sum_append]
  simp [List.getD, List.getElem?_eq_getElem (show n < l.length by omega)]
theorem preSum_eq (l : List Int) (val : Nat → Int) (h : ∀ i, i < l.length → val i = l.getD i 0) : preSum val l.length = l.sum := by
 rw [preSum_take l val h _ (Nat.le_refl _), List.take_length]
theorem sum_le (l : List Int) (h : ∀ i ∈ l, 0 ≤ i ∧ i ≤ 2000000000) : 0 ≤ l.sum ∧ l.sum ≤ l.length * 2000000000 := by
 induction l with
 | nil => simp
 | cons a l ih =>
  have h1 := h a (by simp)
  have h2 := ih fun i hi => h i (List.mem_cons_of_mem _ hi)
  simp only [List.sum_cons, List.length_cons]
  omega
theorem B.sum : BOk K "sum" fSum := fun A vs ms σ s Q E rm I rs q => by
 obtain ⟨a, l, rfl, hl, hb, hlen, q⟩ := q
 obtain ⟨v, rfl, r⟩ := rs.one
 cases r.ref_inv
 obtain ⟨ws, n, e, rws, hz⟩ := I.sto _ _ hl
 have hx : ∃ xs : List (Int × Tok), ws = xs.map (fun p => .int p.1 p.2) ∧ xs.map (·.1) = l := by
  clear hl q hb hlen hz e
  induction l generalizing ws with
  | nil => cases rws; exact ⟨[], rfl, rfl⟩
  | cons i l ih =>
   cases rws with
   | cons r rws =>
    obtain ⟨t, rfl⟩ := r.int_inv
    obtain ⟨xs, rfl, rfl⟩ := ih _ rws
    exact ⟨(i, t) :: xs, rfl, rfl⟩
 obtain ⟨xs, rfl, rfl⟩ := hx
 have hv : ∀ i, i < xs.length → numAt xs.toArray i = (xs.map (·.1)).getD i 0 := fun i hi => by simp [numAt, List.getD, hi]
 refine sum_intList (xs := xs.toArray) rm.1 ⟨_, e, rfl, n, by simp [intItems]⟩ (fun j hj => ?_) fun h' tk t' k => ?_
 ·have hj' : j < xs.length := by simpa using hj
  have e1 : numAt xs.toArray j ∈ xs.map (·.1) := by
   rw [hv j hj']
   simp only [List.getD, List.getElem?_map, List.getElem?_eq_getElem hj', Option.map_some, Option.getD_some]
   exact List.mem_map.mpr ⟨_, List.getElem_mem hj', rfl⟩
  have b1 := hb _ e1
  have e2 := preSum_take (xs.map (·.1)) (numAt xs.toArray) (by simpa using hv) (j + 1) (by simp; omega)
  have b2 := sum_le ((xs.map (·.1)).take (j + 1)) fun i hi => hb i (List.mem_of_mem_take hi)
  rw [← e2] at b2
  have b3 : ((xs.map (·.1)).take (j + 1)).length ≤ 1000 := by
   have : (xs.map (·.1)).length ≤ 1000 := hlen
   simp at this ⊢; omega
  simp only [InLong]
  omega
 ·rw [show preSum (numAt xs.toArray) xs.toArray.size = (xs.map (·.1)).sum from by
   have := preSum_eq (xs.map (·.1)) (numAt xs.toArray) (by simpa using hv)
   simpa using this]
  exact ⟨.int _, σ, .int _ _, I.grow k, .grow k, q⟩
def BTOk (K : Ktx) (T : String) (f : MFun) : Prop := ∀ A vs ms σ s Q E, Room 0 A → SInv K σ s → Reps s.heap vs ms → f ms σ Q → wpAny K.M A (call (.type T) vs) (PostE K σ s Q) E s
theorem RefE.callT {x : Str} {T : String} {p pos : Pos} {e : Expr} {rest : List Expr} {f : MFun} {R : PA} (G : GName K x (.type T)) (hB : BTOk K T f) (h : RefA K d env nm (e :: rest) R)
  (hx : env.kindOf x = some .globalImplicit := by rfl) (hk : env.scope.kind = .function := by rfl) (hg : env.globals = mainGlobals := by rfl) (hb : env.builtins = builtinsNs := by rfl) (hdb : (x == ("__debug__" : Str)) = false := by decide)
  (he : starEach (e :: rest) env = (false, eval e env) :: starEach rest env := by exact star_cons rfl _ _) (hplain : (backTo pos (starEach rest env)).any (·.1) = false := by exact star_any rfl _ _) :
  RefE K d env nm (.Call (.Name x p) (e :: rest) [] pos) (pCallB f R) := fun A ρ σ s Q X rm F pp => by
 refine wpAny_Call_NameR (load_global F.inv G ?_ hk hx hg hb hdb)
 have hh := h A ρ σ s _ X pos rm F pp
 rw [he] at hh ⊢
 refine PySem.callWith_type (by show (false || (backTo pos (starEach rest env)).any (·.1)) = false; rw [hplain]; rfl) (evalArgs_plain (wpAny_mono hh ?_ fun _ _ h => h))
 rintro vs s₁ ⟨ms, σ₁, rs, I₁, st₁, q⟩
 exact wpAny_mono (hB A vs ms σ₁ s₁ Q _ (rm.mono (Nat.zero_le _)) I₁ rs q) (fun _ _ h => h.from st₁) fun _ _ h => h
def fRange : MFun := fun ms σ Q => (∃ n, ms = [.int n] ∧ Q (.rng 0 n 1) σ) ∨ (∃ a b, ms = [.int a, .int b, .int (-1)] ∧ 0 ≤ a ∧ a ≤ 1000 ∧ b = 0 ∧ Q (.rng a b (-1)) σ)
theorem Reps.three {h : Heap} {vs : List Value} {a b c : MV} (r : Reps h vs [a, b, c]) : ∃ u v w, vs = [u, v, w] ∧ Rep h u a ∧ Rep h v b ∧ Rep h w c := by
 cases r with
 | cons r1 r => obtain ⟨v, w, rfl, r2, r3⟩ := r.two; exact ⟨_, v, w, rfl, r1, r2, r3⟩
theorem B.range : BTOk K "range" fRange := fun A vs ms σ s Q E rm I rs q => by
 rcases q with ⟨n, rfl, q⟩ | ⟨a, b, rfl, h0, h1, rfl, q⟩
 ·obtain ⟨v, rfl, r⟩ := rs.one
  obtain ⟨t, rfl⟩ := r.int_inv
  refine call_range_1 ?_
  have k : ∀ b o, s.heap.get? b = some o → (s.heap.push (rngO 0 n 1 s.toks t (s.toks + 1))).get? b = some o := fun b o e => Heap.get?_push_of_some _ e
  exact ⟨.rng 0 n 1, σ, .rng (Heap.get?_push_size _ rfl), I.grow (tk := s.toks + 1 + 1) k, .grow (tk := s.toks + 1 + 1) k, q⟩
 ·obtain ⟨v, w, z, rfl, r, r', r''⟩ := rs.three
  obtain ⟨t, rfl⟩ := r.int_inv; obtain ⟨u, rfl⟩ := r'.int_inv; obtain ⟨x, rfl⟩ := r''.int_inv
  refine call_range_3 (by decide) ?_ (.inl ?_)
  ·have k : ∀ b o, s.heap.get? b = some o → (s.heap.push (rngO a 0 (-1) t u x)).get? b = some o := fun b o e => Heap.get?_push_of_some _ e
   exact ⟨.rng a 0 (-1), σ, .rng (Heap.get?_push_size _ rfl), I.grow (tk := s.toks) k, .grow (tk := s.toks) k, q⟩
  ·exact PyProof.noPylong_of_log2 (by decide +kernel)
def pDict0 : PE := fun _ σ Q _ => ∀ a, σ a = none → ∀ ep, Q (.ref a) (put σ a (.dict [] ep))
theorem dict_post {σ : Sto} {s : Shared} {kvs : List (Int × Value)} {l : List (Int × MV)} {Q : MV → Sto → Prop} {a : Addr} {h' : Heap} {tk : Nat} (I : SInv K σ s) (ha : s.heap.get? a = none) (e : h'.DictOf (intKind K.prog K.w) a kvs) (rs : Reps h' (kvs.map (·.2)) (l.map (·.2))) (hk : kvs.map (·.1) = l.map (·.1))
  (k : ∀ b o, s.heap.get? b = some o → h'.get? b = some o) (q : ∀ a, σ a = none → ∀ ep, Q (.ref a) (put σ a (.dict l ep))) : PostE K σ s Q (.ref a) { s with heap := h', toks := tk } := by
 obtain ⟨ep, e'⟩ := e.dictAt
 exact ⟨.ref a, _, .ref a, I.alloc (mo := .dict l ep) k ha ⟨kvs, e', rs, hk⟩, .alloc k ha, q a (I.offNew ha).1 ep⟩
theorem RefE.dict0 {pos : Pos} : RefE K d env nm (.Dict [] [] pos) pDict0 := fun A ρ σ s Q X rm F pp =>
 wpAny_Dict_empty (dict_post (kvs := []) (l := []) (tk := s.toks) F.inv (none_of_ge (Nat.le_refl _)) (Heap.DictOf.new _) .nil rfl (fun b o e => Heap.get?_push_of_some _ e) pp)
def pDict1 : PE := fun _ σ Q _ => ∀ a, σ a = none → ∀ ep, Q (.ref a) (put σ a (.dict [(0, .int 0)] ep))
theorem RefE.dict1 {k1 k2 : Nat} {p1 p2 pos : Pos} : RefE K d env nm (.Dict [some (.Constant (.int 0) k1 p1)] [.Constant (.int 0) k2 p2] pos) pDict1 := fun A ρ σ s Q X rm F pp => by
 refine wpAny_Dict_walk (knd := intKind K.prog K.w) rfl rfl (by simp) (by simp) ?_
 show wpAny _ _ (evalPairs [(eval (.Constant (.int 0) k1 p1) env, do let x ← eval (.Constant (.int 0) k2 p2) env; standAt pos; pure x)]) _ _ _
 refine evalPairs_cons (wpAny_Constant_int (wpAny_bind (wpAny_Constant_int (wpAny_bind (wpAny_standAt (wpAny_pure (evalPairs_nil ?_)))))))
 refine ⟨[((0 : Int), _)], ⟨by simp [intKind, Value.isInt], rfl, trivial⟩, Heap.DictOf.new _, fun h' hD hs => ?_⟩
 have k : ∀ b o, s.heap.get? b = some o → h'.get? b = some o := fun b o e => hs.extBut b o (Nat.ne_of_lt (Heap.lt_size e)) (Heap.get?_push_of_some _ e)
 refine dict_post (l := [(0, .int 0)]) F.inv (none_of_ge (Nat.le_refl _)) hD ?_ ?_ k pp
 ·exact .cons (.int 0 _) .nil
 ·rfl
noncomputable def storedM (l : List (Int × MV)) (k : Int) (m : MV) : List (Int × MV) := if l.any (fun kv => kv.1 = k) then l.map (fun kv => if kv.1 = k then (kv.1, m) else kv) else l ++ [(k, m)]
def setIt (o i m : MV) (σ : Sto) (R : Sto → Prop) : Prop := ∃ a k, o = .ref a ∧ i = .int k ∧
  ((∃ l, σ a = some (.list l) ∧ 0 ≤ k ∧ k < l.length ∧ R (put σ a (.list (l.set k.toNat m)))) ∨ (∃ l ep, σ a = some (.dict l ep) ∧ l.length ≤ 1000 ∧ ∀ ep', R (put σ a (.dict (storedM l k m) ep'))))
def sSetI (V O I : PE) : PS := fun ρ σ Q X => V ρ σ (fun m σ₁ => O ρ σ₁ (fun o σ₂ => I ρ σ₂ (fun i σ₃ => setIt o i m σ₃ fun σ₄ => Q .next ρ σ₄) X) X) X
theorem stored_reps {h : Heap} {kvs : List (Int × Value)} {l : List (Int × MV)} {k : Int} {v : Value} {m : MV} (rs : Reps h (kvs.map (·.2)) (l.map (·.2))) (hk : kvs.map (·.1) = l.map (·.1)) (r : Rep h v m) :
  Reps h ((stored kvs k v).map (·.2)) ((storedM l k m).map (·.2)) ∧ (stored kvs k v).map (·.1) = (storedM l k m).map (·.1) := by
 have hany : kvs.any (fun kv => kv.1 = k) = l.any (fun kv => kv.1 = k) := by
  have : ∀ {α : Type} (x : List (Int × α)), x.any (fun kv => decide (kv.1 = k)) = (x.map (·.1)).any (fun y => decide (y = k)) := fun x => by simp [List.any_map, Function.comp_def]
  rw [this, this, hk]
 unfold stored storedM
 rw [hany]
 by_cases hc : l.any (fun kv => kv.1 = k) = true
 ·rw [if_pos hc, if_pos hc]
  clear hany hc
  induction kvs generalizing l with
  | nil => cases l with
   | nil => exact ⟨.nil, rfl⟩
   | cons _ _ => simp at hk
  | cons p kvs ih => cases l with
   | nil => simp at hk
   | cons q l =>
    simp only [List.map_cons, List.cons.injEq] at hk rs
    obtain ⟨h1, hk⟩ := hk
    cases rs with
    | cons r1 rs =>
     obtain ⟨i1, i2⟩ := ih rs hk
     simp only [List.map_cons]
     rw [h1]
     by_cases hq : q.1 = k
     ·rw [if_pos hq, if_pos hq]; exact ⟨.cons r i1, by simp [i2]⟩
     ·rw [if_neg hq, if_neg hq]; exact ⟨.cons r1 i1, by simp [h1, i2]⟩
 ·rw [if_neg hc, if_neg hc]
  simp only [List.map_append, List.map_cons, List.map_nil]
  exact ⟨rs.append (.cons r .nil), by rw [hk]⟩
set_option maxRecDepth 100000 in
theorem setItem_lst {A : Around} {s : Shared} {a : Addr} {vs : List Value} {n : Nat} {k : Int} {t : Tok} {v : Value} {Q : Unit → Shared → Prop} {E : Value → Shared → Prop} (e : s.heap.get? a = some (lstO vs n)) (h0 : 0 ≤ k) (hf : k < 2 ^ 63) (h1 : k < vs.length)
  (q : Q () { s with heap := s.heap.update a (Obj.mapSeq (·.setIfInBounds k.toNat v)) }) : wpAny K.M A (setItem (.ref a) (.int k t) v) Q E s := by
 have hL : s.heap.IsList a vs.toArray := ⟨_, e, rfl, n, rfl⟩
 have hd : (lstO vs n).data = .seq vs.toArray n := rfl
 generalize hO : lstO vs n = O at e hd
 unfold setItem
 try with_reducible refine wpAny_holding ?_
 first | refine wpAny_bind (wpAny_pure ?_) | skip
 refine wpAny_bind (wpAny_sequenceKey hL.typeIs (by decide) ?_)
 refine wpAny_bind (wpAny_callSpecial?_slot (name := Str.ofString "__setitem__") hL.typeIs slot_list_setitem (wpAny_call_entry slot_list_setitem hL.typeIs entry_list_setitem ?_ (args_list_setitem _ _ _)))
 show wpAny _ _ (Builtin.List.listSubscript? (.int k t) >>= _) _ _ s
 refine wpAny_bind (wpAny_listSubscript_int (fitsIndex_of h0 hf) ?_)
 clear hf
 obtain ⟨j, rfl⟩ := Int.eq_ofNat_of_zero_le h0
 have hj : j < vs.toArray.size := by simp; omega
 show wpAny _ _ ((seqItemAt a j >>= fun r => pure (r.map (j, ·))) >>= _) _ _ s
 refine wpAny_bind (wpAny_bind ?_)
 refine wpAny_seqItemAt e hd ?_
 refine wpAny_pure ?_
 rw [Array.getElem?_eq_getElem hj]
 show wpAny _ _ (setSeqItemAt a j v >>= _) _ _ s
 refine wpAny_bind (wpAny_setSeqItemAt e hd ?_)
 first
  | exact wpAny_bind (wpAny_pure (wpAny_pure ⟨.none, rfl, wpAny_pure q⟩))
  | exact wpAny_pure ⟨.none, rfl, wpAny_pure q⟩
theorem setItem_ok {A : Around} {σ : Sto} {s : Shared} {vo vi v : Value} {o i m : MV} {R : Sto → Prop} {E : Value → Shared → Prop} (rm : Room 0 A) (I : SInv K σ s) (ro : Rep s.heap vo o) (ri : Rep s.heap vi i) (r : Rep s.heap v m) (p : setIt o i m σ R) :
  wpAny K.M A (setItem vo vi v) (fun _ s' => ∃ σ', SInv K σ' s' ∧ Stp [] σ s σ' s' ∧ R σ') E s := by
 obtain ⟨a, k, rfl, rfl, p⟩ := p
 cases ro.ref_inv; obtain ⟨t, rfl⟩ := ri.int_inv
 rcases p with ⟨l, hl, h0, h1, q⟩ | ⟨l, ep, hl, hz, q⟩
 ·obtain ⟨ws, n, e, rws, hz⟩ := I.sto _ _ hl
  obtain ⟨J, st⟩ := turn_list (f := (·.setIfInBounds k.toNat v)) (vs' := ws.set k.toNat v) (l' := l.set k.toNat m) (tk := s.toks) I hl e (by simp) (rws.set _ r) (by simpa using hz)
  exact setItem_lst e h0 (by simp only [sizeLine] at hz; omega) (by rw [rws.length]; exact h1) ⟨_, J, st, q⟩
 ·obtain ⟨kvs, hD, rws, hk⟩ := I.sto _ _ hl
  obtain ⟨o, es, e, hx, r'⟩ := id hD
  have hO : s.heap.DictOf (intKind K.prog K.w) a kvs := ⟨o, es, ep, e, hx, r'⟩
  have hlen : kvs.length = l.length := by have := congrArg List.length hk; simpa using this
  refine wpAny_setItem_pairs (knd := intKind K.prog K.w) (k := k) (key := .int k t) (show Value.isInt k (.int k t) = true by simp [Value.isInt]) hO (fun h' hD' hs => ?_) (by simp only [sizeLine]; omega)
  obtain ⟨ep', hA⟩ := hD'.dictAt
  have kf : ∀ b o, Firm o → s.heap.get? b = some o → h'.get? b = some o := fun b o fo g => hs.extBut b o (fun q => by subst q; have := I.firm g fo; rw [hl] at this; cases this) g
  obtain ⟨p1, p2⟩ := stored_reps (k := k) (rws.mono kf) hk (r.mono kf)
  exact ⟨_, I.turn (tk := s.toks + 1) (mo' := .dict (storedM l k m) ep') hs.extBut hl ⟨_, hA, p1, p2⟩, .turn (tk := s.toks + 1) hs.extBut hl, q ep'⟩
theorem RefS.asgI {o i v : Expr} {pos' pos : Pos} {V O I : PE} (hv : RefE K d env nm v V) (ho : RefE K d env nm o O) (hi : RefE K d env nm i I) (hs : swapsWith v (some (.Subscript o i pos')) pos.line env = pure false := by rfl) :
  RefS K d env nm (.Assign [.Subscript o i pos'] v pos) (sSetI V O I) := fun A ρ σ s Q X rm F pp => by
 refine wpAny_Assign_Subscript (wpAny_mono (hv A ρ σ s _ X rm F pp) ?_ fun _ _ h => h.up F) hs
 rintro vv s₁ ⟨m, σ₁, r, I₁, st₁, q⟩
 have F₁ := F.step I₁ st₁
 refine wpAny_mono (ho A ρ σ₁ s₁ _ X rm F₁ q) ?_ fun _ _ h => (h.up F₁).from st₁.nil
 rintro vo s₂ ⟨o', σ₂, ro, I₂, st₂, q₂⟩
 have F₂ := F₁.step I₂ st₂
 refine wpAny_mono (hi A ρ σ₂ s₂ _ X rm F₂ q₂) ?_ fun _ _ h => (h.up F₂).from (st₁.trans st₂).nil
 rintro vi s₃ ⟨i', σ₃, ri, I₃, st₃, q₃⟩
 have st := (st₁.trans st₂).trans st₃
 refine wpAny_mono (setItem_ok (rm.mono (Nat.zero_le _)) I₃ (ro.step st₃ I₂) ri ((r.step st₂ I₁).step st₃ I₂) q₃) ?_ fun _ _ h => h
 rintro _ s₄ ⟨σ₄, I₄, st₄, q₄⟩
 exact ⟨.next, ρ, σ₄, .next, (F₂.step I₃ st₃).step I₄ st₄, (st.trans st₄).nil, q₄⟩
end
theorem Room.deeper {d : Nat} {A : Around} {env : Env} (r : Room (d + 1) A) : Room d (A.deeper env) := ⟨r.1, by have := r.2.1; simp only [Around.deeper]; (subst_vars; omega), by have := r.2.2; simp only [Around.deeper]; lia⟩
theorem bindL_other {k : Str → Option NameKind} : ∀ (bs : List (Str × Value)) (m : Str → Option Value) (y : Str), y ∉ bs.map (·.1) → bindL k bs m y = m y
 | [], _, _, _ => rfl
 | (n, v) :: r, m, y, h => by
  simp at h
  rw [bindL, bindL_other r _ y (by simpa using h.2)]
  split
  ·simp [h.1]
  ·rfl
theorem bindC_other {k : Str → Option NameKind} : ∀ (bs : List (Str × Value)) (m : Str → Option Value) (y : Str), y ∉ bs.map (·.1) → bindC k bs m y = m y
 | [], _, _, _ => rfl
 | (n, v) :: r, m, y, h => by
  simp at h
  rw [bindC, bindC_other r _ y (by simpa using h.2)]
  split
  ·rfl
  ·simp [h.1]
theorem bindL_get {k : Str → Option NameKind} : ∀ (names : List Str) (vals : List Value) (m : Str → Option Value) (i : Nat) (x : Str) (v : Value), names.Nodup → names[i]? = some x → vals[i]? = some v → k x = some .local → bindL k (names.zip vals) m x = some v
 | [], _, _, _, _, _, _, h, _, _ => by simp at h
 | _ :: _, [], _, _, _, _, _, _, h, _ => by simp at h
 | n :: ns, w :: vs, m, 0, x, v, hn, h1, h2, hk => by
  simp at h1 h2; subst h1 h2
  rw [List.zip_cons_cons, bindL, bindL_other _ _ _ (fun hm => ?_), if_pos hk]
  ·simp
  ·obtain ⟨p, hp, rfl⟩ := List.mem_map.mp hm
   exact (List.nodup_cons.mp hn).1 (List.of_mem_zip (a := p.1) (b := p.2) hp).1
 | n :: ns, w :: vs, m, i + 1, x, v, hn, h1, h2, hk => by
  rw [List.zip_cons_cons, bindL]
  exact bindL_get ns vs _ i x v (List.nodup_cons.mp hn).2 (by simpa using h1) (by simpa using h2) hk
theorem bindC_get {k : Str → Option NameKind} : ∀ (names : List Str) (vals : List Value) (m : Str → Option Value) (i : Nat) (x : Str) (v : Value), names.Nodup → names[i]? = some x → vals[i]? = some v → k x ≠ some .local → bindC k (names.zip vals) m x = some v
 | [], _, _, _, _, _, _, h, _, _ => by simp at h
 | _ :: _, [], _, _, _, _, _, _, h, _ => by simp at h
 | n :: ns, w :: vs, m, 0, x, v, hn, h1, h2, hk => by
  simp at h1 h2; subst h1 h2
  rw [List.zip_cons_cons, bindC, bindC_other _ _ _ (fun hm => ?_), if_neg hk]
  ·simp
  ·obtain ⟨p, hp, rfl⟩ := List.mem_map.mp hm
   exact (List.nodup_cons.mp hn).1 (List.of_mem_zip (a := p.1) (b := p.2) hp).1
 | n :: ns, w :: vs, m, i + 1, x, v, hn, h1, h2, hk => by
  rw [List.zip_cons_cons, bindC]
  exact bindC_get ns vs _ i x v (List.nodup_cons.mp hn).2 (by simpa using h1) (by simpa using h2) hk
section
variable {K : Ktx} {d : Nat}
noncomputable def args (ms : List MV) : Loc := fun i => ms[i]?
theorem first_frame {A : Around} {σ : Sto} {s s₁ : Shared} {fd : FuncData} {a : Addr} {names nm : List Str} {vals : List Value} {ms : List MV} (I : SInv K σ s) (fr : FrOk K A σ s.heap) (rs : Reps s.heap vals ms) (hlen : ms.length = names.length)
  (hn : nm.take names.length = names) (hu : nm.Nodup) (hk : fd.scope.kind = .function) (hl : ∀ x ∈ names, fd.scope.names.lookup x = some .local ∨ fd.scope.names.lookup x = some .cell)
  (hfree : ∀ x : Str, fd.scope.names.lookup x ≠ some .free) (hlc : ∀ x c, (x, c) ∈ cellsFrom (s.heap.objs.size + 1) fd.scope.names [] → (cellsFrom (s.heap.objs.size + 1) fd.scope.names []).lookup x = some c)
  (x : InCallC s (callEnvC fd s.heap.objs.size a).locals (bindL (callEnvC fd s.heap.objs.size a).kindOf (names.zip vals) fun _ => none) (callEnvC fd s.heap.objs.size a).cells
    (bindC (callEnvC fd s.heap.objs.size a).kindOf (names.zip vals) fun _ => none) s₁) :
  FInv K (callEnvC fd s.heap.objs.size a) nm (args ms) (A.deeper (callEnvC fd s.heap.objs.size a)) σ s₁ ∧ Stp [] σ s σ s₁ := by
 obtain ⟨h', tk, rfl, k⟩ := x.done
 have J := I.grow (tk := tk) k
 have st : Stp [] σ s σ { s with heap := h', toks := tk } := .grow k
 have above : ∀ b, s.heap.objs.size ≤ b → σ b = none ∧ K.h0.get? b = none := fun b hb => I.offNew (none_of_ge hb)
 have nun : names.Nodup := hn ▸ hu.sublist (List.take_sublist _ _)
 have inames : ∀ i y mv, nm[i]? = some y → ms[i]? = some mv → names[i]? = some y := fun i y mv h1 h2 => by
  have hi : i < names.length := hlen ▸ (List.getElem?_eq_some_iff.mp h2).1
  have e := congrArg (·[i]?) hn
  simp only [List.getElem?_take, hi, if_true] at e
  exact e.symm.trans h1
 have hcell : ∀ y c, (y, c) ∈ (callEnvC fd s.heap.objs.size a).cells → (callEnvC fd s.heap.objs.size a).cells.lookup y = some c := hlc
 have hab : ∀ y c, (y, c) ∈ (callEnvC fd s.heap.objs.size a).cells → s.heap.objs.size < c := fun y c h => x.above y c h
 refine ⟨⟨J, ⟨_, x.toInCall.ns, fun i y mv h1 h2 h3 => ?_⟩, fun y c hc => ⟨_, x.cell y c (hcell y c hc), fun i mv h1 h2 h3 => ?_⟩, above _ (Nat.le_refl _), fun y c hc => ?_, fun y z c h1 h2 => ?_, fun y c c' h1 h2 => ?_, ?_, fun _ => ⟨?_, rfl⟩⟩, st⟩
 ·obtain ⟨v, e, r⟩ := rs.get h3
  exact ⟨v, bindL_get names vals _ i y v nun (inames i y mv h1 h3) e h2, r.keeps k⟩
 ·obtain ⟨v, e, r⟩ := rs.get h3
  have hy : (callEnvC fd s.heap.objs.size a).kindOf y = some .cell := by
   rcases h2 with h2 | h2
   ·exact h2
   ·exact absurd h2 (hfree y)
  exact ⟨v, bindC_get names vals _ i y v nun (inames i y mv h1 h3) e (by rw [hy]; simp), r.keeps k⟩
 ·have h1 := above c (Nat.le_of_lt (hab y c hc))
  exact ⟨h1.1, h1.2, fun q => by have := hab y c hc; rw [q] at this; exact Nat.lt_irrefl _ this⟩
 ·have hp := x.apart
  rcases List.getElem_of_mem h1 with ⟨i, hi, e1⟩
  rcases List.getElem_of_mem h2 with ⟨j, hj, e2⟩
  rcases Nat.lt_trichotomy i j with hlt | rfl | hlt
  ·exact absurd (by rw [e1, e2]) (List.pairwise_iff_getElem.mp hp i j hi hj hlt)
  ·rw [e1] at e2; cases e2; rfl
  ·exact absurd (by rw [e1, e2]) (List.pairwise_iff_getElem.mp hp j i hj hi hlt)
 ·have q1 := hcell _ _ h1; have q2 := hcell _ _ h2
  rw [q1] at q2; cases q2; rfl
 ·obtain ⟨l, e, hl'⟩ := fr
  refine ⟨callEnvC fd s.heap.objs.size a :: l, by simp [Around.deeper, e], fun e he => ?_⟩
  rcases List.mem_cons.mp he with rfl | he
  ·obtain ⟨o, es, ep, g, hd, _⟩ := x.toInCall.ns
   refine ⟨?_, _, o, rfl, g, ⟨es, ep, hd⟩, (above _ (Nat.le_refl _)).1, (above _ (Nat.le_refl _)).2⟩
   show fd.scope.kind ≠ .module
   rw [hk]; simp
  ·obtain ⟨k1, L, o, a1, a2, a3, a4, a5⟩ := hl' e he
   exact ⟨k1, L, o, a1, k _ _ a2, a3, a4, a5⟩
 ·obtain ⟨l, e, _⟩ := fr
  exact ⟨l, by simp [Around.deeper, e]⟩
theorem drop_frame {A : Around} {env : Env} {nm : List Str} {ρ ρ' : Loc} {σ σ' : Sto} {s s₁ s' : Shared} (I : SInv K σ s) (F : FInv K env nm ρ A σ s₁) (st : Stp [] σ s σ s₁) (k : ∀ b o, s.heap.get? b = some o → s₁.heap.get? b = some o) (hnew : ∀ b ∈ ownOf env, s.heap.get? b = none)
  (hg : ∀ (g : Nat) (x : GenState), s.gens[g]? = some x → s₁.gens[g]? = some x) (st' : Stp (ownOf env) σ s₁ σ' s') : Stp [] σ s σ' s' := st'.drop k hg fun b hb => .inr (hnew b hb)
theorem SoundF.of {a : Addr} {o : Obj} {fd : FuncData} {body : List Stmt} {names nm : List Str} {P : PS} {S : List MV → Sto → (MV → Sto → Prop) → (Sto → Prop) → Prop} (ho : K.h0.get? a = some o) (hd : o.data = .func fd) (hlim : K.h0.NoLimit) (hcd : K.h0.CodeRec fd.code fd.qualname)
  (hbody : fd.body = .stmts body) (hbind : ∀ vals, vals.length = names.length → bindArgs fd ⟨vals, []⟩ = pure (names.zip vals)) (hn : nm.take names.length = names) (hu : nm.Nodup)
  (hl : ∀ x ∈ names, fd.scope.names.lookup x = some .local ∨ fd.scope.names.lookup x = some .cell) (hfree : ∀ x : Str, fd.scope.names.lookup x ≠ some .free)
  (hlc : ∀ L x c, (x, c) ∈ cellsFrom L fd.scope.names [] → (cellsFrom L fd.scope.names []).lookup x = some c) (hcl : ∀ L x, fd.scope.names.lookup x = some .cell → ((cellsFrom L fd.scope.names []).lookup x).isSome = true)
  (hL : ∀ L, RefL K d (callEnvC fd L a) nm body P)
  (hS : ∀ ms σ Q X, S ms σ Q X → ms.length = names.length ∧ P (args ms) σ (fun f _ σ' => match f with | .ret m => Q m σ' | .next => Q .none σ' | _ => False) (fun _ => False))
  (hclo : fd.closure = [] := by rfl) (hco : fd.scope.isCoroutine = false := by rfl) (hgen : fd.scope.isGenerator = false := by rfl) (hk : fd.scope.kind = .function := by rfl) : SoundF K (d + 1) a S := fun A s σ vals ms Q X rm I fr rs p => by
 obtain ⟨hlen, p⟩ := hS ms σ Q X p
 have hvl : vals.length = names.length := rs.length.trans hlen
 have hfst : ∀ x ∈ names.zip vals, x.1 ∈ names := fun x hx => (List.of_mem_zip (a := x.1) (b := x.2) hx).1
 refine codeAny_call_cells (by have := rm.2.1; simp only [recursionLimit]; lia) (I.old _ _ ho) hd (hlim.keeps I.old) (hcd.keeps I.old) hbody (hbind vals hvl) hclo (fun x hx => ?_) (fun s₁ x => ?_) hco hgen hk
 ·rcases hl x.1 (hfst x hx) with h | h
  ·exact .inl h
  ·exact .inr ⟨h, hcl _ _ h⟩
 ·obtain ⟨F, st⟩ := first_frame (a := a) I fr rs hlen hn hu hk hl hfree (hlc _) x
  obtain ⟨h', tk, rfl, k⟩ := x.done
  have hnew : ∀ b ∈ ownOf (callEnvC fd s.heap.objs.size a), s.heap.get? b = none := fun b hb => by
   rcases List.mem_cons.mp hb with rfl | hb
   ·exact none_of_ge (Nat.le_refl _)
   ·obtain ⟨⟨y, c⟩, hm, rfl⟩ := List.mem_map.mp hb
    exact none_of_ge (Nat.le_of_lt (x.above y c hm))
  refine wpAny_mono (hL _ _ _ σ _ _ _ rm.deeper F p) ?_ fun _ _ h => not_flyS h
  rintro f s₂ ⟨mf, ρ', σ', r, F', st', q⟩
  have stp : Stp [] σ s σ' s₂ := st'.drop k (fun _ _ e => e) fun b hb => .inr (hnew b hb)
  rcases r with _ | _ | _ | r <;> first | exact q.elim | skip
  ·exact ⟨.none, σ', .none, F'.inv, stp, q⟩
  ·exact ⟨_, σ', r, F'.inv, stp, q⟩
end
end Mine
end
section
namespace Mine
open PySem PySem.Calls PyProof.Rows PySem.W PySem.SeqAt PySem.MeetsSeq PySem.Builtin PySem.Builtin.Str
section
variable {K : Ktx} {d : Nat} {env : Env} {nm : List Str}
noncomputable def joinL (sep : List Nat) : List (List Nat) → List Nat
 | [] => []
 | [x] => x
 | x :: y :: r => x ++ sep ++ joinL sep (y :: r)
noncomputable abbrev toS (x : List Nat) : Str := ⟨x.toArray⟩
theorem toS_join (sep : List Nat) : ∀ l : List (List Nat), Txt.join (toS sep) (l.map toS) = toS (joinL sep l) := by
 intro l
 show glued _ _ = _
 rw [StrLaws.glued_eq_join]
 induction l with
 | nil => rfl
 | cons x r ih =>
  cases r with
  | nil => rfl
  | cons y r =>
   show toS x ++ toS sep ++ Str.join (toS sep) (toS y :: r.map toS) = _
   have ih' : Str.join (toS sep) (toS y :: r.map toS) = toS (joinL sep (y :: r)) := ih
   rw [ih']
   apply Str.ext'
   simp [joinL, Str.cps_append]
theorem Reps.strsAre {h : Heap} : ∀ {vs : List Value} {l : List (List Nat)}, Reps h vs (l.map .str) → StrsAre vs (l.map toS) := by
 intro vs l
 induction l generalizing vs with
 | nil => intro r; cases r; exact .nil
 | cons x r ih =>
  intro h
  cases h with
  | cons a b =>
   obtain ⟨t, rfl⟩ := a.str_inv
   exact .cons _ _ (ih b)
def mJoin : MMeth := fun o ms σ Q X => ∃ sep a l, o = .str sep ∧ ms = [.ref a] ∧ σ a = some (.list (l.map .str)) ∧ (l.map (·.length)).sum + l.length * sep.length ≤ 16777216 ∧ Q (.str (joinL sep l)) σ
theorem Meth.join : MethOk K "str" "join" "str.join" mJoin := fun A v vs o ms σ s Q X rm I hT r rs q => by
 obtain ⟨sep, a, l, rfl, rfl, hl, hz, q⟩ := q
 obtain ⟨t, rfl⟩ := r.str_inv
 obtain ⟨u, rfl, ru⟩ := rs.one
 cases ru.ref_inv
 obtain ⟨ws, n, e, rws, _⟩ := I.sto _ _ hl
 refine join_list (D := a) (items := ws.toArray) (ys := l.map toS) ⟨_, e, rfl, n, rfl⟩ (rws.strsAre) ?_ fun t' k => ?_
 ·simp only [List.map_map, Function.comp_def, List.length_map, Str.length]
  simpa using hz
 ·rw [toS_join]
  exact postE_tok I (.str _ _) q
noncomputable def findAt (x y : List Nat) (lo hi : Nat) : Int := match occurrences (toS x) (toS y) lo hi 1 with | k :: _ => (k : Int) | [] => -1
theorem gives_find4 (x y : Str) (i j : Nat) (t u v w : Tok) : Gives («str.find» ⟨[.str x t, .str y u, .int i v, .int j w], []⟩) (.int (match occurrences x y (fromIndex x.length i) (min (fromIndex x.length j) x.length) 1 with | k :: _ => (k : Int) | [] => -1)) := by
 show Gives (match occurrences x y (fromIndex x.length i) (min (fromIndex x.length j) x.length) 1 with | k :: _ => retInt k | [] => (do rule "str.find.not-found"; retInt (-1))) _
 cases occurrences x y (fromIndex x.length i) (min (fromIndex x.length j) x.length) 1 with
 | nil => exact .rule (.of_eq rfl)
 | cons k _ => exact .of_eq rfl
def mFind : MMeth := fun o ms σ Q X => ∃ (x y : List Nat) (i j : Nat), o = .str x ∧ ms = [.str y, .int i, .int j] ∧ Q (.int (findAt x y i (min j x.length))) σ
theorem fromIndex_nat (n i : Nat) : fromIndex n i = i := by unfold fromIndex; split <;> omega
theorem Meth.find : MethOk K "str" "find" "str.find" mFind := fun A v vs o ms σ s Q X rm I hT r rs q => by
 obtain ⟨x, y, i, j, rfl, rfl, q⟩ := q
 obtain ⟨t, rfl⟩ := r.str_inv
 obtain ⟨u1, u2, u3, rfl, r1, r2, r3⟩ := rs.three
 obtain ⟨t1, rfl⟩ := r1.str_inv
 obtain ⟨t2, rfl⟩ := r2.int_inv
 obtain ⟨t3, rfl⟩ := r3.int_inv
 refine call_gives F.slot_str_find (typeIs_str _ _ _) F.entry_str_find (F.args_str_find_4 _ _ _ _) (gives_find4 (toS x) (toS y) i j t t1 t2 t3) ?_
 rw [fromIndex_nat, fromIndex_nat]
 exact postE_tok I (.int _ _) q
end
section
variable {K : Ktx} {d : Nat} {env : Env} {nm : List Str}
def sDash (i : Nat) (B : PS) : PS := fun ρ σ Q X => ∃ x, ρ i = some (.str x) ∧ x.length ≤ 1000 ∧ (Txt.contains (toS x) (toS [45]) = false → Q .next (upd ρ i (.str (StrLaws.dbl 92 x))) σ) ∧ (Txt.contains (toS x) (toS [45]) = true → B ρ σ Q X)
theorem RefS.dash {x dash b1 b2 name : Str} {k1 k2 k3 : Nat} {p1 p2 p3 p4 p5 p6 p7 p8 p9 p10 pos : Pos} {els : List Stmt} {i : Nat} {B : PS} (hels : RefL K d env nm els B)
  (h1 : dash = toS [45] := by rfl) (h2 : b1 = toS [92] := by rfl) (h3 : b2 = toS [92, 92] := by rfl) (hn : name = Str.ofString "replace" := by rfl)
  (hi : nm[i]? = some x := by rfl) (hl : env.kindOf x = some .local := by rfl) (hu : nm.Nodup := by decide)
  (hp : (env.scope.kind == .class || (env.scope.kind == .module && env.locals != env.globals)) = false := by rfl)
  (hk : env.scope.kind = .function := by rfl) (hd : (x == ("__debug__" : Str)) = false := by decide)
  (hbase : attributeBase (.Name x p5) name env (eval (.Name x p5) env) = eval (.Name x p5) env := by rfl)
  (hline : (p6.endLine == p9.line) = true := by rfl)
  (hs : swapsWith (.Call (.Attribute (.Name x p5) name p6) [.Constant (.str b1) k2 p7, .Constant (.str b2) k3 p8] [] p9) (some (.Name x p4)) p10.line env = pure false := by rfl) :
  RefS K d env nm (.If (.Compare (.Constant (.str dash) k1 p1) [.NotIn] [.Name x p2] p3) [.Assign [.Name x p4] (.Call (.Attribute (.Name x p5) name p6) [.Constant (.str b1) k2 p7, .Constant (.str b2) k3 p8] [] p9) p10] els pos) (sDash i B) := fun A ρ σ s Q X rm F pp => by
 subst h1; subst h2; subst h3; subst hn
 obtain ⟨l, hx, hlen, q1, q2⟩ := pp
 obtain ⟨f, hns, hv⟩ := F.ns
 obtain ⟨v, e1, r⟩ := hv i x _ hi hl hx
 obtain ⟨t, rfl⟩ := r.str_inv
 refine wpAny_If (wpAny_isTrue_Compare1 (wpAny_Constant_str ?_) (by rfl))
 have F₁ : FInv K env nm ρ A σ { s with toks := s.toks + 1 } := F.grow (h' := s.heap) fun _ _ e => e
 have st₁ : Stp [] σ s σ { s with toks := s.toks + 1 } := .grow (h' := s.heap) fun _ _ e => e
 refine wpAny_Name (wpAny_loadName_local hk hl hns e1 ?_) hd
 refine SB.notContains ?_
 refine wpAny_truthy_bool ?_
 cases hc : Txt.contains (toS l) (toS [45]) with
 | true => exact wpAny_mono (hels A ρ σ _ Q X rm F₁ (q2 hc)) (fun _ _ h => h.from st₁.nil) fun _ _ h => h.from st₁.nil
 | false =>
  refine wpAny_execs_cons (wpAny_Assign_Name ?_ hs)
  refine wpAny_Call_method_late hbase rfl hline rfl (wpAny_Name (wpAny_loadName_local hk hl hns e1 ?_) hd)
  refine ⟨"str", "str.replace", PySem.F.plainAttrs_str, PySem.F.slot_str_replace, PySem.F.type_str_replace, typeIs_str _ _ _, fun a e => (by cases e), ?_⟩
  refine callWith_builtin rfl (evalArgs_plain (spliced_cons (wpAny_Constant_str (k := k2) (pos := p7) (spliced_cons (wpAny_Constant_str (k := k3) (pos := p8) (spliced_nil ?_))))))
  refine SC.replaceW (by simp) (by simp) (by simp) (by decide) (by simpa [Str.length] using Nat.le_trans hlen (by decide)) (by decide) fun t' k => ?_
  rw [replace_dbl _ _ _ 92 rfl rfl]
  have F₂ : FInv K env nm ρ A σ { s with toks := k } := F.grow (h' := s.heap) fun _ _ e => e
  refine store_local F₂ (.str (StrLaws.dbl 92 l) t') hi hu hl hp fun s' F' st' => ?_
  exact wpAny_execs_nil ⟨.next, _, σ, .next, F', (Stp.grow (h' := s.heap) (tk := k) fun _ _ e => e).trans (st'.of1 mem_ownL), q1 hc⟩
end
section
variable {K : Ktx} {d : Nat} {env : Env} {nm : List Str}
def pFstr (a b : List Nat) (P : PE) : PE := fun ρ σ Q X => P ρ σ (fun m σ₁ => ∃ x, m = .str x ∧ x.length ≤ 100000 ∧ Q (.str (a ++ x ++ b)) σ₁) X
theorem RefE.fstr {a b : Str} {la lb : List Nat} {k1 k2 : Nat} {p1 p2 p3 pos : Pos} {e : Expr} {P : PE} (h : RefE K d env nm e P) (h1 : a = toS la := by rfl) (h2 : b = toS lb := by rfl) (h3 : la.length + lb.length ≤ 1000 := by decide) :
  RefE K d env nm (.JoinedStr [.Constant (.str a) k1 p1, .FormattedValue e (-1) Option.none p2, .Constant (.str b) k2 p3] pos) (pFstr la lb P) := fun A ρ σ s Q X rm F pp => by
 subst h1; subst h2
 refine wpAny_JoinedStr ?_
 have es : sizeLine = 16777216 := rfl
 refine wpAny_Constant_str (k := k1) (pos := p1) ⟨_, _, rfl, ?_, ?_⟩
 ·simp [Str.length, Str.cps_append, Str.empty, es] <;> lia
 have F₁ : FInv K env nm ρ A σ { s with toks := s.toks + 1 } := F.grow (h' := s.heap) fun _ _ e => e
 have st₁ : Stp [] σ s σ { s with toks := s.toks + 1 } := .grow (h' := s.heap) fun _ _ e => e
 refine FormattedValue_plain (wpAny_mono (h A ρ σ _ _ X rm F₁ pp) ?_ fun _ _ h => h.from st₁)
 rintro v s₂ ⟨m, σ₂, r, I₂, st₂, x, rfl, hz, q⟩
 obtain ⟨t, rfl⟩ := r.str_inv
 refine formatField_str (fun t' tk => ?_) (by simp [Str.length, es]; omega)
 refine ⟨_, _, rfl, ?_, ?_⟩
 ·simp [Str.length, Str.cps_append, Str.empty, es]; grind only
 refine wpAny_Constant_str (k := k2) (pos := p3) ⟨_, _, rfl, ?_, ?_, ?_⟩
 ·simp [Str.length, Str.cps_append, Str.empty, es]; (subst_vars; grind only)
 ·simp [Str.length, Str.cps_append, Str.empty, es]; omega
 ·have e : Str.empty ++ toS la ++ toS x ++ toS lb = toS (la ++ x ++ lb) := by
   apply Str.ext'; simp [Str.cps_append, Str.empty]
  show PostE K σ s Q (.str (Str.empty ++ toS la ++ toS x ++ toS lb) _) _
  rw [e]
  exact PostE.from (st₁.trans st₂) (postE_tok I₂ (.str _ _) q)
end
theorem owner_la : (kfb_private% "ownerAndName") "list.append" = ("list", "append") := by first | decide +kernel | kernel_rfl
theorem slot_md_get : Slot "method_descriptor" "__get__" "method_descriptor.__get__" :=
 .of (owner := "method_descriptor") (n := "__get__") (by rw [typeLookup_type, builtinLookup_eq_fast]; kernel_rfl) (by decide +kernel) (by decide +kernel) (by decide +kernel)
  (by first | exact .inl (by decide +kernel) | exact .inr (by decide +kernel)) (by rw [isSubtype_type]; kernel_rfl)
theorem entry_md_get : entryFor table "method_descriptor.__get__" = some Builtin.«method_descriptor.__get__» := entryFor_of_tree (by kernel_rfl)
theorem args_md_get (a b c : Value) : argsOk "method_descriptor.__get__" ⟨[a, b, c], []⟩ := by unfold argsOk; kernel_rfl
theorem sub_list : isSubtype (.type "list") (.type "list") = pure true := by rw [isSubtype_type]; kernel_rfl
theorem not_told : Manifest.toldItsClass.contains "list.append" = false := by decide +kernel
theorem meets_md_get (a : Addr) : Meets (Builtin.«method_descriptor.__get__» ⟨[.builtin "list.append", .ref a, .type "list"], []⟩) (fun A R s => s.TypeIs (.ref a) "list" ∧ R (.ok (.ret (.ref s.heap.objs.size))) { s with heap := s.heap.push (bmO "list.append" a) }) := by
 intro prog w A R s ⟨hT, h⟩
 unfold Builtin.«method_descriptor.__get__»
 refine wpAny_bind (wpAny_of_eq (a := (.builtin "list.append", some (.ref a), some (.type "list"))) rfl ?_)
 simp only [not_told]
 refine wpAny_bind ?_
 show wpAny _ _ (do
  let b ← isInstance (.ref a) (.type ((kfb_private% "ownerAndName") "list.append").1)
  (if (!b) = true then _ else pure PUnit.unit : Sem PUnit)) _ _ s
 rw [owner_la]
 refine wpAny_bind (wpAny_isInstance hT sub_list ?_)
 refine wpAny_pure ?_
 show wpAny _ _ (do ret (← newFields "builtin_function_or_method" [.builtin "list.append", .ref a])) _ _ s
 exact wpAny_bind (wpAny_newObj_type (wpAny_pure h))
theorem code_md_get {prog : Program} {w : World} {A : Around} {R : Result → Shared → Prop} {s : Shared} (a : Addr) (hT : s.TypeIs (.ref a) "list") (h : R (.ok (.ret (.ref s.heap.objs.size))) { s with heap := s.heap.push (bmO "list.append" a) }) :
  codeAny (model prog w) A (.call (.builtin "method_descriptor.__get__") ⟨[.builtin "list.append", .ref a, .type "list"], []⟩) R s :=
 codeAny_call_builtin slot_md_get.plain entry_md_get (slot_md_get.check _ _ _ _ _ _ _ _ F.type_list_append (args_md_get _ _ _) (meets_md_get a prog w _ _ _ ⟨hT, h⟩))
theorem md_no_set : typeLookup (.type "method_descriptor") (Str.ofString "__set__") = pure none := by rw [typeLookup_type, builtinLookup_eq_fast]; kernel_rfl
theorem md_no_delete : typeLookup (.type "method_descriptor") (Str.ofString "__delete__") = pure none := by rw [typeLookup_type, builtinLookup_eq_fast]; kernel_rfl
theorem meets_getattribute_append (a : Addr) (u : Tok) :
  Meets (Builtin.«object.__getattribute__» ⟨[.ref a, .str (Str.ofString "append") u], []⟩) (fun A R s => (∃ vs n, s.heap.get? a = some (lstO vs n)) ∧ R (.ok (.ret (.ref s.heap.objs.size))) { s with heap := s.heap.push (bmO "list.append" a) }) :=
 Meets.of_wp fun prog w A R s hs => by
  obtain ⟨hp, g, d, tk, os⟩ := s
  obtain ⟨⟨vs, n, hx⟩, h⟩ := hs
  have hT : (⟨hp, g, d, tk, os⟩ : Shared).TypeIs (.ref a) "list" := ⟨_, hx, rfl⟩
  have f1 := F.slot_list_append.lookup
  have f2 := slot_md_get.lookup
  have f3 := F.type_list_append
  have f4 := md_no_set
  have f5 := md_no_delete
  unfold Builtin.«object.__getattribute__»
  repeat (any_goals (first | assumption | wp_step))
  exact code_md_get a hT (wpAny_pure ⟨_, rfl, h⟩)
theorem getAttr_append {prog : Program} {w : World} {A : Around} {E : Value → Shared → Prop} {s : Shared} {a : Addr} {vs : List Value} {n : Nat} {Q : Value → Shared → Prop} (hx : s.heap.get? a = some (lstO vs n))
  (h : ∀ tk, Q (.ref s.heap.objs.size) { s with heap := s.heap.push (bmO "list.append" a), toks := tk }) : wpAny (model prog w) A (getAttr (.ref a) (Str.ofString "append") true) Q E s := by
 obtain ⟨hp, g, d, tk, os⟩ := s
 have hT : ∀ tk', (⟨hp, g, d, tk', os⟩ : Shared).TypeIs (.ref a) "list" := fun _ => ⟨_, hx, rfl⟩
 have f3 := F.slot_list_getattribute.lookup
 have f4 := F.slot_list_getattribute.bind (.ref a)
 have f5 := am_list_getattr_none
 unfold getAttr getAttrBy
 repeat (any_goals (first | assumption | exact hT _ | ((with_reducible show wpAny _ _ (call (Value.builtin "list.__getattribute__") _ _) _ _ _); refine call_meets F.slot_list_getattribute (hT _) am_entry_list_getattribute (F.args_list_getattribute_2 _ _) (meets_getattribute_append a _) ⟨⟨_, _, hx⟩, ?_⟩) | wp_step))
 exact wpAny_pure (h _)
theorem callWith_bm {prog : Program} {w : World} {A : Around} {E : Value → Shared → Prop} {s : Shared} {id : String} {b : Addr} {pos : Pos} {u : Addr} {args : List (Bool × Sem Value)} {Q : Value → Shared → Prop} (hplain : args.any (·.1) = false)
  (h : wpAny (model prog w) A (evalArgs (.ref u) true args []) (fun x s₁ => s₁.heap.get? u = some (bmO id b) ∧ wpAny (model prog w) A (call (.ref u) x.pos x.kw) Q E s₁) E s) : wpAny (model prog w) A (callWith pos (.ref u) [] args []) Q E s := by
 unfold callWith
 refine wpAny_bind (wpAny_holding (wpAny_mono h (fun x s₁ h₁ => wpAny_bind (wpAny_standAt ?_)) fun _ _ x => x))
 obtain ⟨ho, hcall⟩ := h₁
 simp only [hplain, List.any_nil, Bool.or_false]
 refine wpAny_bind (m := keeperOf (.ref u)) ?_
 unfold keeperOf
 refine wpAny_bind (wpAny_load ho ?_)
 simp only [show (Value.type "builtin_function_or_method" != Value.type "method") = true by decide, show (Value.type "builtin_function_or_method" == Value.type "builtin_function_or_method" || Value.type "builtin_function_or_method" == Value.type "method-wrapper") = true by decide, if_true]
 refine wpAny_pure ?_
 exact wpAny_bind (wpAny_mono hcall (fun r s₂ hr => wpAny_bind (wpAny_holding (wpAny_point (wpAny_pure hr)))) fun _ _ x => x)
theorem kind_la : builtinKind "list.append" = some .method := by decide +kernel
theorem sub_list_module : isSubtype (.type "list") (.type "module") = pure false := by rw [isSubtype_type]; kernel_rfl
theorem sub_list_type : isSubtype (.type "list") (.type "type") = pure false := by rw [isSubtype_type]; kernel_rfl
theorem check_la {M : Model} {A : Around} {E : Value → Shared → Prop} {s : Shared} {a : Addr} {v : Value} {Q : Unit → Shared → Prop} {o : Obj} (ho : s.heap.get? a = some o) (hc : o.cls = .type "list") (hdat : ∃ vs n, o.data = .seq vs n) (h : Q () s) : wpAny M A (checkBoundCall "list.append" ⟨[.ref a, v], []⟩) Q E s := by
 have f1 := kind_la
 have f2 := sub_list_module
 have f3 := sub_list_type
 unfold checkBoundCall
 rw [signature?_of (id := "list.append") (n := ['d', 'n', 'e', 'p', 'p', 'a']) (o := ['t', 's', 'i', 'l']) (by kernel_rfl) F.owner_list]
 have hT : s.TypeIs (.ref a) "list" := ⟨o, ho, hc⟩
 obtain ⟨vs, n, hdat⟩ := hdat
 repeat (any_goals (first | assumption | wp_step))
theorem call_bm_append {prog : Program} {w : World} {A : Around} {E : Value → Shared → Prop} {s : Shared} {u a : Addr} {v : Value} {vs : List Value} {n : Nat} {Q : Value → Shared → Prop} (ho : s.heap.get? u = some (bmO "list.append" a)) (e : s.heap.get? a = some (lstO vs n)) (hz : vs.length < sizeLine)
  (h : Q .none { s with heap := s.heap.update a (Obj.mapSeq fun x => x.push v) }) : wpAny (model prog w) A (call (.ref u) [v]) Q E s := by
 refine wpAny_call (codeAny_of_tree ?_)
 show wpAny _ A.in1 (callAny (.ref u) ⟨[v], []⟩) _ _ s
 simp only [callAny]
 refine wpAny_bind (wpAny_load ho ?_)
 simp only [show (Value.type "builtin_function_or_method" == Value.type "method" || Value.type "builtin_function_or_method" == Value.type "builtin_function_or_method" || Value.type "builtin_function_or_method" == Value.type "method-wrapper") = true by decide, if_true]
 show wpAny _ _ (do checkBoundCall "list.append" ⟨[.ref a, v], []⟩; again (Code.builtin "list.append" ⟨[.ref a, v], []⟩)) _ _ s
 refine wpAny_bind (check_la e rfl ⟨_, _, rfl⟩ ?_)
 refine wpAny_pure ?_
 exact ⟨Code.quiet_builtin _ (by decide +kernel), codeAny_builtin F.entry_list_append (by rw [Around.under_plainId F.slot_list_append.plain]; exact list_append a vs.toArray n v (by simpa using Nat.le_of_lt hz) prog w A (fun r s' => match r with | .ok (.ret v) => Q v s' | .ok _ => False | .error e => E e s') s ⟨e, h⟩)⟩
section
variable {K : Ktx} {d : Nat} {env : Env} {nm : List Str}
def pBm (P : PE) : PE := fun ρ σ Q X => P ρ σ (fun o σ₁ => ∃ a l, o = .ref a ∧ σ₁ a = some (.list l) ∧ Q (.bm "list.append" a) σ₁) X
theorem RefE.bound {x name : Str} {p pos : Pos} {P : PE} (h : RefE K d env nm (.Name x p) P) (hn : name = Str.ofString "append" := by rfl) : RefE K d env nm (.Attribute (.Name x p) name pos) (pBm P) := fun A ρ σ s Q X rm F pp => by
 subst hn
 refine Attribute_name (wpAny_mono (h A ρ σ s _ X rm F pp) ?_ fun _ _ h => h)
 rintro v s₁ ⟨m, σ₁, r, I₁, st₁, a, l, rfl, hl, q⟩
 cases r.ref_inv
 obtain ⟨vs, n, e, _⟩ := I₁.sto _ _ hl
 refine getAttr_append e fun tk => ?_
 have k : ∀ b o, s₁.heap.get? b = some o → (s₁.heap.push (bmO "list.append" a)).get? b = some o := fun b o g => Heap.get?_push_of_some _ g
 exact PostE.from st₁ ⟨_, σ₁, .bm (Heap.get?_push_size _ rfl), I₁.grow k, .grow k, q⟩
def pCallBm (i : Nat) (R : PA) : PE := fun ρ σ Q X => ∃ a, ρ i = some (.bm "list.append" a) ∧ R ρ σ (fun ms σ₁ => mAppend (.ref a) ms σ₁ Q X) X
set_option tactic.hygienic true
theorem RefE.callBm {x : Str} {p pos : Pos} {e : Expr} {rest : List Expr} {i : Nat} {R : PA} (h : RefA K d env nm (e :: rest) R) (hi : nm[i]? = some x := by rfl) (hl : env.kindOf x = some .local := by rfl) (hk : env.scope.kind = .function := by rfl) (hd : (x == ("__debug__" : Str)) = false := by decide)
  (he : starEach (e :: rest) env = (false, eval e env) :: starEach rest env := by exact star_cons rfl _ _) (hplain : (backTo pos (starEach rest env)).any (·.1) = false := by exact star_any rfl _ _) :
  RefE K d env nm (.Call (.Name x p) (e :: rest) [] pos) (pCallBm i R) := fun A ρ σ s Q X rm F pp => by
 obtain ⟨a, ha, pp⟩ := pp
 obtain ⟨f, hn, hv⟩ := F.ns
 obtain ⟨v, h1, h2⟩ := hv i x _ hi hl ha
 cases h2 with
 | bm hb =>
  rename_i u
  refine wpAny_Call_NameR (wpAny_Name (wpAny_loadName_local hk hl hn h1 ?_) hd)
  have hh := h A ρ σ s _ X pos rm F pp
  rw [he] at hh ⊢
  refine callWith_bm (id := "list.append") (b := a) (by show (false || (backTo pos (starEach rest env)).any (·.1)) = false; rw [hplain]; rfl) (evalArgs_plain (wpAny_mono hh ?_ fun _ _ h => h))
  rintro vs s₁ ⟨ms, σ₁, rs, I₁, st₁, a', l, m, e1, rfl, hl', hz, q⟩
  cases e1
  obtain ⟨w, rfl, rw'⟩ := rs.one
  have hb' := st₁.firm F.inv u _ (.inr (.inl ⟨_, _, rfl⟩)) hb
  refine ⟨hb', ?_⟩
  obtain ⟨ws, n, e, rws, _⟩ := I₁.sto _ _ hl'
  refine call_bm_append hb' e (by rw [rws.length]; exact hz) ?_
  obtain ⟨J, st⟩ := turn_list (f := fun x => x.push w) (vs' := ws ++ [w]) (l' := l ++ [m]) (tk := s₁.toks) I₁ hl' e (by simp) (rws.append (.cons rw' .nil)) (by simp; lia)
  exact ⟨.none, _, .none, J, st₁.trans st, q⟩
set_option tactic.hygienic false
end
theorem mro_object : mroOf (.type "object") = pure [.type "object"] := by rw [mroOf_type]; kernel_rfl
theorem lookup_object_new : typeLookup (.type "object") "__new__" = pure (some (.builtin "object.__new__")) := by rw [typeLookup_type, builtinLookup_eq_fast]; kernel_rfl
theorem called_object : TypeCalled "object" "object.__new__" "object.__init__" :=
 ⟨by decide +kernel, by decide +kernel, ⟨_, _, mro_object⟩, madeBy_type mro_object lookup_object_new (by decide +kernel), by decide +kernel, by rw [isSubtype_type]; kernel_rfl, F.slot_object_init⟩
theorem typeCall_object_0 : checkTypeCall "object" ⟨[], []⟩ = pure () := by kernel_rfl
theorem newCall_object_0 : checkBuiltinCall "object.__new__" ⟨[.type "object"], []⟩ = pure () := by kernel_rfl
noncomputable abbrev plainO : Obj := { cls := .type "object", data := .plain }
theorem isType_object : isType (.type "object") = pure true := by first | rfl | kernel_rfl
theorem meets_object_new : Meets (Builtin.«object.__new__» ⟨[.type "object"], []⟩) (fun A R s => R (.ok (.ret (.ref s.heap.objs.size))) { s with heap := s.heap.push plainO }) :=
 Meets.of_wp fun prog w A R s h => by
  have f1 := isType_object
  have f2 := called_object.made
  have f3 := called_object.sub
  unfold Builtin.«object.__new__»
  repeat (any_goals (first | assumption | wp_step))
  exact ⟨_, rfl, h⟩
theorem entry_object_new : entryFor table "object.__new__" = some Builtin.«object.__new__» := entryFor_of_tree (by kernel_rfl)
theorem init_object {self : Value} : Meets (Builtin.«object.__init__» ⟨[self], []⟩) (fun _ R s => R (.ok (.ret .none)) s) := Meets.of_wp fun prog w A R s h => wpAny_pure ⟨_, rfl, h⟩
theorem call_object {prog : Program} {w : World} {A : Around} {E : Value → Shared → Prop} {s : Shared} {Q : Value → Shared → Prop} (h : Q (.ref s.heap.objs.size) { s with heap := s.heap.push plainO }) : wpAny (model prog w) A (call (.type "object") []) Q E s := by
 refine callType_meets (Q₁ := fun v s' => v = .ref s.heap.objs.size ∧ s' = { s with heap := s.heap.push plainO }) called_object typeCall_object_0 newCall_object_0 entry_object_new F.entry_object_init meets_object_new ⟨rfl, rfl⟩ ?_
 rintro obj s₁ ⟨rfl, rfl⟩
 exact ⟨⟨_, Heap.get?_push_size _ rfl, rfl⟩, F.args_object_init_1 _, _, init_object, rfl, h⟩
section
variable {K : Ktx} {d : Nat} {env : Env} {nm : List Str}
def pObj : PE := fun _ σ Q _ => ∀ a, σ a = none → Q (.ref a) σ
theorem RefE.obj {x : Str} {p pos : Pos} (G : GName K x (.type "object"))
  (hx : env.kindOf x = some .globalImplicit := by rfl) (hk : env.scope.kind = .function := by rfl) (hg : env.globals = mainGlobals := by rfl) (hb : env.builtins = builtinsNs := by rfl) (hdb : (x == ("__debug__" : Str)) = false := by decide) :
  RefE K d env nm (.Call (.Name x p) [] [] pos) pObj := fun A ρ σ s Q X rm F pp => by
 refine wpAny_Call_NameR (load_global F.inv G ?_ hk hx hg hb hdb)
 refine PySem.callWith_type rfl (PySem.evalArgs_none ?_)
 show wpAny K.M A (call (.type "object") []) _ _ s
 have k : ∀ b o, s.heap.get? b = some o → (s.heap.push plainO).get? b = some o := fun b o g => Heap.get?_push_of_some _ g
 exact call_object ⟨_, σ, .ref _, F.inv.grow (tk := s.toks) k, .grow (tk := s.toks) k, pp _ (F.inv.offNew (none_of_ge (Nat.le_refl _))).1⟩
def pIsStr (P : PE) : PE := fun ρ σ Q X => P ρ σ (fun m σ₁ => ∃ x, m = .str x ∧ Q (.bool true) σ₁) X
theorem RefE.isStr {f y : Str} {p p2 pos : Pos} {e : Expr} {P : PE} (G : GName K f (.builtin "isinstance")) (G2 : GName K y (.type "str")) (h : RefE K d env nm e P)
  (hx : env.kindOf f = some .globalImplicit := by rfl) (hy : env.kindOf y = some .globalImplicit := by rfl) (hk : env.scope.kind = .function := by rfl) (hg : env.globals = mainGlobals := by rfl) (hb : env.builtins = builtinsNs := by rfl) (hdb : (f == ("__debug__" : Str)) = false := by decide) (hdb2 : (y == ("__debug__" : Str)) = false := by decide) (he : plainE e = true := by rfl) :
  RefE K d env nm (.Call (.Name f p) [e, .Name y p2] [] pos) (pIsStr P) := fun A ρ σ s Q X rm F pp => by
 refine wpAny_Call_NameR (load_global F.inv G ?_ hk hx hg hb hdb)
 rw [star_cons he, star_cons (by rfl)]
 refine callWith_builtin rfl (evalArgs_plain (spliced_cons (wpAny_mono (h A ρ σ s _ X rm F pp) ?_ fun _ _ h => h)))
 rintro v s₁ ⟨m, σ₁, r, I₁, st₁, x, rfl, q⟩
 obtain ⟨t, rfl⟩ := r.str_inv
 refine spliced_cons (load_global I₁ G2 (spliced_nil ?_) hk hy hg hb hdb2)
 show wpAny K.M A (call (.builtin "isinstance") [_, _]) _ _ s₁
 exact IsiPair.str_str (PostE.from st₁ (postE_now I₁ (.bool true) q))
end
theorem sub_KeyError_Lookup : isSubtype (.type "KeyError") (.type "LookupError") = pure true := by rw [isSubtype_type]; kernel_rfl
section
variable {prog : Program} {w : World} {A : Around} {E : Value → Shared → Prop} {s : Shared}
theorem tl_hit {d : Addr} {kvs : List (Int × Value)} {c : Nat} {x : Str} {t : Tok} {Q : Mapped → Shared → Prop} (hm : s.heap.DictOf (intKind prog w) d kvs) (hv : valueAt kvs c = some (.str x t)) (h : ∀ tk, Q (.text x) { s with toks := tk }) :
  wpAny (model prog w) A (tableLookup (.ref d) c) Q E s := by
 unfold tableLookup
 refine wpAny_bind (wpAny_attempt ?_)
 refine wpAny_bind (wpAny_mkInt ?_)
 refine wpAny_getItem_of (s := { s with toks := s.toks + 1 }) (knd := intKind prog w) (k := (c : Int)) (by simp [intKind, Value.isInt]) hm.mapOf hv ?_
 exact wpAny_pure (h _)
theorem tl_miss {d : Addr} {kvs : List (Int × Value)} {c : Nat} {Q : Mapped → Shared → Prop} (hA : A.handled = none) (hd : (d == sysModules) = false) (hm : s.heap.DictOf (intKind prog w) d kvs) (hv : valueAt kvs c = none)
  (h : ∀ h' tk, (∀ b o, s.heap.get? b = some o → h'.get? b = some o) → Q .keep { s with heap := h', toks := tk }) :
  wpAny (model prog w) A (tableLookup (.ref d) c) Q E s := by
 unfold tableLookup
 refine wpAny_bind (wpAny_attempt ?_)
 refine wpAny_bind (wpAny_mkInt ?_)
 refine wpAny_getItem_missing_of (s := { s with toks := s.toks + 1 }) (knd := intKind prog w) (k := (c : Int)) (by simp [intKind, Value.isInt]) hd hA hm.mapOf hv fun h' e N => ?_
 obtain ⟨ob, t, e', hc, hd'⟩ := N.there
 refine wpAny_bind (wpAny_isInstance (v := .ref e) (T := "KeyError") ⟨_, e', hc⟩ sub_KeyError_Lookup ?_)
 show wpAny _ _ (do rule "str.translate.not-in-table"; pure Mapped.keep) _ _ _
 exact wpAny_bind (wpAny_rule (wpAny_pure (h _ _ N.keeps)))
end
theorem meets_tr_hit {prog : Program} {w : World} {d : Addr} {kvs : List (Int × Value)} {c : Nat} {x : Str} {t u : Tok} (hc : c < 128) (hx : x.length = 2) (hv : valueAt kvs c = some (.str x u)) :
  MeetsIn prog w (Builtin.«str.translate» ⟨[.str ⟨#[c]⟩ t, .ref d], []⟩) (fun A R s => A.handled = none ∧ s.heap.DictOf (intKind prog w) d kvs ∧ ∀ t' tk, R (.ok (.ret (.str x t'))) { s with toks := tk }) :=
 .of_wp fun A R s ⟨hA, hm, h⟩ => by
  have h1 : decide (c < 128) = true := by simpa using hc
  have hx1 : (x.length == 1) = false := by rw [hx]; rfl
  unfold Builtin.«str.translate»
  repeat (any_goals (first | assumption | ((with_reducible show wpAny _ _ (tableLookup _ _) _ _ _); refine tl_hit hm hv fun tk => ?_) | wp_step))
  simp only [hx1, Bool.false_and, Bool.false_eq_true, if_false]
  repeat (any_goals (first | assumption | ((with_reducible show wpAny _ _ (tableLookup _ _) _ _ _); refine tl_hit hm hv fun tk => ?_) | wp_step))
  have hl : tooLong (0 + x.length) = false := by rw [hx]; decide
  show wpAny _ _ (if tooLong (0 + x.length) = true then _ else retStr ⟨#[] ++ x.cps⟩) _ _ _
  rw [hl]
  have hxx : (⟨#[] ++ x.cps⟩ : Str) = x := Str.ext' (by simp)
  rw [hxx]
  show wpAny _ _ (retStr x) _ _ _
  have hz : x.length ≤ sizeLine := by rw [hx]; decide
  exact wpAny_bind (wpAny_mkStr (wpAny_pure ⟨_, rfl, h _ _⟩) hz)
theorem meets_tr_miss {prog : Program} {w : World} {d : Addr} {kvs : List (Int × Value)} {c : Nat} {t : Tok} (hd : (d == sysModules) = false) (hc : c < 128) (hv : valueAt kvs c = none) :
  MeetsIn prog w (Builtin.«str.translate» ⟨[.str ⟨#[c]⟩ t, .ref d], []⟩) (fun A R s => A.handled = none ∧ s.heap.DictOf (intKind prog w) d kvs ∧ ∀ h' t' tk, (∀ b o, s.heap.get? b = some o → h'.get? b = some o) → R (.ok (.ret (.str ⟨#[c]⟩ t'))) { s with heap := h', toks := tk }) :=
 .of_wp fun A R s ⟨hA, hm, h⟩ => by
  have hA' : A.in1.handled = none := hA
  have h1 : decide (c < 128) = true := by simpa using hc
  unfold Builtin.«str.translate»
  repeat (any_goals (first | assumption | ((with_reducible show wpAny _ _ (tableLookup _ _) _ _ _); refine tl_miss hA' hd hm hv fun h' tk k => ?_) | wp_step))
  exact ⟨_, rfl, h _ _ _ k⟩
noncomputable def specials : List Nat := [40, 41, 91, 93, 123, 125, 63, 42, 43, 45, 124, 94, 36, 92, 46, 38, 126, 35, 32, 9, 10, 13, 11, 12]
def SpecK (K : Ktx) : Prop := ∃ kvs, K.h0.DictOf (intKind K.prog K.w) 66 kvs ∧ (∀ c : Nat, c ∈ specials → ∃ t, valueAt kvs c = some (.str (toS [92, c]) t)) ∧ ∀ c : Nat, c ∉ specials → valueAt kvs c = none
section
variable {K : Ktx} {d : Nat} {env : Env} {nm : List Str}
def pTrl (P : PE) : PE := fun ρ σ Q X => P ρ σ (fun m σ₁ => ∃ c : Nat, m = .str [c] ∧ c < 128 ∧ Q (.str (if c ∈ specials then [92, c] else [c])) σ₁) X
theorem RefE.trl {x y name : Str} {p5 p6 p7 pos : Pos} {P : PE} (SK : SpecK K) (G : GName K y (.ref 66)) (h : RefE K d env nm (.Name x p5) P) (hn : name = Str.ofString "translate" := by rfl)
  (hy : env.kindOf y = some .globalImplicit := by rfl) (hk : env.scope.kind = .function := by rfl) (hg : env.globals = mainGlobals := by rfl) (hb : env.builtins = builtinsNs := by rfl) (hdb : (y == ("__debug__" : Str)) = false := by decide)
  (hbase : attributeBase (.Name x p5) name env (eval (.Name x p5) env) = eval (.Name x p5) env := by rfl)
  (hline : (p6.endLine == pos.line) = true := by rfl) :
  RefE K d env nm (.Call (.Attribute (.Name x p5) name p6) [.Name y p7] [] pos) (pTrl P) := fun A ρ σ s Q X rm F pp => by
 subst hn
 refine wpAny_Call_method_late hbase rfl hline rfl (wpAny_mono (h A ρ σ s _ X rm F pp) ?_ fun _ _ h => h)
 rintro v s₁ ⟨m, σ₁, r, I₁, st₁, c, rfl, hc, q⟩
 obtain ⟨t, rfl⟩ := r.str_inv
 refine ⟨"str", "str.translate", PySem.F.plainAttrs_str, PySem.F.slot_str_translate, PySem.F.type_str_translate, typeIs_str _ _ _, fun a e => (by cases e), ?_⟩
 rw [star_cons (by rfl)]
 refine callWith_builtin rfl (evalArgs_plain (spliced_cons (load_global I₁ G (spliced_nil ?_) hk hy hg hb hdb)))
 obtain ⟨kvs, hD, hs, hns⟩ := SK
 have hD' : s₁.heap.DictOf (intKind K.prog K.w) 66 kvs := by obtain ⟨o, es, ep, e, r⟩ := hD; exact ⟨o, es, ep, I₁.old _ _ e, r⟩
 by_cases hm : c ∈ specials
 ·obtain ⟨u, hv⟩ := hs c hm
  rw [if_pos hm] at q
  exact call_meetsIn PySem.F.slot_str_translate (typeIs_str _ _ _) PySem.F.entry_str_translate (PySem.F.args_str_translate_2 _ _) (meets_tr_hit hc rfl hv) ⟨rm.1, hD', fun t' tk => PostE.from st₁ (postE_tok I₁ (.str _ _) q)⟩
 ·rw [if_neg hm] at q
  exact call_meetsIn PySem.F.slot_str_translate (typeIs_str _ _ _) PySem.F.entry_str_translate (PySem.F.args_str_translate_2 _ _) (meets_tr_miss (by decide) hc (hns c hm)) ⟨rm.1, hD', fun h' t' tk k => ⟨_, σ₁, .str _ _, I₁.grow k, st₁.trans (.grow k), q⟩⟩
end
structure NestK (K : Ktx) : Prop where
 code : CodeHd K.h0 82 78
 bi : ∃ mg, K.h0.Ns mainGlobals mg ∧ K.h0.BuiltinsAt mg 78
 lim : K.h0.NoLimit
section
variable {K : Ktx}
set_option tactic.hygienic true
theorem genexpr_code {A : Around} {E : Value → Shared → Prop} {σ : Sto} {s : Shared} {env : Env} {pos : Pos} {qn : Str} {scope : Scope} {Q : Value → Shared → Prop} (N : NestK K) (I : SInv K σ s) (hc : env.code = .ref 82) (ht : σ 78 = some .tab)
  (q : ∀ code s', SInv K σ s' → Stp [] σ s σ s' → (∀ b o, b ≠ 78 → s.heap.get? b = some o → s'.heap.get? b = some o) → s'.gens = s.gens → Q code s') : wpAny K.M A (genexprCode env pos qn scope) Q E s := by
 obtain ⟨ps, hP, hT⟩ := I.sto _ _ ht
 have C : CodeHd s.heap 82 78 := N.code.keeps I.old
 cases hf : codeAmong pos ps.toList with
 | some cv => exact wpAny_genexprCode_hit hc (C.code hP hT) hf (q _ s I (.refl ..) (fun _ _ _ e => e) rfl)
 | none =>
  refine wpAny_genexprCodeX hc (C.code hP hT) (C.tab hP) hf fun c' h' tk hx hge hlt hic hrec htb _ => ?_
  have e : put σ 78 .tab = σ := by
   funext b; unfold put; split
   ·rename_i h; rw [h, ht]
   ·rfl
  have hTr : TriplesOk (ps ++ #[rawInt pos.line, rawInt pos.col, .ref c']).toList := by
   obtain ⟨_, _, _, _, _, _, _, _, _, op, _, _, _, _, _, _, _, hop, hpd, htr, _⟩ := hic
   have := htb.2
   rw [this] at hop; cases hop
   cases hpd; exact htr
  have J := I.turn (tk := tk) hx ht (mo' := .tab) ⟨_, htb.2, hTr⟩
  have st := Stp.turn (own := []) (s := s) (tk := tk) (mo' := .tab) hx ht
  rw [e] at J st
  exact q _ _ J st hx rfl
set_option tactic.hygienic false
variable {d : Nat} {env : Env} {nm : List Str}
def pJoinGen (sep : List Nat) (i : Nat) : PE := fun ρ σ Q X => ∃ a, ρ i = some (.ref a) ∧ σ a = some (.list [.str []]) ∧ σ 78 = some .tab ∧ Q (.str []) σ
theorem replace_empty {prog : Program} {w : World} {A : Around} {E : Value → Shared → Prop} {s : Shared} {c : Nat} {z : Str} {t u v : Tok} {Q : Value → Shared → Prop} (e : (occurrences (toS []) (toS [c]) 0 (toS []).length ((toS []).length + 1)).isEmpty = true) (h : Q (.str (toS []) t) s) :
  wpAny (model prog w) A (call (.builtin "str.replace") [.str (toS []) t, .str (toS [c]) u, .str z v]) Q E s := by
 refine call_gives F.slot_str_replace (typeIs_str _ _ _) F.entry_str_replace (F.args_str_replace_3 _ _ _) (gives_str_replace _ _ _ t u v fun q => ?_) ?_
 ·rw [e] at q; simp at q
 ·rw [e]; exact h
theorem elt_quiet {prog : Program} {w : World} {A : Around} {E : Value → Shared → Prop} {s : Shared} {cenv : Env} {m : Str → Option Value} {x b1 b2 b3 b4 n1 n2 : Str} {k1 k2 k3 k4 : Nat} {p0 p1 p2 p3 p4 p5 p6 p7 pos : Pos} {t : Tok}
  (hn : s.heap.Ns cenv.locals m) (hx : m x = some (.str (toS []) t)) (hl : cenv.kindOf x = some .local) (hk : cenv.scope.kind = .function) (hd : (x == ("__debug__" : Str)) = false) (c1 : b1 = toS [92]) (c3 : b3 = toS [45]) (e1 : n1 = Str.ofString "replace") (e2 : n2 = Str.ofString "replace")
  (hb1 : attributeBase (.Name x p0) n1 cenv (eval (.Name x p0) cenv) = eval (.Name x p0) cenv) (hl1 : (p1.endLine == p4.line) = true) (hl2 : (p5.endLine == pos.line) = true)
  (hb2 : attributeBase (.Call (.Attribute (.Name x p0) n1 p1) [.Constant (.str b1) k1 p2, .Constant (.str b2) k2 p3] [] p4) n2 cenv (eval (.Call (.Attribute (.Name x p0) n1 p1) [.Constant (.str b1) k1 p2, .Constant (.str b2) k2 p3] [] p4) cenv) = eval (.Call (.Attribute (.Name x p0) n1 p1) [.Constant (.str b1) k1 p2, .Constant (.str b2) k2 p3] [] p4) cenv) :
  wpAny (model prog w) A (eval (.Call (.Attribute (.Call (.Attribute (.Name x p0) n1 p1) [.Constant (.str b1) k1 p2, .Constant (.str b2) k2 p3] [] p4) n2 p5) [.Constant (.str b3) k3 p6, .Constant (.str b4) k4 p7] [] pos) cenv) (fun y s₃ => (∃ t, y = .str (toS []) t) ∧ Keeps s s₃) E s := by
 subst c1; subst c3; subst e1; subst e2
 refine wpAny_Call_method_late hb2 rfl hl2 rfl ?_
 refine wpAny_Call_method_late hb1 rfl hl1 rfl (wpAny_Name (wpAny_loadName_local hk hl hn hx ?_) hd)
 refine ⟨"str", "str.replace", PySem.F.plainAttrs_str, PySem.F.slot_str_replace, PySem.F.type_str_replace, typeIs_str _ _ _, fun a e => (by cases e), ?_⟩
 refine callWith_builtin rfl (evalArgs_plain (spliced_cons (wpAny_Constant_str (k := k1) (pos := p2) (spliced_cons (wpAny_Constant_str (k := k2) (pos := p3) (spliced_nil ?_))))))
 refine replace_empty (by decide +kernel) ?_
 refine ⟨"str", "str.replace", PySem.F.plainAttrs_str, PySem.F.slot_str_replace, PySem.F.type_str_replace, typeIs_str _ _ _, fun a e => (by cases e), ?_⟩
 refine callWith_builtin rfl (evalArgs_plain (spliced_cons (wpAny_Constant_str (k := k3) (pos := p6) (spliced_cons (wpAny_Constant_str (k := k4) (pos := p7) (spliced_nil ?_))))))
 refine replace_empty (by decide +kernel) ?_
 exact ⟨⟨t, rfl⟩, s.heap, _, rfl, fun _ _ e => e⟩
theorem RefE.joinGen {x y sep name b1 b2 b3 b4 n1 n2 : Str} {ls : List Nat} {i : Nat} {k k1 k2 k3 k4 : Nat} {q0 q1 q2 q3 p0 p1 p2 p3 p4 p5 p6 p7 gpos epos pos : Pos} {scope : Scope} (N : NestK K) (hc : env.code = .ref 82)
  (hsep : sep = toS ls) (hls : ls.length ≤ 10) (hname : name = Str.ofString "join") (c1 : b1 = toS [92]) (c3 : b3 = toS [45]) (e1 : n1 = Str.ofString "replace") (e2 : n2 = Str.ofString "replace")
  (hi : nm[i]? = some y) (hl : env.kindOf y = some .local) (hk : env.scope.kind = .function) (hd : (y == ("__debug__" : Str)) = false)
  (hg : env.globals = mainGlobals) (hb : env.builtins = builtinsNs)
  (hbase : attributeBase (.Constant (.str sep) k q0) name env (eval (.Constant (.str sep) k q0) env) = eval (.Constant (.str sep) k q0) env) (hline : (q1.endLine == pos.line) = true)
  (hco : scope.isCoroutine = false) (hclos : closureFor scope env = pure []) (hcell : ∀ y ∈ scope.names, y.2 ≠ .cell) (h0 : scope.names.lookup (".0" : Str) = some NameKind.local)
  (hx : scope.names.lookup x = some .local) (hkind : scope.kind = .function) (hdx : (x == ("__debug__" : Str)) = false)
  (hl1 : (p1.endLine == p4.line) = true) (hl2 : (p5.endLine == epos.line) = true)
  (hb1 : ∀ cenv, attributeBase (.Name x p0) n1 cenv (eval (.Name x p0) cenv) = eval (.Name x p0) cenv)
  (hb2 : ∀ cenv, attributeBase (.Call (.Attribute (.Name x p0) n1 p1) [.Constant (.str b1) k1 p2, .Constant (.str b2) k2 p3] [] p4) n2 cenv (eval (.Call (.Attribute (.Name x p0) n1 p1) [.Constant (.str b1) k1 p2, .Constant (.str b2) k2 p3] [] p4) cenv) = eval (.Call (.Attribute (.Name x p0) n1 p1) [.Constant (.str b1) k1 p2, .Constant (.str b2) k2 p3] [] p4) cenv)
  (hs : ∀ x, genFold (.Name y q2) env x = pure x) :
  RefE K d env nm (.Call (.Attribute (.Constant (.str sep) k q0) name q1) [.GeneratorExp (.Call (.Attribute (.Call (.Attribute (.Name x p0) n1 p1) [.Constant (.str b1) k1 p2, .Constant (.str b2) k2 p3] [] p4) n2 p5) [.Constant (.str b3) k3 p6, .Constant (.str b4) k4 p7] [] epos) [⟨.Name x q3, .Name y q2, [], 0⟩] scope gpos] [] pos) (pJoinGen ls i) := fun A ρ σ s Q X rm F pp => by
 subst hsep; subst hname
 obtain ⟨a, ha, hla, ht, q⟩ := pp
 refine wpAny_Call_method_late hbase rfl hline rfl (wpAny_Constant_str ?_)
 have F₁ : FInv K env nm ρ A σ { s with toks := s.toks + 1 } := F.grow (h' := s.heap) fun _ _ e => e
 have st₁ : Stp [] σ s σ { s with toks := s.toks + 1 } := .grow (h' := s.heap) fun _ _ e => e
 refine ⟨"str", "str.join", PySem.F.plainAttrs_str, PySem.F.slot_str_join, PySem.F.type_str_join, typeIs_str _ _ _, fun a e => (by cases e), ?_⟩
 refine callWith_builtin rfl (evalArgs_plain ?_)
 show wpAny K.M A (spliced [(false, eval _ env)]) _ _ _
 generalize hs1 : ({ s with toks := s.toks + 1 } : Shared) = s1 at *
 refine spliced_cons ?_
 have hroom : A.depth < recursionLimit := by have := rm.2.1; unfold recursionLimit; lia
 obtain ⟨f, hns, hv⟩ := F₁.ns
 obtain ⟨v, e1', r⟩ := hv i y _ hi hl ha
 cases r.ref_inv
 obtain ⟨vs, n, hvs, rvs, _⟩ := F₁.inv.sto _ _ hla
 obtain ⟨v0, rfl, rv0⟩ := rvs.one
 obtain ⟨t0, rfl⟩ := rv0.str_inv
 obtain ⟨mg, hmg, hbi⟩ := N.bi
 refine wpAny_GeneratorExp_walksQD (cl := []) rm.1 hco hclos hcell h0 hx hkind hroom (wpAny_Name (wpAny_loadName_local hk hl hns e1' ?_) hd) hs
 refine wpAny_pyIter_list (items := #[Value.str (toS []) t0]) ⟨_, hvs, rfl, n, rfl⟩ ?_
 have kI : ∀ b o, s1.heap.get? b = some o → (s1.heap.push { cls := .type "list_iterator", data := .fields #[.ref a, .int 0 0] }).get? b = some o := fun b o e => Heap.get?_push_of_some _ e
 have I2 := F₁.inv.grow (tk := s1.toks) kI
 have st2 : Stp [] σ s1 σ { s1 with heap := s1.heap.push { cls := .type "list_iterator", data := .fields #[.ref a, .int 0 0] } } := .grow (tk := s1.toks) kI
 refine ⟨N.lim.keeps fun b o e => I2.old b o e, ?_⟩
 refine genexpr_code N I2 hc ht fun code s3 I3 st3 k3 hg3 => ?_
 obtain ⟨bm, ob, hbm, hne0, _, hneP, hbo, hcls, hdict, hdata⟩ := hbi
 rw [hg]
 refine wpAny_builtinsFor (hmg.keeps fun b o e => I3.old b o e) hbm hne0 (I3.old _ _ hbo) hcls hdict hdata ?_
 have hIne : a ≠ s1.heap.objs.size := fun q => by have := Heap.lt_size hvs; rw [q] at this; exact Nat.lt_irrefl _ this
 have hI78 : s1.heap.objs.size ≠ 78 := fun q => by
  obtain ⟨o, e, _⟩ := (F₁.inv.sto _ _ ht).there
  have := Heap.lt_size e; rw [q] at this; exact Nat.lt_irrefl _ this
 have ha78 : a ≠ 78 := fun q => by rw [q, ht] at hla; cases hla
 have hL3 : s3.heap.IsList a #[Value.str (toS []) t0] := ⟨_, k3 _ _ ha78 (kI _ _ hvs), rfl, n, rfl⟩
 have hIt3 : s3.heap.IsListIter s1.heap.objs.size a 0 := ⟨_, k3 _ _ hI78 (Heap.get?_push_size _ rfl), rfl, rfl⟩
 refine ⟨s1.heap.objs.size, _, _, _, _, _, fun _ => true, fun i v => ∃ t, v = .str (toS []) t, rfl, fun A' hA' => Walks.list hA' _ a hIne #[Value.str (toS []) t0], ⟨hIt3, hL3⟩, ?_, N.lim.keeps fun b o e => I3.old b o e, ?_, ?_, ?_⟩
 ·intro b hb
  rcases List.mem_cons.mp hb with rfl | hb
  ·obtain ⟨_, e, _⟩ := hIt3; exact Heap.lt_size e
  ·rw [List.mem_singleton.mp hb]; obtain ⟨_, e, _⟩ := hL3; exact Heap.lt_size e
 ·intro hm
  have hcs := List.mem_singleton.mp hm
  obtain ⟨_, ⟨_, _, _, hn, _⟩, _⟩ := N.lim
  have := Heap.lt_size (F₁.inv.old _ _ hn)
  rw [← hcs] at this; exact Nat.lt_irrefl _ this
 ·intro href hrf
  refine ⟨fun A' E' i v s₂ m₂ hA' _ _ hP hn2 hm2 _ => wpAny_pure ⟨rfl, s₂.heap, s₂.toks, rfl, fun _ _ e => e⟩, fun A' E' i v s₂ m₂ hA' _ _ hP _ hn2 hm2 _ => ?_⟩
  have hv0 : v = .str (toS []) t0 := by
   have := (Array.getElem?_eq_some_iff.mp hP).1
   have h00 : i = 0 := by simpa using this
   subst h00; simpa using hP.symm
  subst hv0
  exact elt_quiet hn2 hm2 (by simp [genEnv, Env.kindOf, hx]) hkind hdx c1 c3 e1 e2 (hb1 _) hl1 hl2 (hb2 _)
 ·intro a' h₅ tk gs hbare hlt hsz k5 W G0
  refine spliced_nil ?_
  show wpAny K.M A (call (.builtin "str.join") [.str (toS ls) _, .ref a']) _ _ _
  refine SC.joinGen W.in4_2 (fun i s g => g.1.typeIs) G0 (fun b hb => ?_) (List.mem_cons_self ..) (fun i v hv => ?_) (fun s' l hm hit => ?_) (by show (passing (fun _ => true) 1 0).length ≤ sizeLine; decide)
  ·show b < h₅.objs.size
   rw [hsz]
   rcases List.mem_cons.mp hb with rfl | hb
   ·exact Nat.lt_succ_self _
   ·rcases List.mem_cons.mp hb with rfl | hb
    ·exact Nat.lt_succ_of_lt hlt
    ·exact Nat.lt_succ_of_lt (Nat.lt_trans (List.mem_range.mp hb) hlt)
  ·obtain ⟨j, _, t, rfl⟩ := hv; exact ⟨_, _, rfl⟩
  ·have hl1 : l.length = 1 := by
    have := hit.1
    rw [show (passing (fun _ => true) (#[Value.str (toS []) t0] : Array Value).size 0).length = 1 from rfl] at this
    simpa [strValues] using this
   obtain ⟨⟨y, u⟩, rfl⟩ : ∃ z, l = [z] := by
    match l, hl1 with
    | [z], _ => exact ⟨z, rfl⟩
   have hy : y = toS [] := by
    obtain ⟨j, _, t, e⟩ := hit.2 0 (.str y u) rfl
    injection e
   subst hy
   refine ⟨joinOk_of (by simp [Str.length]; lia), fun t' k => ?_⟩
   show PostE K σ s Q (.str (toS []) t') _
   have keep : ∀ b o, s3.heap.get? b = some o → b ≠ s1.heap.objs.size → s'.heap.get? b = some o := fun b o e hb => by
    refine hm.heap b o ?_ (k5 b o e)
    intro hmem
    rcases List.mem_cons.mp hmem with rfl | hmem
    ·exact Nat.lt_irrefl _ (Heap.lt_size e)
    ·exact hb (List.mem_singleton.mp hmem)
   have new1 : s1.heap.get? s1.heap.objs.size = Option.none := none_of_ge (Nat.le_refl _)
   have inS : ∀ b o, s1.heap.get? b = some o → b ≠ s1.heap.objs.size := fun b o e q => Nat.ne_of_lt (Heap.lt_size e) q
   have keepS : ∀ b o, K.h0.get? b = some o → s'.heap.get? b = some o := fun b o e => keep b o (I3.old b o e) (inS b o (F₁.inv.old b o e))
   have sts : Stp [] σ s σ s3 := (st₁.trans st2).trans st3
   have hI : SInv K σ { s' with toks := k } := by
    refine ⟨keepS, F₁.inv.apart, fun b mo e => ?_, ?_, ?_⟩
    ·refine (I3.sto b mo e).at (fun o g => keep b o g ?_) (fun b o fo g => keep b o g fun q => ?_)
     ·obtain ⟨o', e', _⟩ := (F₁.inv.sto b mo e).there; exact inS b o' e'
     ·subst q
      obtain ⟨o2, g2, hc2, _⟩ := hIt3
      rw [g] at g2; cases g2
      rcases fo with ⟨_, _, rfl⟩ | ⟨_, _, rfl⟩ | ⟨_, _, _, _, _, _, rfl⟩ <;> simp at hc2
    ·exact hm.os.trans I3.os
    ·refine hm.gens.bare fun y hy => ?_
     rcases Array.mem_push.mp hy with hy | rfl
     ·exact I3.bare y hy
     ·exact hbare
   refine ⟨.str [], σ, .str [] t', hI, ⟨fun b o e hσ _ => ?_, fun b o e hσ _ => hσ, fun g x e => ?_⟩, q⟩
   ·obtain ⟨o3, e3, h3⟩ := sts.keep b o e hσ (by simp)
    exact ⟨o3, keep b o3 e3 (inS b o (by rw [← hs1]; exact e)), h3⟩
   ·have e3 := sts.gens g x e
    have hlt3 := (Array.getElem?_eq_some_iff.mp e3).1
    have e4 : (s3.gens.push gs)[g]? = some x := by rw [Array.getElem?_push_lt hlt3]; exact (Array.getElem?_eq_getElem hlt3).symm.trans e3
    rcases hm.gens with hq | hq
    ·show s'.gens[g]? = some x
     rw [hq]; exact e4
    ·show s'.gens[g]? = some x
     rw [hq.1.2 g (Nat.ne_of_lt hlt3)]; exact e4
end
end Mine
end
section
namespace Mine
open PySem PySem.Calls PyProof.Rows PySem.W PySem.SeqAt PySem.MeetsSeq PySem.Builtin PySem.Builtin.Str PySem.Builtin.Re
noncomputable def turnsT : Nat → Sre.M → Sre.M
 | 0, m => m
 | k + 1, m => if (m.runFor reTurnSteps).outcome.isSome then m.runFor reTurnSteps else turnsT k (m.runFor reTurnSteps)
theorem drive_of {M : Model} {A : Around} {E : Value → Shared → Prop} {s : Shared} {Q : Sre.M → Shared → Prop} : ∀ (k n : Nat) (m : Sre.M), k ≤ n → 0 < k → (turnsT k m).outcome.isSome = true → Q (turnsT k m) s → wpAny M A (reDrive n m) Q E s
 | 0, _, _, _, h, _, _ => absurd h (Nat.lt_irrefl _)
 | k + 1, 0, _, h, _, _, _ => by omega
 | k + 1, n + 1, m, h, _, ho, q => by
  unfold reDrive
  unfold turnsT at ho q
  show wpAny _ _ (if (m.runFor reTurnSteps).outcome.isSome = true then pure (m.runFor reTurnSteps) else (do rule "sre.turn"; reDrive n (m.runFor reTurnSteps))) _ _ _
  cases hm : (m.runFor reTurnSteps).outcome.isSome with
  | true => rw [hm] at q; exact wpAny_pure q
  | false =>
   rw [hm] at q ho
   simp only [Bool.false_eq_true, if_false] at q ho ⊢
   have hk : 0 < k := by
    rcases Nat.eq_zero_or_pos k with rfl | hk
    ·unfold turnsT at ho; rw [hm] at ho; cases ho
    ·exact hk
   exact wpAny_bind (wpAny_rule (drive_of k n _ (by walk_at "q") hk ho q))
theorem rules_any {M : Model} {A : Around} {E : Value → Shared → Prop} {s : Shared} {Q : Unit → Shared → Prop} (f : Nat → Bool) (g : Nat → String) (q : Q () s) : ∀ l : List Nat, wpAny M A (forIn l PUnit.unit fun i _ => if f i = true then do rule (g i); pure (ForInStep.yield PUnit.unit) else pure (ForInStep.yield PUnit.unit)) Q E s
 | [] => wpAny_pure q
 | i :: l => by
  rw [List.forIn_cons]
  refine wpAny_bind ?_
  cases f i with
  | true => exact wpAny_bind (wpAny_rule (wpAny_pure (rules_any f g q l)))
  | false => exact wpAny_pure (rules_any f g q l)
theorem run_fails {M : Model} {A : Around} {E : Value → Shared → Prop} {s : Shared} {Q : Option Sre.M → Shared → Prop} (k : Nat) (m : Sre.M) (hk : 0 < k ∧ k ≤ 2 ^ 64) (h : (turnsT k m).outcome = some .failed) (q : Q none s) : wpAny M A (reRunToEnd m) Q E s := by
 unfold reRunToEnd
 refine wpAny_bind (drive_of k _ m hk.2 hk.1 (by rw [h]; rfl) ?_)
 refine wpAny_bind (rules_any (fun i => (turnsT k m).seen.has i) (fun i => Sre.names.getD i "") ?_ _)
 rw [h]
 exact wpAny_pure q
noncomputable def codeW : Array Nat := #[14, 14, 4, 1, 1, 9, 0, 64, 0, 1342177280, 0, 0, 0, 0, 0, 17, 0, 13, 11, 9, 0, 64, 0, 1342177280, 0, 0, 0, 0, 0, 17, 1, 1]
noncomputable def noHit (x : List Nat) : Bool := match (turnsT 60 (Sre.forSearch codeW x.toArray 1 0 x.length false)).outcome with | some .failed => true | _ => false
theorem noHit_spec {x : List Nat} (h : noHit x = true) : (turnsT 60 (Sre.forSearch codeW x.toArray 1 0 x.length false)).outcome = some .failed := by
 unfold noHit at h; split at h
 ·assumption
 ·cases h
theorem plainAttrs_Pattern : PlainAttrs "re.Pattern" :=
 ⟨⟨"object.__getattribute__", by rw [typeLookup_type, builtinLookup_eq_fast]; kernel_rfl, by decide +kernel⟩, by rw [typeLookup_type, builtinLookup_eq_fast]; kernel_rfl⟩
theorem slot_Pattern_sub : Slot "re.Pattern" "sub" "re.Pattern.sub" :=
 .of (owner := "re.Pattern") (n := "sub") (by rw [typeLookup_type, builtinLookup_eq_fast]; kernel_rfl) (by decide +kernel) (by decide +kernel) (by decide +kernel)
  (by first | exact .inl (by decide +kernel) | exact .inr (by decide +kernel)) (by rw [isSubtype_type]; kernel_rfl)
theorem type_Pattern_sub : typeOf (.builtin "re.Pattern.sub") = pure (.type "method_descriptor") := by show builtinType _ = _; rw [builtinType_eq_fast]; kernel_rfl
theorem entry_Pattern_sub : entryFor table "re.Pattern.sub" = some Builtin.«re.Pattern.sub» := entryFor_of_tree (by kernel_rfl)
theorem entry_sub_loop : entryFor table "re.Pattern.sub.loop" = some Builtin.«re.Pattern.sub.loop» := entryFor_of_tree (by kernel_rfl)
theorem args_Pattern_sub (a b c : Value) : argsOk "re.Pattern.sub" ⟨[a, b, c], []⟩ := by unfold argsOk; kernel_rfl
section
variable {K : Ktx}
set_option tactic.hygienic true
theorem function_code {A : Around} {E : Value → Shared → Prop} {σ : Sto} {s : Shared} {env : Env} {pos : Pos} {fl : Nat} {nm0 qn : Str} {p : Arguments} {body : FuncBody} {scope : Scope} {Q : Value → Shared → Prop} (N : NestK K) (I : SInv K σ s) (hc : env.code = .ref 82) (ht : σ 78 = some .tab)
  (q : ∀ code s', SInv K σ s' → Stp [] σ s σ s' → Q code s') : wpAny K.M A (functionCode env pos fl nm0 qn p scope body) Q E s := by
 obtain ⟨ps, hP, hT⟩ := I.sto _ _ ht
 have C : CodeHd s.heap 82 78 := N.code.keeps I.old
 cases hf : codeAmong pos ps.toList with
 | some cv => exact wpAny_functionCode_hit hc (C.code hP hT) hf (q _ s I (.refl ..))
 | none =>
  refine wpAny_functionCodeX hc (C.code hP hT) (C.tab hP) hf fun c' h' tk hx hge hlt hic hrec htb _ => ?_
  have e : put σ 78 .tab = σ := by
   funext b; unfold put; split
   ·rename_i h; rw [h, ht]
   ·rfl
  have hTr : TriplesOk (ps ++ #[rawInt pos.line, rawInt pos.col, .ref c']).toList := by
   obtain ⟨_, _, _, _, _, _, _, _, _, op, _, _, _, _, _, _, _, hop, hpd, htr, _⟩ := hic
   have := htb.2
   rw [this] at hop; cases hop
   cases hpd; exact htr
  have J := I.turn (tk := tk) hx ht (mo' := .tab) ⟨_, htb.2, hTr⟩
  have st := Stp.turn (own := []) (s := s) (tk := tk) (mo' := .tab) hx ht
  rw [e] at J st
  exact q _ _ J st
set_option tactic.hygienic false
theorem lambda_ok {A : Around} {E : Value → Shared → Prop} {σ : Sto} {s : Shared} {env : Env} {pos : Pos} {args : Arguments} {body : Expr} {scope : Scope} {Q : Value → Shared → Prop} (N : NestK K) (I : SInv K σ s) (hc : env.code = .ref 82) (ht : σ 78 = some .tab)
  (hdef : defaultsOf args env = ([], [])) (hclos : closureFor scope env = pure []) (hg : env.globals = mainGlobals)
  (q : ∀ f fd s', SInv K σ s' → Stp [] σ s σ s' → s'.heap.get? f = some { cls := .type "function", data := .func fd } → Q (.ref f) s') : wpAny K.M A (eval (.Lambda args body scope pos) env) Q E s := by
 rw [arm_eval_Lambda, hdef]
 refine wpAny_bind (wpAny_pure ?_)
 refine wpAny_bind (wpAny_holding (wpAny_pure ?_))
 rw [makeFunction_eq]
 simp only [List.zip_nil_right, List.filterMap_nil, List.isEmpty_nil, if_true, pure_bind]
 unfold makeTail
 rw [hclos, hg]
 refine wpAny_bind (wpAny_pure ?_)
 simp only [List.isEmpty_nil, if_true]
 refine wpAny_bind (wpAny_pure ?_)
 refine wpAny_bind (function_code N I hc ht fun code s1 I1 st1 => ?_)
 obtain ⟨mg, hmg, bm, ob, hbm, hne0, _, hneP, hbo, hcls, hdict, hdata⟩ := N.bi
 have hmg1 := hmg.keeps fun b o e => I1.old b o e
 refine wpAny_bind (wpAny_builtinsFor hmg1 hbm hne0 (I1.old _ _ hbo) hcls hdict hdata ?_)
 refine wpAny_bind (wpAny_nsGet hmg1 ?_)
 refine wpAny_bind (wpAny_pure (wpAny_newObj_type ?_))
 have k : ∀ o b ob, s1.heap.get? b = some ob → (s1.heap.push o).get? b = some ob := fun o b ob e => Heap.get?_push_of_some _ e
 exact q _ _ _ (I1.grow (tk := s1.toks) (k _)) (st1.trans (.grow (tk := s1.toks) (k _))) (Heap.get?_push_size _ rfl)
end
noncomputable def patObj (p : Str) (t1 t2 : Tok) : Obj := { cls := .type "re.Pattern", data := .fields #[.str p t1, .int 32 t2, .int 1 0, .none, .none, .ref 56, .int 0 0] }
def PatAt (h : Heap) : Prop := (∃ p t1 t2, h.get? 57 = some (patObj p t1 t2)) ∧ ∃ n, h.get? 56 = some (tupO (codeW.toList.map fun (k : Nat) => Value.int (k : Int) 0) n)
noncomputable abbrev tgt (x : List Nat) (t : Tok) : ReTarget := { pattern := .ref 57, string := .str (toS x) t, code := codeW, text := x.toArray, kind := 0, groups := 1, pos := 0, lim := x.toArray.size }
theorem whole_target {M : Model} {A : Around} {E : Value → Shared → Prop} {s : Shared} {x : List Nat} {t : Tok} {Q : ReTarget → Shared → Prop} (P : PatAt s.heap) (q : Q (tgt x t) s) : wpAny M A (reWholeTarget (.ref 57) (.str (toS x) t)) Q E s := by
 obtain ⟨⟨p, t1, t2, h1⟩, n, h2⟩ := P
 unfold reWholeTarget reTextOf
 refine wpAny_bind (wpAny_fieldsOf h1 rfl ?_)
 repeat (any_goals (first | assumption | wp_step))
 have e : Array.map (fun x => Int.toNat x) (Array.map reRawOf ((some (List.map (fun (k : Nat) => Value.int (k : Int) 0) codeW.toList).toArray).getD #[])) = codeW := by decide +kernel
 rw [e]
 exact q
noncomputable def loopArgs (x : List Nat) (t : Tok) (f l : Addr) : List Value := [.ref 57, .str (toS x) t, .ref f, rawInt 1, rawInt 0, rawInt 0, rawInt 0, rawInt 0, .bool false, .ref l, .bool false]
theorem tree_loop {prog : Program} {w : World} {A : Around} {s : Shared} {x : List Nat} {t : Tok} {f l : Addr} {P : Fin → Shared → Prop} {E : Value → Shared → Prop} (hp : PatAt s.heap) (hl : s.heap.get? l = some (lstO [] 0)) (h57 : l ≠ 57) (h56 : l ≠ 56) (hz : x.length ≤ 1000) (hn : noHit x = true)
  (h : ∀ h' t' tk, Heap.ExtBut l s.heap h' → P (.done (.ret (.str (toS x) t'))) { s with heap := h', toks := tk }) :
  wpAny (model prog w) A (Builtin.«re.Pattern.sub.loop» ⟨loopArgs x t f l, []⟩) P E s := by
 unfold Builtin.«re.Pattern.sub.loop» loopArgs
 refine wpAny_bind (whole_target hp ?_)
 have hf : ∀ (Q : Option Sre.M → Shared → Prop), Q none s → wpAny (model prog w) A (reNextFound (tgt x t) 0 false) Q E s := fun Q q => run_fails 60 (Sre.forSearch codeW x.toArray 1 0 x.length false) ⟨by decide, by decide⟩ (noHit_spec hn) q
 repeat (any_goals (first | assumption | ((with_reducible show wpAny _ _ (reNextFound _ _ _) _ _ _); refine hf _ ?_) | wp_step))
 have tail : ∀ (s' : Shared) (ys : List (List Nat)) (items : Array Value) (n : Nat), s'.heap.get? l = some { cls := .type "list", data := .seq items n } → StrsAre items.toList (ys.map toS) → joinL [] ys = x → ys.length ≤ 1 → Heap.ExtBut l s.heap s'.heap → s'.gens = s.gens → s'.drawn = s.drawn → s'.os = s.os →
   wpAny (model prog w) A (do
    let joiner ← reSlice (tgt x t).text (tgt x t).kind 0 0
    let __do_lift ← seqItems? (Value.ref l)
    have __do_jp : Value → Sem PySem.Fin := fun text =>
     if false = true then do
      let __do_lift ← holding [text] do
        let __do_lift ← mkInt 0
        newTuple [text, __do_lift]
      ret __do_lift
     else ret text
    if (__do_lift.getD #[]).isEmpty = true then do
      let text ← pure joiner
      __do_jp text
     else do
      let text ← call (Value.builtin (if ((tgt x t).kind == 0) = true then "str.join" else "bytes.join")) [joiner, Value.ref l]
      __do_jp text) P E s' := by
  intro s' ys items n e hi hj hy hx eg ed eo
  refine wpAny_bind ?_
  show wpAny _ _ (mkStr ⟨x.toArray.extract 0 0⟩) _ _ _
  have ee : (⟨x.toArray.extract 0 0⟩ : Str) = toS [] := Str.ext' (by simp)
  rw [ee]
  refine wpAny_mkStr ?_ (by decide)
  unfold seqItems?
  refine wpAny_bind (wpAny_bind (wpAny_load (s := { s' with toks := s'.toks + 1 }) e ?_))
  refine wpAny_pure ?_
  have fin : ∀ t' tk, P (.done (.ret (.str (toS x) t'))) { s' with toks := tk } := fun t' tk => by
   have := h s'.heap t' tk hx
   obtain ⟨h1, g1, d1, k1, o1⟩ := s'
   simp only at eg ed eo
   subst eg; subst ed; subst eo
   exact this
  cases ys with
  | nil =>
   have hit : items = #[] := by cases hi' : items.toList with
    | nil => exact Array.toList_eq_nil_iff.mp hi'
    | cons a b => rw [hi'] at hi; cases hi
   subst hit
   show wpAny _ _ (do let text ← pure (Value.str (toS []) _); ret text) _ _ _
   refine wpAny_bind (wpAny_pure (wpAny_pure ?_))
   have hx0 : x = [] := hj.symm
   subst hx0
   exact fin _ _
  | cons y ys =>
   have hit : items.isEmpty = false := by
    cases hi' : items.toList with
    | nil => rw [hi'] at hi; cases hi
    | cons a b =>
     have : items ≠ #[] := fun q => by subst q; cases hi'
     simpa using this
   show wpAny _ _ (if items.isEmpty = true then _ else (do let text ← call (.builtin "str.join") [.str (toS []) _, .ref l]; ret text)) _ _ _
   rw [hit]
   refine wpAny_bind (join_list (D := l) (items := items) (ys := (y :: ys).map toS) ⟨_, e, rfl, n, rfl⟩ hi ?_ fun t' k => ?_)
   ·have hlen : ys = [] := by simpa using hy
    subst hlen
    have : y = x := hj
    subst this
    simp [Str.length]; lia
   ·rw [show (toS [] : Str) = toS [] from rfl, toS_join, hj]
    exact wpAny_pure (fin _ _)
 cases hx0 : decide (Int.toNat 0 < (tgt x t).lim) with
 | false =>
  rw [if_neg (by simpa using hx0)]
  have : x = [] := by simpa using hx0
  exact tail s [] #[] 0 hl .nil this.symm (by decide) (fun _ _ _ e => e) rfl rfl rfl
 | true =>
  rw [if_pos (by simpa using hx0)]
  refine wpAny_bind ?_
  show wpAny _ _ (mkStr ⟨x.toArray.extract 0 x.toArray.size⟩) _ _ _
  have ee : (⟨x.toArray.extract 0 x.toArray.size⟩ : Str) = toS x := Str.ext' (by simp)
  rw [ee]
  refine wpAny_mkStr ?_ (by simp [Str.length]; exact Nat.le_trans hz (by decide))
  refine wpAny_bind (wpAny_updateSeq (s := { s with toks := s.toks + 1 }) hl rfl ?_ (by decide) (by simp))
  have hs : Heap.ExtBut l s.heap (s.heap.update l (Obj.mapSeq fun z => z.push (.str (toS x) s.toks))) := fun b o hb g => (Heap.get?_update_other _ _ (Ne.symm hb)).trans g
  exact tail _ [x] #[.str (toS x) s.toks] _ (IsL.update (items := #[]) hl (fun z => z.push (.str (toS x) s.toks))) (.cons _ _ .nil) rfl (Nat.le_refl 1) hs rfl rfl rfl
theorem code_loop {prog : Program} {w : World} {A : Around} {s : Shared} {R : Result → Shared → Prop} {x : List Nat} {t : Tok} {f l : Addr} (hp : PatAt s.heap) (hl : s.heap.get? l = some (lstO [] 0)) (h57 : l ≠ 57) (h56 : l ≠ 56) (hz : x.length ≤ 1000) (hn : noHit x = true)
  (h : ∀ h' t' tk, Heap.ExtBut l s.heap h' → R (.ok (.ret (.str (toS x) t'))) { s with heap := h', toks := tk }) : codeAny (model prog w) A (.builtin "re.Pattern.sub.loop" ⟨loopArgs x t f l, []⟩) R s :=
 codeAny_builtin entry_sub_loop (by rw [Around.under_plainId (by decide +kernel)]; exact tree_loop hp hl h57 h56 hz hn h)
theorem fn_call : typeLookup (.type "function") (Str.ofString "__call__") = pure (some (.builtin "function.__call__")) := by rw [typeLookup_type, builtinLookup_eq_fast]; kernel_rfl
theorem sub_str_bytearray : isSubtype (.type "str") (.type "bytearray") = pure false := by rw [isSubtype_type]; kernel_rfl
theorem meets_sub {prog : Program} {w : World} {x : List Nat} {t : Tok} {f : Addr} (hz : x.length ≤ 1000) (hn : noHit x = true) :
  MeetsIn prog w (Builtin.«re.Pattern.sub» ⟨[.ref 57, .ref f, .str (toS x) t], []⟩) (fun A R s => PatAt s.heap ∧ (∃ fd, s.heap.get? f = some { cls := .type "function", data := .func fd }) ∧ ∀ h' t' tk, (∀ b o, s.heap.get? b = some o → h'.get? b = some o) → R (.ok (.ret (.str (toS x) t'))) { s with heap := h', toks := tk }) := by
 intro A R s ⟨hp, ⟨fd, hf⟩, h⟩
 unfold Builtin.«re.Pattern.sub» reSubstitute
 refine wpAny_bind (wpAny_of_eq (a := [some (.ref f), some (.str (toS x) t), none]) rfl ?_)
 refine wpAny_bind (wpAny_pure ?_)
 have f1 := fn_call
 have f2 := sub_str_bytearray
 have hT : s.TypeIs (.ref f) "function" := ⟨_, hf, rfl⟩
 refine wpAny_bind ?_
 unfold specialOf
 refine wpAny_bind (wpAny_typeOf hT (wpAny_of_eq f1 ?_))
 show wpAny _ _ (do
  let (repl, way) ← (pure (Value.ref f, (1 : Int)) : Sem (Value × Int))
  let _ ← holding [repl] (reWholeTarget (.ref 57) (.str (toS x) t))
  if way == 1 then reNotHeld "re.Pattern.sub" (.str (toS x) t)
  again (.builtin "re.Pattern.sub.loop" ⟨[.ref 57, .str (toS x) t, repl, rawInt way, rawInt 0, rawInt 0, rawInt 0, rawInt 0, .bool false, ← newList [], .bool false], []⟩)) _ _ s
 refine wpAny_bind (wpAny_pure ?_)
 refine wpAny_bind (wpAny_holding (whole_target hp ?_))
 show wpAny _ _ (do
  reNotHeld "re.Pattern.sub" (.str (toS x) t)
  let l ← newList []
  again (.builtin "re.Pattern.sub.loop" ⟨[.ref 57, .str (toS x) t, .ref f, rawInt 1, rawInt 0, rawInt 0, rawInt 0, rawInt 0, .bool false, l, .bool false], []⟩)) _ _ s
 unfold reNotHeld
 refine wpAny_bind (wpAny_bind (wpAny_isInstance (v := .str (toS x) t) (T := "str") (typeIs_str _ _ _) f2 ?_))
 refine wpAny_pure ?_
 refine wpAny_bind (wpAny_newList ?_)
 refine wpAny_pure ⟨Code.quiet_builtin _ (by decide +kernel), ?_⟩
 have k : ∀ b o, s.heap.get? b = some o → (s.heap.push (lstO [] 0)).get? b = some o := fun b o e => Heap.get?_push_of_some _ e
 obtain ⟨⟨p, t1, t2, h1⟩, n, h2⟩ := hp
 refine code_loop ⟨⟨p, t1, t2, k _ _ h1⟩, n, k _ _ h2⟩ (Heap.get?_push_size _ rfl) (fun q => ?_) (fun q => ?_) hz hn (fun h' t' tk hx => h h' t' tk fun b o e => hx b o (Nat.ne_of_lt (Heap.lt_size e)) (k b o e))
 ·have := Heap.lt_size h1; rw [q] at this; exact Nat.lt_irrefl _ this
 ·have := Heap.lt_size h2; rw [q] at this; exact Nat.lt_irrefl _ this
section
variable {K : Ktx} {d : Nat} {env : Env} {nm : List Str}
def pSub (i : Nat) : PE := fun ρ σ Q X => ∃ x, ρ i = some (.str x) ∧ x.length ≤ 1000 ∧ noHit x = true ∧ σ 78 = some .tab ∧ Q (.str x) σ
theorem RefE.sub {x y name : Str} {i : Nat} {p1 p2 p3 p4 pos : Pos} {args : Arguments} {body : Expr} {scope : Scope} (N : NestK K) (hpat : PatAt K.h0) (G : GName K y (.ref 57)) (hn : name = Str.ofString "sub" := by rfl) (hc : env.code = .ref 82 := by rfl)
  (hi : nm[i]? = some x := by rfl) (hl : env.kindOf x = some .local := by rfl) (hd : (x == ("__debug__" : Str)) = false := by decide)
  (hy : env.kindOf y = some .globalImplicit := by rfl) (hk : env.scope.kind = .function := by rfl) (hg : env.globals = mainGlobals := by rfl) (hb : env.builtins = builtinsNs := by rfl) (hdb : (y == ("__debug__" : Str)) = false := by decide)
  (hdef : defaultsOf args env = ([], []) := by rfl) (hclos : closureFor scope env = pure [] := by rfl)
  (hbase : attributeBase (.Name y p1) name env (eval (.Name y p1) env) = eval (.Name y p1) env := by rfl)
  (hline : (p2.endLine == pos.line) = true := by rfl) :
  RefE K d env nm (.Call (.Attribute (.Name y p1) name p2) [.Lambda args body scope p3, .Name x p4] [] pos) (pSub i) := fun A ρ σ s Q X rm F pp => by
 subst hn
 obtain ⟨l, hx, hz, hno, ht, q⟩ := pp
 refine wpAny_Call_method_late hbase rfl hline rfl (load_global F.inv G ?_ hk hy hg hb hdb)
 obtain ⟨⟨p, t1, t2, h1⟩, n, h2⟩ := hpat
 refine ⟨"re.Pattern", "re.Pattern.sub", plainAttrs_Pattern, slot_Pattern_sub, type_Pattern_sub, ⟨_, F.inv.old _ _ h1, rfl⟩, fun a e => (by cases e; exact ⟨_, F.inv.old _ _ h1, rfl⟩), ?_⟩
 refine callWith_builtin rfl (evalArgs_plain ?_)
 show wpAny K.M A (spliced [(false, eval (.Lambda args body scope p3) env), (false, eval (.Name x p4) env)]) _ _ _
 refine spliced_cons (lambda_ok N F.inv hc ht hdef hclos hg fun f fd s1 I1 st1 hf => ?_)
 have F₁ := F.step I1 st1
 obtain ⟨m, hns, hv⟩ := F₁.ns
 obtain ⟨v, e1, r⟩ := hv i x _ hi hl hx
 obtain ⟨t, rfl⟩ := r.str_inv
 refine spliced_cons (wpAny_Name (wpAny_loadName_local hk hl hns e1 (spliced_nil ?_)) hd)
 show wpAny K.M A (call (.builtin "re.Pattern.sub") [.ref 57, .ref f, .str (toS l) t]) _ _ s1
 exact call_meetsIn slot_Pattern_sub ⟨_, I1.old _ _ h1, rfl⟩ entry_Pattern_sub (args_Pattern_sub _ _ _) (meets_sub hz hno) ⟨⟨⟨p, t1, t2, I1.old _ _ h1⟩, n, I1.old _ _ h2⟩, ⟨fd, hf⟩, fun h' t' tk k => ⟨_, σ, .str l t', I1.grow k, st1.trans (.grow k), q⟩⟩
end
end Mine
end
section
namespace Mine
open PySem PySem.Calls PyProof.Rows PySem.W PySem.SeqAt PySem.MeetsSeq PySem.Builtin PySem.Builtin.Str
section
variable {K : Ktx} {d : Nat} {env : Env} {nm : List Str}
theorem Reps.eraseIdx {h : Heap} {vs : List Value} {ms : List MV} (r : Reps h vs ms) (i : Nat) : Reps h (vs.eraseIdx i) (ms.eraseIdx i) := by
 rw [List.eraseIdx_eq_take_drop_succ, List.eraseIdx_eq_take_drop_succ]
 exact (r.take i).append (r.drop (i + 1))
def sDel (O I : PE) : PS := fun ρ σ Q X => O ρ σ (fun o σ₁ => I ρ σ₁ (fun i σ₂ => ∃ (a : Addr) (l : List MV) (k : Nat), o = .ref a ∧ i = .int k ∧ σ₂ a = some (.list l) ∧ k < l.length ∧ Q .next ρ (put σ₂ a (.list (l.eraseIdx k)))) X) X
theorem RefS.del {o i : Expr} {p pos : Pos} {O I : PE} (ho : RefE K d env nm o O) (hi : RefE K d env nm i I) : RefS K d env nm (.Delete [.Subscript o i p] pos) (sDel O I) := fun A ρ σ s Q X rm F pp => by
 refine wpAny_Delete (wpAny_deleteEach_cons (delete_Subscript ?_))
 refine wpAny_mono (ho A ρ σ s _ X rm F pp) ?_ fun _ _ h => h.up F
 rintro ov s₁ ⟨om, σ₁, ro, I₁, st₁, q⟩
 have F₁ := F.step I₁ st₁
 refine wpAny_mono (hi A ρ σ₁ s₁ _ X rm F₁ q) ?_ fun _ _ h => (h.from st₁).up F
 rintro iv s₂ ⟨im, σ₂, ri, I₂, st₂, a, l, k, rfl, rfl, hl, hk, q⟩
 have ro' := ro.step st₂ I₁
 cases ro'.ref_inv
 obtain ⟨u, rfl⟩ := ri.int_inv
 obtain ⟨vs, n, e, rvs, hz⟩ := I₂.sto _ _ hl
 have hlen := rvs.length
 have es : sizeLine = 16777216 := rfl
 have hkk : k < vs.length := by rw [hlen]; exact hk
 refine P.delItem_list (items := vs.toArray) (n := n) (k := k) e ?_ ?_ ?_ (by simpa [hlen] using hz)
 ·have : (k : Int) < 2 ^ 63 := by omega
  simp [Builtin.List.listFitsIndex]; omega
 ·have h1 : ¬ ((k : Int) < 0) := by omega
  simp [seqIndex?, hkk, h1]
 ·obtain ⟨J, st⟩ := turn_list (f := fun xs => xs.eraseIdxIfInBounds k) (vs' := vs.eraseIdx k) (l' := l.eraseIdx k) (tk := s₂.toks) I₂ hl e (by simp) (rvs.eraseIdx k) (by rw [List.length_eraseIdx]; split <;> omega)
  refine wpAny_deleteEach_nil ?_
  have stt := (st₁.trans st₂).trans st
  exact ⟨.next, ρ, _, .next, F.step J stt, stt.nil, q⟩
end
inductive DStrs : List Expr → List (List Nat) → Prop
 | nil : DStrs [] []
 | cons {c : Nat} {p : Pos} {u : List Nat} {es : List Expr} {us : List (List Nat)} (x : Str) (hx : x = toS u) (h : DStrs es us) : DStrs (.Constant (.str x) c p :: es) (u :: us)
inductive DPairs : List (Option Expr) → List Expr → List (List Nat × List (List Nat)) → Prop
 | nil : DPairs [] [] []
 | cons {c : Nat} {p q : Pos} {k : List Nat} {es : List Expr} {us : List (List Nat)} {ks : List (Option Expr)} {vs : List Expr} {tb : List (List Nat × List (List Nat))} (x : Str) (hx : x = toS k) (h : DStrs es us) (hl : us.length ≤ 100) (hr : DPairs ks vs tb) : DPairs (some (.Constant (.str x) c p) :: ks) (.List es q :: vs) ((k, us) :: tb)
inductive LAt (lo : Nat) (h : Heap) : List (Str × Value) → List (List Nat × List (List Nat)) → Prop
 | nil : LAt lo h [] []
 | cons {k : List Nat} {us : List (List Nat)} {a : Addr} {vals : List Value} {n : Nat} {kvs : List (Str × Value)} {tb : List (List Nat × List (List Nat))} (e : h.get? a = some (lstO vals n)) (r : Reps h vals (us.map .str)) (hl : us.length ≤ 100) (hlo : lo ≤ a) (hr : LAt lo h kvs tb) : LAt lo h ((toS k, .ref a) :: kvs) ((k, us) :: tb)
theorem LAt.keeps {lo : Nat} {h h' : Heap} (k : ∀ b o, h.get? b = some o → h'.get? b = some o) {kvs : List (Str × Value)} {tb : List (List Nat × List (List Nat))} (x : LAt lo h kvs tb) : LAt lo h' kvs tb := by
 induction x with
 | nil => exact .nil
 | cons e r hl hlo hr ih => exact .cons (k _ _ e) (r.keeps k) hl hlo ih
theorem LAt.keys {lo : Nat} {h : Heap} {kvs : List (Str × Value)} {tb : List (List Nat × List (List Nat))} (x : LAt lo h kvs tb) : kvs.map (·.1) = tb.map (fun r => toS r.1) := by
 induction x with
 | nil => rfl
 | cons e r hl hlo hr ih => rw [List.map_cons, List.map_cons, ih]
theorem toS_inj {a b : List Nat} (h : toS a = toS b) : a = b := by injection h with h; simpa using h
theorem LAt.find {lo : Nat} {h : Heap} (x : List Nat) {kvs : List (Str × Value)} {tb : List (List Nat × List (List Nat))} (q : LAt lo h kvs tb) : match tb.lookup x with
  | none => valueAt kvs (toS x) = none
  | some us => ∃ a vals n, valueAt kvs (toS x) = some (.ref a) ∧ h.get? a = some (lstO vals n) ∧ Reps h vals (us.map .str) ∧ us.length ≤ 100 ∧ lo ≤ a := by
 induction q with
 | nil => rfl
 | @cons k us a vals n kvs tb e r hl hlo hr ih =>
  by_cases hk : x = k
  ·subst hk
   rw [List.lookup_cons, beq_self_eq_true]
   exact ⟨a, _, _, by simp [valueAt], e, r, hl, hlo⟩
  ·have h1 : (x == k) = false := by simpa using hk
   have h2 : ¬ (toS k = toS x) := fun q => hk (toS_inj q).symm
   rw [List.lookup_cons, h1]
   have e3 : ∀ v l, valueAt ((toS k, v) :: l) (toS x) = valueAt l (toS x) := fun v l => by unfold valueAt; rw [List.find?_cons_of_neg (by simpa using h2)]
   rw [e3]; exact ih
section
variable {prog : Program} {w : World} {A : Around} {E : Value → Shared → Prop} {env : Env}
theorem strs_walk {pos : Pos} {es : List Expr} {us : List (List Nat)} (x : DStrs es us) : ∀ (s : Shared) (Q : List Value → Shared → Prop), (∀ vals tk, Reps s.heap vals (us.map .str) → Q vals { s with toks := tk }) → wpAny (model prog w) A (spliced (backTo pos (starEach es env))) Q E s := by
 induction x with
 | nil => exact fun s Q h => spliced_nil (h [] s.toks .nil)
 | @cons c p u es us x hx hr ih =>
  intro s Q h
  subst hx
  rw [star_cons rfl]
  refine spliced_cons (wpAny_Constant_str (k := c) (pos := p) ?_)
  exact ih _ _ fun vals tk r => h _ tk (.cons (.str _ _) r)
theorem pairs_walk {pos : Pos} {keys : List (Option Expr)} {values : List Expr} {tb : List (List Nat × List (List Nat))} (x : DPairs keys values tb) : ∀ (lo : Nat) (s : Shared) (Q : List (Value × Value) → Shared → Prop),
  lo ≤ s.heap.objs.size → (∀ ps kvs h' tk, Carries (strKind prog w) ps kvs → LAt lo h' kvs tb → (∀ b o, s.heap.get? b = some o → h'.get? b = some o) → Q ps { s with heap := h', toks := tk }) → wpAny (model prog w) A (evalPairs (pairTrees keys values env pos)) Q E s := by
 induction x with
 | nil => exact fun lo s Q _ h => pairTrees_nil_walk (h [] [] s.heap s.toks trivial .nil fun _ _ e => e)
 | @cons c p q k es us ks vs tb x hx hs hl hr ih =>
  intro lo s Q hlo h
  subst hx
  refine pairTrees_cons_walk (wpAny_Constant_str ?_)
  refine wpAny_List (strs_walk (pos := _) hs _ _ fun vals tk r => ?_)
  refine ⟨by rw [r.length]; simp only [List.length_map]; exact Nat.le_trans hl (by decide), ?_⟩
  refine ih lo _ _ (by rw [Heap.size_push]; exact Nat.le_succ_of_le hlo) fun ps kvs h' tk' hc hla k' => ?_
  have kk : ∀ b o, s.heap.get? b = some o → h'.get? b = some o := fun b o e => k' b o (Heap.get?_push_of_some _ e)
  exact h _ ((toS k, _) :: kvs) h' tk' ⟨strKind_is _ _ _ _, rfl, hc⟩ (.cons (k' _ _ (Heap.get?_push_size _ rfl)) (r.keeps kk) hl hlo hla) kk
end
section
variable {K : Ktx} {d : Nat} {env : Env} {nm : List Str}
noncomputable def signs (tb : List (List Nat × List (List Nat))) (k : List Nat) : List (List Nat) := (tb.lookup k).getD [k]
def pSgn (tb : List (List Nat × List (List Nat))) (i : Nat) : PE := fun ρ σ Q X => ∃ k, ρ i = some (.str k) ∧ ∀ b, σ b = none → Q (.ref b) (put σ b (.list ((signs tb k).map .str)))
theorem RefE.sgn {keys : List (Option Expr)} {values : List Expr} {tb : List (List Nat × List (List Nat))} {x name : Str} {i : Nat} {dpos p1 p2 p3 p4 pos : Pos} (DP : DPairs keys values tb) (hnd : (tb.map (·.1)).Nodup) (hbig : ∃ a o, sysModules < a ∧ K.h0.get? a = some o) (hn : name = Str.ofString "get" := by rfl)
  (hi : nm[i]? = some x := by rfl) (hl : env.kindOf x = some .local := by rfl) (hk : env.scope.kind = .function := by rfl) (hd : (x == ("__debug__" : Str)) = false := by decide)
  (hall : keys.all (·.isSome) = true := by rfl) (hlk : keys.length = values.length := by rfl) (h0 : keys ≠ [] := by simp) (hlen : keys.length ≤ 15 := by decide)
  (hbase : attributeBase (.Dict keys values dpos) name env (eval (.Dict keys values dpos) env) = eval (.Dict keys values dpos) env := by rfl)
  (hline : (p1.endLine == pos.line) = true := by rfl) :
  RefE K d env nm (.Call (.Attribute (.Dict keys values dpos) name p1) [.Name x p2, .List [.Name x p3] p4] [] pos) (pSgn tb i) := fun A ρ σ s Q X rm F pp => by
 subst hn
 obtain ⟨k, hx, q⟩ := pp
 refine wpAny_Call_method_late hbase rfl hline rfl (wpAny_Dict_walk (knd := strKind K.prog K.w) hall hlk h0 hlen (pairs_walk DP s.heap.objs.size _ _ (by rw [Heap.size_push]; exact Nat.le_succ _) fun ps kvs h1 tk1 hc hla k1 => ?_))
 have hfresh : s.heap.get? s.heap.objs.size = Option.none := none_of_ge (Nat.le_refl _)
 refine ⟨kvs, hc, ?_, fun h2 hD hs => ?_⟩
 ·obtain ⟨o, es, ep, e, r⟩ := (Heap.DictOf.new (knd := strKind K.prog K.w) s.heap)
  exact ⟨o, es, ep, k1 _ _ e, r⟩
 have hkn : (kvs.map (·.1)).Nodup := by
  rw [hla.keys, ← Function.comp_def toS (fun r : List Nat × List (List Nat) => r.1), ← List.map_map]
  exact List.pairwise_map.mpr (hnd.imp fun hab h => hab (toS_inj h))
 rw [merged_nil_of_nodup _ hkn] at hD
 have k2 : ∀ b o, s.heap.get? b = some o → h2.get? b = some o := fun b o e => hs.extBut b o (Nat.ne_of_lt (Heap.lt_size e)) (k1 b o (Heap.get?_push_of_some _ e))
 have I2 := F.inv.grow (tk := tk1 + ps.length) k2
 have st2 : Stp [] σ s σ { s with heap := h2, toks := tk1 + ps.length } := .grow k2
 have F2 := F.step I2 st2
 have hO : h2.MapOf (strKind K.prog K.w) s.heap.objs.size _ := hD.mapOf
 refine ⟨"dict", "dict.get", PySem.F.plainAttrs_dict, PySem.F.slot_dict_get, PySem.F.type_dict_get, hD.typeIs (s := { s with heap := h2, toks := tk1 + ps.length }), hO.noDict, ?_⟩
 rw [star_cons (by rfl), star_cons (by rfl)]
 obtain ⟨m, hns, hv⟩ := F2.ns
 obtain ⟨v, e1, r⟩ := hv i x _ hi hl hx
 obtain ⟨t, rfl⟩ := r.str_inv
 refine callWith_builtin rfl (evalArgs_plain (spliced_cons (wpAny_Name (wpAny_loadName_local hk hl hns e1 ?_) hd)))
 refine spliced_cons (wpAny_List ?_)
 rw [star_cons (by rfl)]
 refine spliced_cons (wpAny_Name (wpAny_loadName_local hk hl hns e1 (spliced_nil ⟨by show 1 ≤ sizeLine; decide, spliced_nil ?_⟩)) hd)
 have k3 : ∀ b o, h2.get? b = some o → (h2.push (lstO [.str (toS k) t] 0)).get? b = some o := fun b o e => Heap.get?_push_of_some _ e
 generalize hs3 : ({ s with heap := h2.push (lstO [.str (toS k) t] 0), toks := tk1 + ps.length } : Shared) = s3
 have hh3 : s3.heap = h2.push (lstO [.str (toS k) t] 0) := by rw [← hs3]
 have I3 : SInv K σ s3 := by rw [← hs3]; exact I2.grow (h' := h2.push (lstO [.str (toS k) t] 0)) (tk := tk1 + ps.length) k3
 have st3 : Stp [] σ s σ s3 := by rw [← hs3]; exact st2.trans (.grow (h' := h2.push (lstO [.str (toS k) t] 0)) (tk := tk1 + ps.length) k3)
 have hD3 : s3.heap.DictOf (strKind K.prog K.w) s.heap.objs.size kvs := by
  obtain ⟨o, es, ep, e, r⟩ := hD
  exact ⟨o, es, ep, by rw [hh3]; exact k3 _ _ e, r⟩
 show wpAny K.M A (call (.builtin "dict.get") [.ref s.heap.objs.size, .str (toS k) t, .ref h2.objs.size]) _ _ s3
 have hsm : ((s.heap.objs.size : Addr) == sysModules) = false := by
  obtain ⟨a, o, ha, e⟩ := hbig
  have := Heap.lt_size (F.inv.old _ _ e)
  have : s.heap.objs.size ≠ sysModules := Nat.ne_of_gt (Nat.lt_trans ha this)
  simpa using this
 refine call_meetsIn PySem.F.slot_dict_get hD3.typeIs PySem.F.entry_dict_get (PySem.F.args_dict_get_3 _ _ _) (meets_dict_get_default (strKind K.prog K.w) s.heap.objs.size (k := toS k) (key := .str (toS k) t) (strKind_is _ _ _ _) hsm _) ⟨_, hD3.mapOf, ?_⟩
 have hfd := hla.find k
 have post : ∀ a vals n us, s3.heap.get? a = some (lstO vals n) → Reps s3.heap vals (us.map .str) → s.heap.get? a = Option.none → us.length ≤ 100 → signs tb k = us → PostE K σ s Q (.ref a) { s3 with toks := s3.toks + 1 } := by
  intro a vals n us e r hf hl2 hsg
  have hz : (us.map MV.str).length ≤ sizeLine := by simp only [List.length_map]; exact Nat.le_trans hl2 (by decide)
  have hn := F.inv.offNew hf
  refine ⟨.ref a, put σ a (.list (us.map .str)), .ref a, ⟨fun b o e => I3.old b o e, fun b o e => ?_, fun b mo e' => ?_, I3.os, I3.bare⟩, ⟨fun b o e' h1 h2 => ?_, fun b o e' h1 h2 => ?_, fun g x e => st3.gens g x e⟩, ?_⟩
  ·rw [put_other _ _ (fun z => by rw [z, hn.2] at e; cases e)]; exact I3.apart b o e
  ·by_cases hb : b = a
   ·subst hb; simp at e'; subst e'; exact ⟨vals, n, e, r, hz⟩
   ·rw [put_other _ _ hb] at e'; exact I3.sto b mo e'
  ·exact st3.keep b o e' h1 h2
  ·rw [put_other _ _ (fun z => by rw [z, hf] at e'; cases e')]; exact h1
  ·have := q a hn.1
   rw [hsg] at this; exact this
 cases hc : tb.lookup k with
 | none =>
  rw [hc] at hfd
  rw [hfd]
  refine post _ _ _ [k] (by rw [hh3]; exact Heap.get?_push_size _ rfl) (.cons (.str _ _) .nil) ?_ (by simp) (by unfold signs; rw [hc]; rfl)
  cases e : s.heap.get? h2.objs.size with
  | none => rfl
  | some o => exact absurd (Heap.lt_size (k2 _ _ e)) (Nat.lt_irrefl _)
 | some us =>
  rw [hc] at hfd
  obtain ⟨a, vals, n, e1, e2, r2, hl2, hlo⟩ := hfd
  rw [e1]
  have haD : a ≠ s.heap.objs.size := fun z => by
   subst z
   obtain ⟨o, es, ep, e, hx, hdat, _⟩ := (Heap.DictOf.new (knd := strKind K.prog K.w) s.heap)
   have := k1 _ _ e
   rw [e2] at this; cases this; cases hdat
  have e2' : h2.get? a = some (lstO vals n) := hs.extBut _ _ haD e2
  have kf : ∀ b o, Firm o → h1.get? b = some o → s3.heap.get? b = some o := fun b o f e => by
   rw [hh3]; refine k3 _ _ (hs.extBut _ _ (fun z => ?_) e)
   subst z
   obtain ⟨o2, es, ep, e', hx, hdat, _⟩ := (Heap.DictOf.new (knd := strKind K.prog K.w) s.heap)
   have := k1 _ _ e'
   rw [e] at this; cases this; exact notFirm_dict hdat f
  refine post a vals n us (by rw [hh3]; exact k3 _ _ e2') (r2.mono kf) ?_ hl2 (by unfold signs; rw [hc]; rfl)
  exact none_of_ge hlo
end
end Mine
end
section
namespace Mine
open PySem PySem.W PySem.Calls PyProof.Rows
noncomputable abbrev pw : Program := PySem.Challenge.pw_kl0420_01
noncomputable def Vw (p : Program) : Program := view p [29]
noncomputable def fdOf (p : Program) (k : Nat) (pm : Value) (c : Addr) : Option FuncData := match p.main.body[k]? with
 | some (.FunctionDef n ps b _ _ _ sc _ _ _) => some { name := n, qualname := n, params := ps, body := .stmts b, scope := sc, globals := mainGlobals, closure := [], defaults := .none, kwdefaults := .none, doc := .none, pyModule := pm, code := .ref c, builtins := builtinsNs }
 | _ => none
noncomputable def pmOf : Nat → Value
 | 1 => .str "cpy313.email.utils" 282
 | 2 => .str "cpy313.fnmatch" 316
 | 3 => .str "re" 365
 | 4 => .str "cpy313.fnmatch" 520
 | 5 => .str "cpy313.heapq" 554
 | _ => .str "law_kl0420_01" 598
noncomputable def defsL : List (Addr × Nat × Nat) := [(38, 2, 1), (45, 3, 1), (52, 4, 1), (64, 7, 2), (76, 10, 3), (83, 12, 4), (90, 13, 4), (97, 15, 5), (104, 16, 5), (111, 17, 5), (118, 18, 5), (125, 20, 6), (132, 21, 6), (137, 22, 6), (142, 23, 6), (149, 24, 6), (154, 25, 6), (161, 26, 6), (168, 27, 6), (173, 28, 6), (178, 29, 6)]
noncomputable def funObj (p : Program) (d : Addr × Nat × Nat) : Option Obj := (fdOf p d.2.1 (pmOf d.2.2) (d.1 - 1)).map fun fd => { cls := .type "function", data := .func fd }
noncomputable def namesL : List (Str × Addr) := [("_iter_escaped_chars", 38), ("_strip_quoted_realnames", 45), ("_check_parenthesis", 52), ("translate", 64), ("escape", 76), ("_translate", 83), ("_join_translated_parts", 90), ("heappush", 97), ("heappop", 104), ("_siftdown", 111), ("_siftup", 118), ("_law_item", 125), ("_law_sign", 132), ("_law_units", 137), ("_law_steps", 142), ("_law_taken", 149), ("_law_right", 154), ("_law_hidden", 161), ("_law_cheapest", 168), ("_law_least", 173), ("law", 178), ("_twin_re_1", 57), ("_special_chars_map", 66)]
noncomputable def looseL : List Str := ["_iter_escaped_chars", "_strip_quoted_realnames", "_check_parenthesis", "translate", "escape", "_translate", "_join_translated_parts", "heappush", "heappop", "_siftdown", "_siftup", "_law_item", "_law_sign", "_law_units", "_law_steps", "_law_taken", "_law_right", "_law_hidden", "_law_cheapest", "_law_least", "_sre", "_twin_re_1", "_special_chars_map"]
noncomputable def specL : List Nat := [40, 41, 91, 93, 123, 125, 63, 42, 43, 45, 124, 94, 36, 92, 46, 38, 126, 35, 32, 9, 10, 13, 11, 12]
noncomputable def obj66 : Obj := { cls := .type "dict", data := .dict (specL.zipIdx.map fun x => { hash := (x.1 : Int), key := .int x.1 (368 + 6 * x.2), val := .str ⟨#[92, x.1]⟩ (372 + 6 * x.2) }).toArray 24 }
noncomputable def obj57 : Obj := { cls := .type "re.Pattern", data := .fields #[.str "([&~|])" 319, .int 32 354, .int 1 0, .none, .none, .ref 56, .int 0 0] }
noncomputable def obj56 : Obj := { cls := .type "tuple", data := .seq (([14, 14, 4, 1, 1, 9, 0, 64, 0, 1342177280, 0, 0, 0, 0, 0, 17, 0, 13, 11, 9, 0, 64, 0, 1342177280, 0, 0, 0, 0, 0, 17, 1, 1] : List Nat).map fun (k : Nat) => Value.int (Int.ofNat k) 0).toArray }
noncomputable def obj82 : Obj := { cls := .type "code", data := .fields #[.str "_translate" 522, .str "_translate" 523, .str "/claim/cut.py" 524, .int 60 0, .int 3 0, .int 0 0, .int 0 0, .int 3 0, .ref 77, .bool true, .int 276 0, .ref 78, .none, .ref 79, .ref 80, .ref 81, .int 538 0, .int 60 0, .str "/claim/cut.py" 539] }
noncomputable def codeName (h : Heap) (c : Addr) : Option Str := match h.get? c with
 | some o => (match o.data with
  | .fields vs => (match (vs[1]? : Option Value) with
   | some (Value.str x _) => some x
   | _ => none)
  | _ => none)
 | none => none
noncomputable def seenOf (s : Shared) : List (Option Value) × List (Option Obj × Option Str) × List (Option Obj) :=
 (namesL.map (fun x => s.heap.nsMap mainGlobals x.1), defsL.map (fun d => (s.heap.get? d.1, codeName s.heap (d.1 - 1))), [56, 57, 66, 78, 82].map s.heap.get?)
noncomputable def seenIs (p : Program) : List (Option Value) × List (Option Obj × Option Str) × List (Option Obj) :=
 (namesL.map (fun x => some (.ref x.2)), defsL.map (fun d => (funObj p d, (fdOf p d.2.1 .none 0).map (·.qualname))), [some obj56, some obj57, some obj66, some (tabObj #[]), some obj82])
noncomputable def H0 (P : Params) : Heap := { objs := #[
 boot_o_0 P,
 { cls := Value.type "dict", data := Data.dict #[{ hash := PyData.keyHash P (Str.ofString "builtins"), key := Value.str (Str.ofString "builtins") 162, val := Value.ref 4 }, { hash := PyData.keyHash P (Str.ofString "__main__"), key := Value.str (Str.ofString "__main__") 163, val := Value.ref 5 }, { hash := PyData.keyHash P (Str.ofString "_sre"), key := Value.str (Str.ofString "_sre") 244, val := Value.ref 12 }] 3 },
 { cls := Value.none, data := Data.dict #[{ hash := PyData.keyHash P (Str.ofString "\x69mport.loaded._sre"), key := Value.str (Str.ofString "\x69mport.loaded._sre") 183, val := Value.bool true }, { hash := PyData.keyHash P (Str.ofString "class._frozen_importlib.BuiltinImporter"), key := Value.str (Str.ofString "class._frozen_importlib.BuiltinImporter") 185, val := Value.ref 14 }, { hash := PyData.keyHash P (Str.ofString "watched.\x69mport"), key := Value.str (Str.ofString "watched.\x69mport") 206, val := Value.ref 18 }, { hash := PyData.keyHash P (Str.ofString "class._frozen_importlib.ModuleSpec"), key := Value.str (Str.ofString "class._frozen_importlib.ModuleSpec") 216, val := Value.ref 22 }, { hash := PyData.keyHash P (Str.ofString "sys.modules.booked-epoch"), key := Value.str (Str.ofString "sys.modules.booked-epoch") 245, val := Value.int 3 0 }, { hash := PyData.keyHash P (Str.ofString "\x69mport.later-laid._sre"), key := Value.str (Str.ofString "\x69mport.later-laid._sre") 270, val := Value.bool true }, { hash := PyData.keyHash P (Str.ofString "watched.library"), key := Value.str (Str.ofString "watched.library") 272, val := Value.ref 27 }, { hash := PyData.keyHash P (Str.ofString "watched.library-objects"), key := Value.str (Str.ofString "watched.library-objects") 0, val := Value.str (Str.ofString "\x0c") 0 }, { hash := PyData.keyHash P (Str.ofString "watched.library-deep._sre"), key := Value.str (Str.ofString "watched.library-deep._sre") 273, val := Value.str (Str.ofString "\x04\x00\x00\x0b\x04\x00\x00\x0b\x04\x00\x00\x03\x04\x00\x00\x0b\x08\x04dict\x02") 0 }] 9 },
 { cls := Value.type "dict", data := Data.dict #[{ hash := PyData.keyHash P (Str.ofString "__name__"), key := Value.str (Str.ofString "__name__") 165, val := Value.str (Str.ofString "__main__") 164 }, { hash := PyData.keyHash P (Str.ofString "__doc__"), key := Value.str (Str.ofString "__doc__") 166, val := Value.none }, { hash := PyData.keyHash P (Str.ofString "__package__"), key := Value.str (Str.ofString "__package__") 167, val := Value.none }, { hash := PyData.keyHash P (Str.ofString "__loader__"), key := Value.str (Str.ofString "__loader__") 168, val := Value.builtin "__main__.__loader__#opaque" }, { hash := PyData.keyHash P (Str.ofString "__spec__"), key := Value.str (Str.ofString "__spec__") 169, val := Value.none }, { hash := PyData.keyHash P (Str.ofString "__annotations__"), key := Value.str (Str.ofString "__annotations__") 170, val := Value.ref 6 }, { hash := PyData.keyHash P (Str.ofString "__builtins__"), key := Value.str (Str.ofString "__builtins__") 171, val := Value.ref 4 }, { hash := PyData.keyHash P (Str.ofString "__file__"), key := Value.str (Str.ofString "__file__") 173, val := Value.str (Str.ofString "/claim/cut.py") 172 }, { hash := PyData.keyHash P (Str.ofString "__cached__"), key := Value.str (Str.ofString "__cached__") 174, val := Value.none }, { hash := PyData.keyHash P (Str.ofString "_sre"), key := Value.str (Str.ofString "_sre") 275, val := Value.ref 12 }] 10 },
 { cls := Value.type "module", dict := some 0 },
 { cls := Value.type "module", dict := some 3 },
 { cls := Value.type "dict", data := Data.dict #[] },
 { cls := Value.type "tuple", data := Data.seq #[] },
 { cls := Value.none, data := Data.fields #[] },
 { cls := Value.type "code", data := Data.fields #[Value.str (Str.ofString "<module>") 176, Value.str (Str.ofString "<module>") 177, Value.str (Str.ofString "/claim/cut.py") 178, Value.int 1 0, Value.int 0 0, Value.int 0 0, Value.int 0 0, Value.int 0 0, Value.ref 7, Value.bool false, Value.int 175 0, Value.ref 8, Value.none, Value.none, Value.none, Value.none, Value.int 179 0, Value.int 1 0, Value.str (Str.ofString "/claim/cut.py") 180] },
 { cls := Value.type "frame", slots := #[some (Value.ref 9), some (Value.ref 3), some (Value.ref 3), none, some (Value.str (Str.ofString "__main__") 164), none, some (Value.ref 0)] },
 { cls := Value.type "dict", data := Data.dict #[{ hash := PyData.keyHash P (Str.ofString "__name__"), key := Value.str (Str.ofString "__name__") 247, val := Value.str (Str.ofString "_sre") 246 }, { hash := PyData.keyHash P (Str.ofString "__doc__"), key := Value.str (Str.ofString "__doc__") 248, val := Value.none }, { hash := PyData.keyHash P (Str.ofString "__package__"), key := Value.str (Str.ofString "__package__") 250, val := Value.str (Str.ofString "") 249 }, { hash := PyData.keyHash P (Str.ofString "__loader__"), key := Value.str (Str.ofString "__loader__") 251, val := Value.builtin "off-the-table:_sre.__loader__:shared#opaque" }, { hash := PyData.keyHash P (Str.ofString "__spec__"), key := Value.str (Str.ofString "__spec__") 252, val := Value.builtin "off-the-table:_sre.__spec__:shared#opaque" }, { hash := PyData.keyHash P (Str.ofString "compile"), key := Value.str (Str.ofString "compile") 253, val := Value.builtin "_sre.compile" }, { hash := PyData.keyHash P (Str.ofString "template"), key := Value.str (Str.ofString "template") 254, val := Value.builtin "off-the-table:_sre.template:shared#opaque" }, { hash := PyData.keyHash P (Str.ofString "getcodesize"), key := Value.str (Str.ofString "getcodesize") 255, val := Value.builtin "off-the-table:_sre.getcodesize:shared#opaque" }, { hash := PyData.keyHash P (Str.ofString "ascii_iscased"), key := Value.str (Str.ofString "ascii_iscased") 256, val := Value.builtin "off-the-table:_sre.ascii_iscased:shared#opaque" }, { hash := PyData.keyHash P (Str.ofString "unicode_iscased"), key := Value.str (Str.ofString "unicode_iscased") 257, val := Value.builtin "off-the-table:_sre.unicode_iscased:shared#opaque" }, { hash := PyData.keyHash P (Str.ofString "ascii_tolower"), key := Value.str (Str.ofString "ascii_tolower") 258, val := Value.builtin "off-the-table:_sre.ascii_tolower:shared#opaque" }, { hash := PyData.keyHash P (Str.ofString "unicode_tolower"), key := Value.str (Str.ofString "unicode_tolower") 259, val := Value.builtin "off-the-table:_sre.unicode_tolower:shared#opaque" }, { hash := PyData.keyHash P (Str.ofString "MAGIC"), key := Value.str (Str.ofString "MAGIC") 261, val := Value.int 20230612 260 }, { hash := PyData.keyHash P (Str.ofString "CODESIZE"), key := Value.str (Str.ofString "CODESIZE") 263, val := Value.int 4 262 }, { hash := PyData.keyHash P (Str.ofString "MAXREPEAT"), key := Value.str (Str.ofString "MAXREPEAT") 265, val := Value.int 4294967295 264 }, { hash := PyData.keyHash P (Str.ofString "MAXGROUPS"), key := Value.str (Str.ofString "MAXGROUPS") 267, val := Value.int 1073741823 266 }, { hash := PyData.keyHash P (Str.ofString "copyright"), key := Value.str (Str.ofString "copyright") 269, val := Value.str (Str.ofString " SRE 2.2.2 Copyright (c) 1997-2002 by Secret Labs AB ") 268 }] 17 },
 { cls := Value.type "module", dict := some 11 },
 { cls := Value.type "dict", data := Data.dict #[{ hash := PyData.keyHash P (Str.ofString "__module__"), key := Value.str (Str.ofString "__module__") 189, val := Value.str (Str.ofString "_frozen_importlib") 186 }, { hash := PyData.keyHash P (Str.ofString "__firstlineno__"), key := Value.str (Str.ofString "__firstlineno__") 190, val := Value.int 971 187 }, { hash := PyData.keyHash P (Str.ofString "__doc__"), key := Value.str (Str.ofString "__doc__") 191, val := Value.builtin "_frozen_importlib.BuiltinImporter.__doc__:str#opaque" }, { hash := PyData.keyHash P (Str.ofString "_ORIGIN"), key := Value.str (Str.ofString "_ORIGIN") 192, val := Value.str (Str.ofString "built-in") 188 }, { hash := PyData.keyHash P (Str.ofString "find_spec"), key := Value.str (Str.ofString "find_spec") 193, val := Value.builtin "_frozen_importlib.BuiltinImporter.find_spec#opaque" }, { hash := PyData.keyHash P (Str.ofString "create_module"), key := Value.str (Str.ofString "create_module") 194, val := Value.builtin "_frozen_importlib.BuiltinImporter.create_module#opaque" }, { hash := PyData.keyHash P (Str.ofString "exec_module"), key := Value.str (Str.ofString "exec_module") 195, val := Value.builtin "_frozen_importlib.BuiltinImporter.exec_module#opaque" }, { hash := PyData.keyHash P (Str.ofString "get_code"), key := Value.str (Str.ofString "get_code") 196, val := Value.builtin "_frozen_importlib.BuiltinImporter.get_code#opaque" }, { hash := PyData.keyHash P (Str.ofString "get_source"), key := Value.str (Str.ofString "get_source") 197, val := Value.builtin "_frozen_importlib.BuiltinImporter.get_source#opaque" }, { hash := PyData.keyHash P (Str.ofString "is_package"), key := Value.str (Str.ofString "is_package") 198, val := Value.builtin "_frozen_importlib.BuiltinImporter.is_package#opaque" }, { hash := PyData.keyHash P (Str.ofString "load_module"), key := Value.str (Str.ofString "load_module") 199, val := Value.builtin "_frozen_importlib.BuiltinImporter.load_module#opaque" }, { hash := PyData.keyHash P (Str.ofString "__static_attributes__"), key := Value.str (Str.ofString "__static_attributes__") 200, val := Value.ref 15 }, { hash := PyData.keyHash P (Str.ofString "__dict__"), key := Value.str (Str.ofString "__dict__") 202, val := Value.ref 16 }, { hash := PyData.keyHash P (Str.ofString "__weakref__"), key := Value.str (Str.ofString "__weakref__") 204, val := Value.ref 17 }] 14 },
 { cls := Value.type "type", data := Data.cls { name := Str.ofString "BuiltinImporter", bases := [Value.type "object"], mro := [Value.ref 14, Value.type "object"], ns := 13, qualname := Str.ofString "BuiltinImporter" } },
 { cls := Value.type "tuple", data := Data.seq #[] },
 { cls := Value.type "getset_descriptor", data := Data.fields #[Value.str (Str.ofString "__dict__") 201, Value.ref 14, Value.builtin "function.__dict__", Value.builtin "function.__dict__#set"] },
 { cls := Value.type "getset_descriptor", data := Data.fields #[Value.str (Str.ofString "__weakref__") 203, Value.ref 14, Value.builtin "ExceptionGroup.__weakref__", Value.none] },
 { cls := Value.none, data := Data.seq #[Value.int 13 0, Value.str (Str.ofString "\x06½\n__module__\x06º\x11_frozen_importlib\x06¾\x0f__firstlineno__\x04»\x00ϋ\x06¿\x07__doc__\t4_frozen_importlib.BuiltinImporter.__doc__:str#opaque\x06À\x07_ORIGIN\x06¼\x08built-in\x06Á\tfind_spec\t2_frozen_importlib.BuiltinImporter.find_spec#opaque\x06Â\x0dcreate_module\t6_frozen_importlib.BuiltinImporter.create_module#opaque\x06Ã\x0bexec_module\t4_frozen_importlib.BuiltinImporter.exec_module#opaque\x06Ä\x08get_code\t1_frozen_importlib.BuiltinImporter.get_code#opaque\x06Å\nget_source\t3_frozen_importlib.BuiltinImporter.get_source#opaque\x06Æ\nis_package\t3_frozen_importlib.BuiltinImporter.is_package#opaque\x06Ç\x0bload_module\t4_frozen_importlib.BuiltinImporter.load_module#opaque\x06È\x15__static_attributes__\x04\x00\x00\x0f\x06Ê\x08__dict__\x04\x00\x00\x10\x06Ì\x0b__weakref__\x04\x00\x00\x11") 0, Value.bool true, Value.bool true, Value.str (Str.ofString "") 205, Value.int 21 0, Value.str (Str.ofString "\x06ã\n__module__\x06Ù\x11_frozen_importlib\x06ä\x0f__firstlineno__\x04Ú\x00Ȳ\x06å\x07__doc__\t/_frozen_importlib.ModuleSpec.__doc__:str#opaque\x06æ\x08__init__\t,_frozen_importlib.ModuleSpec.__init__#opaque\x06ç\x08__repr__\t,_frozen_importlib.ModuleSpec.__repr__#opaque\x06è\x06__eq__\t*_frozen_importlib.ModuleSpec.__eq__#opaque\x06é\x06cached\t*_frozen_importlib.ModuleSpec.cached#opaque\x06ê\x06parent\t*_frozen_importlib.ModuleSpec.parent#opaque\x06ë\x0chas_location\t0_frozen_importlib.ModuleSpec.has_location#opaque\x06ì\x15__static_attributes__\x04\x00\x00\x17\x06î\x08__dict__\x04\x00\x00\x18\x06ð\x0b__weakref__\x04\x00\x00\x19\x06ñ\x08__hash__\x00") 0, Value.bool true, Value.bool true, Value.str (Str.ofString "") 242] 1 },
 { cls := Value.type "list", data := Data.seq #[] },
 { cls := Value.type "dict", data := Data.dict #[{ hash := PyData.keyHash P (Str.ofString "name"), key := Value.str (Str.ofString "name") 208, val := Value.str (Str.ofString "_sre") 207 }, { hash := PyData.keyHash P (Str.ofString "loader"), key := Value.str (Str.ofString "loader") 209, val := Value.ref 14 }, { hash := PyData.keyHash P (Str.ofString "origin"), key := Value.str (Str.ofString "origin") 210, val := Value.str (Str.ofString "built-in") 184 }, { hash := PyData.keyHash P (Str.ofString "loader_state"), key := Value.str (Str.ofString "loader_state") 211, val := Value.none }, { hash := PyData.keyHash P (Str.ofString "submodule_search_locations"), key := Value.str (Str.ofString "submodule_search_locations") 212, val := Value.none }, { hash := PyData.keyHash P (Str.ofString "_uninitialized_submodules"), key := Value.str (Str.ofString "_uninitialized_submodules") 213, val := Value.ref 19 }, { hash := PyData.keyHash P (Str.ofString "_set_fileattr"), key := Value.str (Str.ofString "_set_fileattr") 214, val := Value.bool false }, { hash := PyData.keyHash P (Str.ofString "_cached"), key := Value.str (Str.ofString "_cached") 215, val := Value.none }, { hash := PyData.keyHash P (Str.ofString "_initializing"), key := Value.str (Str.ofString "_initializing") 243, val := Value.bool false }] 9 },
 { cls := Value.type "dict", data := Data.dict #[{ hash := PyData.keyHash P (Str.ofString "__module__"), key := Value.str (Str.ofString "__module__") 227, val := Value.str (Str.ofString "_frozen_importlib") 217 }, { hash := PyData.keyHash P (Str.ofString "__firstlineno__"), key := Value.str (Str.ofString "__firstlineno__") 228, val := Value.int 562 218 }, { hash := PyData.keyHash P (Str.ofString "__doc__"), key := Value.str (Str.ofString "__doc__") 229, val := Value.builtin "_frozen_importlib.ModuleSpec.__doc__:str#opaque" }, { hash := PyData.keyHash P (Str.ofString "__init__"), key := Value.str (Str.ofString "__init__") 230, val := Value.builtin "_frozen_importlib.ModuleSpec.__init__#opaque" }, { hash := PyData.keyHash P (Str.ofString "__repr__"), key := Value.str (Str.ofString "__repr__") 231, val := Value.builtin "_frozen_importlib.ModuleSpec.__repr__#opaque" }, { hash := PyData.keyHash P (Str.ofString "__eq__"), key := Value.str (Str.ofString "__eq__") 232, val := Value.builtin "_frozen_importlib.ModuleSpec.__eq__#opaque" }, { hash := PyData.keyHash P (Str.ofString "cached"), key := Value.str (Str.ofString "cached") 233, val := Value.builtin "_frozen_importlib.ModuleSpec.cached#opaque" }, { hash := PyData.keyHash P (Str.ofString "parent"), key := Value.str (Str.ofString "parent") 234, val := Value.builtin "_frozen_importlib.ModuleSpec.parent#opaque" }, { hash := PyData.keyHash P (Str.ofString "has_location"), key := Value.str (Str.ofString "has_location") 235, val := Value.builtin "_frozen_importlib.ModuleSpec.has_location#opaque" }, { hash := PyData.keyHash P (Str.ofString "__static_attributes__"), key := Value.str (Str.ofString "__static_attributes__") 236, val := Value.ref 23 }, { hash := PyData.keyHash P (Str.ofString "__dict__"), key := Value.str (Str.ofString "__dict__") 238, val := Value.ref 24 }, { hash := PyData.keyHash P (Str.ofString "__weakref__"), key := Value.str (Str.ofString "__weakref__") 240, val := Value.ref 25 }, { hash := PyData.keyHash P (Str.ofString "__hash__"), key := Value.str (Str.ofString "__hash__") 241, val := Value.none }] 13 },
 { cls := Value.type "type", data := Data.cls { name := Str.ofString "ModuleSpec", bases := [Value.type "object"], mro := [Value.ref 22, Value.type "object"], ns := 21, qualname := Str.ofString "ModuleSpec" } },
 { cls := Value.type "tuple", data := Data.seq #[Value.str (Str.ofString "_cached") 219, Value.str (Str.ofString "_set_fileattr") 220, Value.str (Str.ofString "_uninitialized_submodules") 221, Value.str (Str.ofString "loader") 222, Value.str (Str.ofString "loader_state") 223, Value.str (Str.ofString "name") 224, Value.str (Str.ofString "origin") 225, Value.str (Str.ofString "submodule_search_locations") 226] },
 { cls := Value.type "getset_descriptor", data := Data.fields #[Value.str (Str.ofString "__dict__") 237, Value.ref 22, Value.builtin "function.__dict__", Value.builtin "function.__dict__#set"] },
 { cls := Value.type "getset_descriptor", data := Data.fields #[Value.str (Str.ofString "__weakref__") 239, Value.ref 22, Value.builtin "ExceptionGroup.__weakref__", Value.none] },
 { cls := Value.ref 22, dict := some 20 },
 { cls := Value.none, data := Data.seq #[Value.int 11 0, Value.str { cps := #[6, 247, 8, 95, 95, 110, 97, 109, 101, 95, 95, 6, 246, 4, 95, 115, 114, 101, 6, 248, 7, 95, 95, 100, 111, 99, 95, 95, 0, 6, 250, 11, 95, 95, 112, 97, 99, 107, 97, 103, 101, 95, 95, 6, 249, 0, 6, 251, 10, 95, 95, 108, 111, 97, 100, 101, 114, 95, 95, 4, 0, 0, 14, 6, 252, 8, 95, 95, 115, 112, 101, 99, 95, 95, 4, 0, 0, 26, 6, 253, 7, 99, 111, 109, 112, 105, 108, 101, 9, 12, 95, 115, 114, 101, 46, 99, 111, 109, 112, 105, 108, 101, 6, 254, 8, 116, 101, 109, 112, 108, 97, 116, 101, 9, 13, 95, 115, 114, 101, 46, 116, 101, 109, 112, 108, 97, 116, 101, 6, 255, 11, 103, 101, 116, 99, 111, 100, 101, 115, 105, 122, 101, 9, 16, 95, 115, 114, 101, 46, 103, 101, 116, 99, 111, 100, 101, 115, 105, 122, 101, 6, 256, 13, 97, 115, 99, 105, 105, 95, 105, 115, 99, 97, 115, 101, 100, 9, 18, 95, 115, 114, 101, 46, 97, 115, 99, 105, 105, 95, 105, 115, 99, 97, 115, 101, 100, 6, 257, 15, 117, 110, 105, 99, 111, 100, 101, 95, 105, 115, 99, 97, 115, 101, 100, 9, 20, 95, 115, 114, 101, 46, 117, 110, 105, 99, 111, 100, 101, 95, 105, 115, 99, 97, 115, 101, 100, 6, 258, 13, 97, 115, 99, 105, 105, 95, 116, 111, 108, 111, 119, 101, 114, 9, 18, 95, 115, 114, 101, 46, 97, 115, 99, 105, 105, 95, 116, 111, 108, 111, 119, 101, 114, 6, 259, 15, 117, 110, 105, 99, 111, 100, 101, 95, 116, 111, 108, 111, 119, 101, 114, 9, 20, 95, 115, 114, 101, 46, 117, 110, 105, 99, 111, 100, 101, 95, 116, 111, 108, 111, 119, 101, 114, 6, 261, 5, 77, 65, 71, 73, 67, 4, 260, 0, 20230612, 6, 263, 8, 67, 79, 68, 69, 83, 73, 90, 69, 4, 262, 0, 4, 6, 265, 9, 77, 65, 88, 82, 69, 80, 69, 65, 84, 4, 264, 0, 4294967295, 6, 267, 9, 77, 65, 88, 71, 82, 79, 85, 80, 83, 4, 266, 0, 1073741823, 6, 269, 9, 99, 111, 112, 121, 114, 105, 103, 104, 116, 6, 268, 53, 32, 83, 82, 69, 32, 50, 46, 50, 46, 50, 32, 67, 111, 112, 121, 114, 105, 103, 104, 116, 32, 40, 99, 41, 32, 49, 57, 57, 55, 45, 50, 48, 48, 50, 32, 98, 121, 32, 83, 101, 99, 114, 101, 116, 32, 76, 97, 98, 115, 32, 65, 66, 32] } 0, Value.bool true, Value.bool false, Value.str (Str.ofString "_sre") 271] }] }
noncomputable abbrev tb0 : String → Option Builtin := Fast.tw14364793385576792824
theorem open_tw (w : World) : (fencedOpening tb0 pw w 4210).map (fun s => (s.heap, s.gens, s.drawn, s.toks)) = some (H0 w.params, #[], {}, 276) := by kernel_rfl
theorem open_0 (w : World) : (fencedOpening treeTable pw w 4210).map (fun s => (s.heap, s.gens, s.drawn, s.toks)) = some (H0 w.params, #[], {}, 276) := by
 rw [Fast.te14364793385576792824]; exact open_tw w
noncomputable def topF (TR : (String → Option Builtin) → Program → World → Nat → Option Value → Nat → Shared → Thread → Option Shared) (tb : String → Option Builtin) (p : Program) (w : World) (N : Nat) (s₀ : Shared) : Option Shared :=
 match s₀.heap.isNs mainGlobals && s₀.gens.size == 0 with
 | true => (TR tb p w s₀.heap.objs.size (s₀.heap.nsMap mainGlobals "__annotations__") N s₀ (topStub p)).bind fun s₁ => match staticsOk (importedModules p.main.body) s₀.heap s₁.heap && namesBound p s₁.heap && gensDone s₁ && laidKept s₀.heap s₁.heap with
   | true => some s₁
   | false => none
 | false => none
noncomputable abbrev SeenT := List (Option Value) × List (Option Obj × Option Str) × List (Option Obj)
noncomputable def lhs {T : Type} (tr : (String → Option Builtin) → Program → World → Nat → Option Value → Nat → Shared → Thread → Option Shared) (tb : String → Option Builtin) (os : Program → List Str → List Str → (Shared → Bool) → Bool → Shared → T) (im : List Stmt → List Str) (w : World) (o : OsState) : Option (T × SeenT) :=
 (topF tr tb pw w 4210 ⟨H0 w.params, #[], {}, 276, o⟩).map fun s => (os (Vw pw) looseL (im pw.main.body) (fun s => xlAt (Vw pw) [] s && recOk [] s) true s, seenOf s)
noncomputable def rhs := some (openGood (Vw pw) looseL, seenIs pw)
noncomputable abbrev rowA (w : World) (a b : Bool) : World := (w.withFollow "special-get-raises" b).withFollow "comprehension-iter-twice" a
theorem left_ff (w : World) (o : OsState) : lhs Fast.tw14082659384304107361 tb0 Fast.tw4187177175401517315 Fast.tw5923862056798008813 (rowA w false false) o = rhs := by kernel_rfl
theorem left_ft (w : World) (o : OsState) : lhs Fast.tw14082659384304107361 tb0 Fast.tw4187177175401517315 Fast.tw5923862056798008813 (rowA w false true) o = rhs := by kernel_rfl
theorem left_tf (w : World) (o : OsState) : lhs Fast.tw14082659384304107361 tb0 Fast.tw4187177175401517315 Fast.tw5923862056798008813 (rowA w true false) o = rhs := by kernel_rfl
theorem left_tt (w : World) (o : OsState) : lhs Fast.tw14082659384304107361 tb0 Fast.tw4187177175401517315 Fast.tw5923862056798008813 (rowA w true true) o = rhs := by kernel_rfl
theorem left_tw (w : World) (o : OsState) : lhs Fast.tw14082659384304107361 tb0 Fast.tw4187177175401517315 Fast.tw5923862056798008813 w o = rhs :=
 byRow2 "comprehension-iter-twice" (P := fun w => lhs Fast.tw14082659384304107361 tb0 Fast.tw4187177175401517315 Fast.tw5923862056798008813 w o = rhs)
  (byRow2 "special-get-raises" (P := fun w => lhs Fast.tw14082659384304107361 tb0 Fast.tw4187177175401517315 Fast.tw5923862056798008813 (w.withFollow "comprehension-iter-twice" false) o = rhs) (fun w => left_ff _ o) (fun w => left_ft _ o))
  (byRow2 "special-get-raises" (P := fun w => lhs Fast.tw14082659384304107361 tb0 Fast.tw4187177175401517315 Fast.tw5923862056798008813 (w.withFollow "comprehension-iter-twice" true) o = rhs) (fun w => left_tf _ o) (fun w => left_tt _ o)) w
end Mine
end
section
namespace Mine
open PySem PySem.Calls PyProof.Rows PySem.W
noncomputable def funAt (P : Params) (a : Nat) : Option FuncData := (defsL.lookup a).bind fun x => fdOf pw x.1 (pmOf x.2) (a - 1)
noncomputable def fd_iecS : { fd : FuncData // ∀ P, funAt P 38 = some fd } := ⟨_, fun _ => rfl⟩
noncomputable abbrev fd_iec : FuncData := fd_iecS.1
noncomputable def bd_iecS : { b : List Stmt // fd_iec.body = .stmts b } := ⟨_, rfl⟩
noncomputable abbrev bd_iec : List Stmt := bd_iecS.1
noncomputable def fd_stripS : { fd : FuncData // ∀ P, funAt P 45 = some fd } := ⟨_, fun _ => rfl⟩
noncomputable abbrev fd_strip : FuncData := fd_stripS.1
noncomputable def bd_stripS : { b : List Stmt // fd_strip.body = .stmts b } := ⟨_, rfl⟩
noncomputable abbrev bd_strip : List Stmt := bd_stripS.1
noncomputable def fd_parenS : { fd : FuncData // ∀ P, funAt P 52 = some fd } := ⟨_, fun _ => rfl⟩
noncomputable abbrev fd_paren : FuncData := fd_parenS.1
noncomputable def bd_parenS : { b : List Stmt // fd_paren.body = .stmts b } := ⟨_, rfl⟩
noncomputable abbrev bd_paren : List Stmt := bd_parenS.1
noncomputable def fd_translateS : { fd : FuncData // ∀ P, funAt P 64 = some fd } := ⟨_, fun _ => rfl⟩
noncomputable abbrev fd_translate : FuncData := fd_translateS.1
noncomputable def bd_translateS : { b : List Stmt // fd_translate.body = .stmts b } := ⟨_, rfl⟩
noncomputable abbrev bd_translate : List Stmt := bd_translateS.1
noncomputable def fd_escapeS : { fd : FuncData // ∀ P, funAt P 76 = some fd } := ⟨_, fun _ => rfl⟩
noncomputable abbrev fd_escape : FuncData := fd_escapeS.1
noncomputable def bd_escapeS : { b : List Stmt // fd_escape.body = .stmts b } := ⟨_, rfl⟩
noncomputable abbrev bd_escape : List Stmt := bd_escapeS.1
noncomputable def fd_trS : { fd : FuncData // ∀ P, funAt P 83 = some fd } := ⟨_, fun _ => rfl⟩
noncomputable abbrev fd_tr : FuncData := fd_trS.1
noncomputable def bd_trS : { b : List Stmt // fd_tr.body = .stmts b } := ⟨_, rfl⟩
noncomputable abbrev bd_tr : List Stmt := bd_trS.1
noncomputable def fd_joinpS : { fd : FuncData // ∀ P, funAt P 90 = some fd } := ⟨_, fun _ => rfl⟩
noncomputable abbrev fd_joinp : FuncData := fd_joinpS.1
noncomputable def bd_joinpS : { b : List Stmt // fd_joinp.body = .stmts b } := ⟨_, rfl⟩
noncomputable abbrev bd_joinp : List Stmt := bd_joinpS.1
noncomputable def fd_pushS : { fd : FuncData // ∀ P, funAt P 97 = some fd } := ⟨_, fun _ => rfl⟩
noncomputable abbrev fd_push : FuncData := fd_pushS.1
noncomputable def bd_pushS : { b : List Stmt // fd_push.body = .stmts b } := ⟨_, rfl⟩
noncomputable abbrev bd_push : List Stmt := bd_pushS.1
noncomputable def fd_popS : { fd : FuncData // ∀ P, funAt P 104 = some fd } := ⟨_, fun _ => rfl⟩
noncomputable abbrev fd_pop : FuncData := fd_popS.1
noncomputable def bd_popS : { b : List Stmt // fd_pop.body = .stmts b } := ⟨_, rfl⟩
noncomputable abbrev bd_pop : List Stmt := bd_popS.1
noncomputable def fd_sdS : { fd : FuncData // ∀ P, funAt P 111 = some fd } := ⟨_, fun _ => rfl⟩
noncomputable abbrev fd_sd : FuncData := fd_sdS.1
noncomputable def bd_sdS : { b : List Stmt // fd_sd.body = .stmts b } := ⟨_, rfl⟩
noncomputable abbrev bd_sd : List Stmt := bd_sdS.1
noncomputable def fd_suS : { fd : FuncData // ∀ P, funAt P 118 = some fd } := ⟨_, fun _ => rfl⟩
noncomputable abbrev fd_su : FuncData := fd_suS.1
noncomputable def bd_suS : { b : List Stmt // fd_su.body = .stmts b } := ⟨_, rfl⟩
noncomputable abbrev bd_su : List Stmt := bd_suS.1
noncomputable def fd_itemS : { fd : FuncData // ∀ P, funAt P 125 = some fd } := ⟨_, fun _ => rfl⟩
noncomputable abbrev fd_item : FuncData := fd_itemS.1
noncomputable def bd_itemS : { b : List Stmt // fd_item.body = .stmts b } := ⟨_, rfl⟩
noncomputable abbrev bd_item : List Stmt := bd_itemS.1
noncomputable def fd_signS : { fd : FuncData // ∀ P, funAt P 132 = some fd } := ⟨_, fun _ => rfl⟩
noncomputable abbrev fd_sign : FuncData := fd_signS.1
noncomputable def bd_signS : { b : List Stmt // fd_sign.body = .stmts b } := ⟨_, rfl⟩
noncomputable abbrev bd_sign : List Stmt := bd_signS.1
noncomputable def fd_unitsS : { fd : FuncData // ∀ P, funAt P 137 = some fd } := ⟨_, fun _ => rfl⟩
noncomputable abbrev fd_units : FuncData := fd_unitsS.1
noncomputable def bd_unitsS : { b : List Stmt // fd_units.body = .stmts b } := ⟨_, rfl⟩
noncomputable abbrev bd_units : List Stmt := bd_unitsS.1
noncomputable def fd_stepsS : { fd : FuncData // ∀ P, funAt P 142 = some fd } := ⟨_, fun _ => rfl⟩
noncomputable abbrev fd_steps : FuncData := fd_stepsS.1
noncomputable def bd_stepsS : { b : List Stmt // fd_steps.body = .stmts b } := ⟨_, rfl⟩
noncomputable abbrev bd_steps : List Stmt := bd_stepsS.1
noncomputable def fd_takenS : { fd : FuncData // ∀ P, funAt P 149 = some fd } := ⟨_, fun _ => rfl⟩
noncomputable abbrev fd_taken : FuncData := fd_takenS.1
noncomputable def bd_takenS : { b : List Stmt // fd_taken.body = .stmts b } := ⟨_, rfl⟩
noncomputable abbrev bd_taken : List Stmt := bd_takenS.1
noncomputable def fd_rightS : { fd : FuncData // ∀ P, funAt P 154 = some fd } := ⟨_, fun _ => rfl⟩
noncomputable abbrev fd_right : FuncData := fd_rightS.1
noncomputable def bd_rightS : { b : List Stmt // fd_right.body = .stmts b } := ⟨_, rfl⟩
noncomputable abbrev bd_right : List Stmt := bd_rightS.1
noncomputable def fd_hiddenS : { fd : FuncData // ∀ P, funAt P 161 = some fd } := ⟨_, fun _ => rfl⟩
noncomputable abbrev fd_hidden : FuncData := fd_hiddenS.1
noncomputable def bd_hiddenS : { b : List Stmt // fd_hidden.body = .stmts b } := ⟨_, rfl⟩
noncomputable abbrev bd_hidden : List Stmt := bd_hiddenS.1
noncomputable def fd_cheapS : { fd : FuncData // ∀ P, funAt P 168 = some fd } := ⟨_, fun _ => rfl⟩
noncomputable abbrev fd_cheap : FuncData := fd_cheapS.1
noncomputable def bd_cheapS : { b : List Stmt // fd_cheap.body = .stmts b } := ⟨_, rfl⟩
noncomputable abbrev bd_cheap : List Stmt := bd_cheapS.1
noncomputable def fd_leastS : { fd : FuncData // ∀ P, funAt P 173 = some fd } := ⟨_, fun _ => rfl⟩
noncomputable abbrev fd_least : FuncData := fd_leastS.1
noncomputable def bd_leastS : { b : List Stmt // fd_least.body = .stmts b } := ⟨_, rfl⟩
noncomputable abbrev bd_least : List Stmt := bd_leastS.1
noncomputable def fd_lawS : { fd : FuncData // ∀ P, funAt P 178 = some fd } := ⟨_, fun _ => rfl⟩
noncomputable abbrev fd_law : FuncData := fd_lawS.1
noncomputable def bd_lawS : { b : List Stmt // fd_law.body = .stmts b } := ⟨_, rfl⟩
noncomputable abbrev bd_law : List Stmt := bd_lawS.1
end Mine
end
section
namespace Mine
open PySem PySem.Calls PyProof.Rows PySem.W PySem.SeqAt PySem.MeetsSeq
def Tln (R : List MV → Loc → (Loc → Prop) → Prop) (n : Nat) : Prop := ∀ ms ρ Q, R ms ρ Q → ms.length = n
theorem Tln.nil : Tln tNil 0 := fun ms ρ Q ⟨e, _⟩ => by rw [e]; rfl
theorem Tln.cons {T : PT} {js : List Nat} {R : List MV → Loc → (Loc → Prop) → Prop} {n : Nat} (hw : Tw T js) (h : Tln R n) : Tln (tCons T R) (n + 1) := fun ms ρ Q ⟨m, ms', e, q⟩ => by
 obtain ⟨ρ₁, q₁, _⟩ := hw _ _ _ q
 rw [e, List.length_cons, h _ _ _ q₁]
section
variable {K : Ktx} {d : Nat} {env : Env} {nm : List Str}
def pAnd2 (a b : PE) : PE := fun ρ σ Q X => a ρ σ (fun x σ₁ => ∃ c, x = .bool c ∧ (c = true → b ρ σ₁ Q X) ∧ (c = false → Q (.bool false) σ₁)) X
theorem RefE.and2 {a b : Expr} {pos : Pos} {P R : PE} (ha : RefE K d env nm a P) (hb : RefE K d env nm b R) : RefE K d env nm (.BoolOp .And [a, b] pos) (pAnd2 P R) := fun A ρ σ s Q X rm F p => by
 refine BoolOp_and (wpAny_mono (ha A ρ σ s _ X rm F p) ?_ fun _ _ h => h)
 rintro v s₁ ⟨m, σ₁, r, I₁, st₁, c, rfl, q⟩
 cases r.bool_inv
 refine wpAny_truthy_bool ?_
 cases c with
 | true =>
  refine BoolOp_one (wpAny_mono (hb A ρ σ₁ s₁ Q X rm (F.step I₁ st₁) (q.1 rfl)) (fun _ _ h => h.from st₁) fun _ _ h => h.from st₁)
 | false => exact PostE.from st₁ (postE_now I₁ (.bool false) (q.2 rfl))
end
noncomputable def bltL : List (Str × Value) := [("len", .builtin "len"), ("min", .builtin "min"), ("sum", .builtin "sum"), ("isinstance", .builtin "isinstance"), ("range", .type "range"), ("list", .type "list"), ("object", .type "object"), ("str", .type "str"), ("enumerate", .type "enumerate"), ("chr", .builtin "chr"), ("IndexError", .type "IndexError")]
noncomputable def gnames : List (Str × Value) := (namesL.map fun p => (p.1, Value.ref p.2)) ++ bltL
structure Good (K : Ktx) : Prop where
 gn : ∀ x v, gnames.lookup x = some v → GName K x v
 fn : ∀ a fd, funAt K.w.params a = some fd → a ∈ [38, 45, 52, 64, 76, 83, 90, 97, 104, 111, 118, 125, 132, 137, 142, 149, 154, 161, 168, 173] → (∃ o, K.h0.get? a = some o ∧ o.data = .func fd) ∧ K.h0.CodeRec fd.code fd.qualname
 lim : K.h0.NoLimit
noncomputable def Good.ob {K : Ktx} (G : Good K) {a : Addr} {fd : FuncData} (h : ∀ P, funAt P a = some fd) (hm : a ∈ [38, 45, 52, 64, 76, 83, 90, 97, 104, 111, 118, 125, 132, 137, 142, 149, 154, 161, 168, 173]) : ∃ o, K.h0.get? a = some o ∧ o.data = .func fd := (G.fn a fd (h _) hm).1
theorem RefE.callD {K : Ktx} {d : Nat} {env : Env} {nm : List Str} {f : Str} {p pos : Pos} {e : Expr} {rest : List Expr} {a : Addr} {fd : FuncData} {S : List MV → Sto → (MV → Sto → Prop) → (Sto → Prop) → Prop} {R : PA} (G : GName K f (.ref a)) (ho : ∃ o, K.h0.get? a = some o ∧ o.data = .func fd)
  (hS : SoundF K d a S) (h : RefA K d env nm (e :: rest) R) (hx : env.kindOf f = some .globalImplicit := by rfl) (hk : env.scope.kind = .function := by rfl)
  (hg : env.globals = mainGlobals := by rfl) (hb : env.builtins = builtinsNs := by rfl) (hdb : (f == ("__debug__" : Str)) = false := by decide)
  (he : starEach (e :: rest) env = (false, eval e env) :: starEach rest env := by exact star_cons rfl _ _) :
  RefE K d env nm (.Call (.Name f p) (e :: rest) [] pos) (pCallS S R) := by
 obtain ⟨o, h1, h2⟩ := ho
 exact RefE.callG G h1 h2 hS h hx hk hg hb hdb he
theorem SoundF.mono {K : Ktx} {d d' : Nat} {a : Addr} {S : List MV → Sto → (MV → Sto → Prop) → (Sto → Prop) → Prop} (h : SoundF K d a S) (hd : d ≤ d') : SoundF K d' a S := fun A s σ vals ms Q X rm => h A s σ vals ms Q X (rm.mono hd)
section
variable {K : Ktx} {d : Nat} {env : Env} {nm : List Str}
theorem SRep.noFields {h : Heap} {a : Addr} {mo : MO} {o : Obj} (x : SRep K h a mo) (e : h.get? a = some o) : ¬ Airy o := by
 cases mo with
 | list l => obtain ⟨vs, n, e', _⟩ := x; rw [e] at e'; cases e'; rintro ⟨_, vs, q⟩; cases q
 | dict l ep => obtain ⟨kvs, ⟨o', es, e', _, hd, _⟩, _⟩ := x; rw [e] at e'; cases e'; rintro ⟨_, vs, q⟩; rw [hd] at q; cases q
 | tab =>
  obtain ⟨ps, e', _⟩ := x; rw [e] at e'; cases e'
  rintro ⟨q | q, vs, _⟩ <;> simp [tabObj] at q
theorem SInv.air {σ : Sto} {s : Shared} (I : SInv K σ s) {b : Addr} {o : Obj} (e : s.heap.get? b = some o) (ai : Airy o) : σ b = none := by
 cases q : σ b with
 | none => rfl
 | some mo => exact absurd ai ((I.sto b mo q).noFields e)
theorem Airy.notFirm {o : Obj} (ai : Airy o) : ¬ Firm o := fun f => by
 obtain ⟨T, h, h1, h2, _⟩ := f.cls
 exact not_airy_of_cls h h1 h2 ai
theorem air_turn {σ : Sto} {s : Shared} (I : SInv K σ s) {b : Addr} {o : Obj} {h' : Heap} (e : s.heap.get? b = some o) (ai : Airy o) (h0 : K.h0.get? b = none) (hs : Heap.ExtBut b s.heap h') (e' : ∃ o', h'.get? b = some o' ∧ Airy o' ∧ o'.cls = o.cls) :
  SInv K σ { s with heap := h' } ∧ Stp [] σ s σ { s with heap := h' } := by
 have hb := I.air e ai
 refine ⟨I.own (tk := s.toks) hs hb h0 (fun o₁ e₁ => by rw [e] at e₁; cases e₁; exact ai.notFirm), ⟨fun c o₁ e₁ h1 _ => ?_, fun _ _ _ h1 _ => h1, fun _ _ x => x⟩⟩
 by_cases hc : c = b
 ·subst hc
  rw [e] at e₁; cases e₁
  obtain ⟨o', g, ai', hcl⟩ := e'
  exact ⟨o', g, hcl, fun _ => ai', fun n => absurd ai n⟩
 ·exact ⟨o₁, hs c o₁ hc e₁, .refl _⟩
theorem slots_turn {σ : Sto} {s : Shared} (I : SInv K σ s) {S : List Addr} {h' : Heap} (hs : Heap.SlotsOnly S s.heap h') (hS : ∀ b ∈ S, σ b = none ∧ K.h0.get? b = none ∧ ∃ o, s.heap.get? b = some o ∧ IsD o) :
  SInv K σ { s with heap := h' } ∧ Stp [] σ s σ { s with heap := h' } := by
 have same : ∀ b o, b ∉ S → s.heap.get? b = some o → h'.get? b = some o := fun b o hb e => (hs.2.1 b hb).trans e
 have firm : ∀ b o, Firm o → s.heap.get? b = some o → h'.get? b = some o := fun b o f e => same b o (fun hb => by
  obtain ⟨_, _, o', e', hd⟩ := hS b hb
  rw [e] at e'; cases e'
  obtain ⟨_, _, _, _, n⟩ := f.cls; exact n hd) e
 refine ⟨⟨fun b o e => same b o (fun hb => by rw [(hS b hb).2.1] at e; cases e) (I.old b o e), I.apart, fun a mo e => (I.sto a mo e).at (fun o g => same a o (fun hb => by rw [(hS a hb).1] at e; cases e) g) firm, I.os, I.bare⟩,
  ⟨fun b o e h1 _ => ?_, fun _ _ _ h1 _ => h1, fun _ _ x => x⟩⟩
 by_cases hb : b ∈ S
 ·obtain ⟨_, _, o', e', hd⟩ := hS b hb
  rw [e] at e'; cases e'
  obtain ⟨sl, g⟩ := hs.2.2 b o e
  exact ⟨_, g, rfl, fun a => a, fun _ => ⟨rfl, rfl, fun n => absurd hd n⟩⟩
 ·exact ⟨o, same b o hb e, .refl _⟩
inductive ExcT (K : Ktx) (h : Heap) (e : Value) : Prop
 | mk (a : Addr) (oe : Obj) (vs : Array Value) (h1 : e = .ref a) (h2 : K.h0.get? a = none) (h3 : h.get? a = some oe) (h4 : oe.cls = .type "IndexError") (h5 : oe.data = .fields vs) (h6 : 1 < vs.size) (h7 : TbAt K h vs)
theorem ExcT.at {h : Heap} {e : Value} (x : ExcT K h e) : ExcAt K h e := let ⟨a, oe, vs, h1, h2, h3, h4, h5, h6, h7⟩ := x; ⟨a, oe, vs, h1, h2, h3, h4, h5, h6, .inr h7⟩
theorem FrOk.fun {A : Around} {σ : Sto} {h : Heap} (x : FrOk K A σ h) {l : List Env} (hl : A.frames = some l) : h.FunFrames K.h0 l ∧ ∀ b ∈ l.filterMap (·.frame), σ b = none ∧ K.h0.get? b = none ∧ ∃ o, h.get? b = some o ∧ IsD o := by
 obtain ⟨l', h1, h2⟩ := x
 rw [hl] at h1; cases h1
 clear hl
 induction l with
 | nil => exact ⟨trivial, fun b hb => by simp at hb⟩
 | cons e l ih =>
  obtain ⟨k, L, o, a1, a2, a3, a4, a5⟩ := h2 e (by simp)
  obtain ⟨i1, i2⟩ := ih fun e' he' => h2 e' (List.mem_cons_of_mem _ he')
  refine ⟨⟨k, ⟨L, o, a1, a5, a2, a3.nf⟩, i1⟩, fun b hb => ?_⟩
  rw [List.filterMap_cons, a1] at hb
  rcases List.mem_cons.mp hb with rfl | hb
  ·exact ⟨a4, a5, o, a2, a3⟩
  ·exact i2 b hb
theorem airyE {o : Obj} {vs : Array Value} (h : o.cls = .type "IndexError") (hd : o.data = .fields vs) : Airy o := ⟨.inl h, vs, hd⟩
theorem airyT {o : Obj} {vs : Array Value} (h : o.cls = .type "traceback") (hd : o.data = .fields vs) : Airy o := ⟨.inr h, vs, hd⟩
theorem setField_ok {A : Around} {σ : Sto} {s : Shared} {b : Addr} {o : Obj} {vs : Array Value} {i : Nat} {x : Value} {Q : Unit → Shared → Prop} {E : Value → Shared → Prop} (I : SInv K σ s) (e : s.heap.get? b = some o) (ai : Airy o) (hd : o.data = .fields vs) (h0 : K.h0.get? b = none) (hi : i < vs.size)
  (q : ∀ h' o', h'.get? b = some o' → o'.cls = o.cls → o'.data = .fields (vs.setIfInBounds i x) → Heap.ExtBut b s.heap h' → SInv K σ { s with heap := h' } → Stp [] σ s σ { s with heap := h' } → Q () { s with heap := h' }) : wpAny K.M A (setField (.ref b) i x) Q E s := by
 have hd' := Obj.data_mapFields hd (·.setIfInBounds i x)
 have e' := Heap.get?_update_self (Obj.mapFields (·.setIfInBounds i x)) e (Obj.isFreed_of_fields hd')
 have hs : Heap.ExtBut b s.heap (s.heap.update b (Obj.mapFields (·.setIfInBounds i x))) := fun c o hc g => (Heap.get?_update_other _ _ (Ne.symm hc)).trans g
 have hcl : (Obj.mapFields (·.setIfInBounds i x) o).cls = o.cls := Obj.cls_mapFields _ _
 obtain ⟨J, st⟩ := air_turn I e ai h0 hs ⟨_, e', ⟨by rw [hcl]; exact ai.1, _, hd'⟩, hcl⟩
 exact wpAny_setField e hd hi (q _ _ e' hcl hd' hs J st)
theorem note_ok {A : Around} {l : List Env} {L : Addr} {σ : Sto} {s : Shared} {ev : Value} {Q : Unit → Shared → Prop} {E : Value → Shared → Prop} (hfr : A.frames = some (env :: l)) (hf : env.frame = some L) (fr : FrOk K A σ s.heap) (I : SInv K σ s) (x : ExcAt K s.heap ev)
  (q : ∀ s', ExcT K s'.heap ev → SInv K σ s' → Stp [] σ s σ s' → Q () s') : wpAny K.M A (noteFrame ev env) Q E s := by
 obtain ⟨a, oe, vs, rfl, h0, e, hc, hd, hsz, ht⟩ := x
 have aiE := airyE hc hd
 have entry : ∀ (head : Value) (hn : Bool) (s₁ : Shared) (o₁ : Obj) (vs₁ : Array Value), SInv K σ s₁ → Stp [] σ s σ s₁ → s₁.heap.get? a = some o₁ → o₁.cls = .type "IndexError" → o₁.data = .fields vs₁ → 1 < vs₁.size →
   wpAny K.M A (do let f ← frameOf env; let pl ← entryPlaceOf L hn; let b ← EntryCells.newEntry head f .none (rawInt L) .none pl; setField (.ref a) 1 b) Q E s₁ := by
  intro head hn s₁ o₁ vs₁ I₁ st₁ e₁ hc₁ hd₁ hsz₁
  obtain ⟨ff, fS⟩ := (fr.step st₁).fun hfr
  refine wpAny_bind (wpAny_frameOf_fun hfr ff hf fun h₂ hs₂ => ?_)
  obtain ⟨I₂, st₂⟩ := slots_turn I₁ hs₂ fS
  refine wpAny_bind (wpAny_entryPlaceOf fun pl hpl => ?_)
  unfold EntryCells.newEntry newFields
  refine wpAny_bind (wpAny_newObj_type ?_ (hpl.sizeOk5 _ _ _ _ _))
  have hna : a ∉ (env :: l).filterMap (·.frame) := fun hm => by
   obtain ⟨_, _, o, g, hD⟩ := fS a hm
   rw [e₁] at g; cases g
   exact hD.nf _ hd₁
  have e₂ : h₂.get? a = some o₁ := (hs₂.2.1 a hna).trans e₁
  have k : ∀ b o, h₂.get? b = some o → (h₂.push { cls := .type "traceback", dict := none, data := .fields ([head, .ref L, .none, rawInt L, .none] ++ (if pl.isEmpty then List.replicate 6 Value.none else pl)).toArray }).get? b = some o := fun b o g => Heap.get?_push_of_some _ g
  have I₃ := I₂.grow (tk := s₁.toks) k
  have hT0 : K.h0.get? h₂.objs.size = none := (I₂.offNew (none_of_ge (Nat.le_refl _))).2
  refine setField_ok I₃ (k _ _ e₂) (airyE hc₁ hd₁) hd₁ h0 hsz₁ fun h' o' g hcl hdd hext J st' => ?_
  have hTa : h₂.objs.size ≠ a := Nat.ne_of_gt (Heap.lt_size e₂)
  refine q _ ⟨a, o', _, rfl, h0, g, hcl.trans hc₁, hdd, by simpa using hsz₁, h₂.objs.size, _, _, by simp [hsz₁], hT0, hext _ _ hTa (Heap.get?_push_size _ rfl), rfl, rfl, ?_⟩ J (((st₁.trans st₂).trans (.grow (tk := s₁.toks) k)).trans st')
  simp only [List.size_toArray, List.length_append, List.length_cons, List.length_nil]; (subst_vars; grind only)
 unfold noteFrame
 simp only [hf]
 rcases ht with h1 | ⟨T, oT, ts, h1, hT0, eT, hcT, hdT, hszT⟩
 ·refine wpAny_bind (wpAny_field e hd h1 ?_)
  rw [if_neg (by decide)]
  exact entry .none _ s oe vs I (.refl ..) e hc hd hsz
 ·refine wpAny_bind (wpAny_field e hd h1 ?_)
  rw [if_pos (show (Value.ref T != Value.none) = true from by simp)]
  refine wpAny_bind (wpAny_field eT hdT (x := ts[3]) (by simp [hszT]) ?_)
  by_cases hsame : (ts[3] == rawInt L) = true
  ·rw [if_pos hsame]
   exact wpAny_pure (q s ⟨a, oe, vs, rfl, h0, e, hc, hd, hsz, T, oT, ts, h1, hT0, eT, hcT, hdT, hszT⟩ I (.refl ..))
  ·rw [if_neg hsame]
   have hTa : T ≠ a := fun z => by
    subst z; rw [e] at eT; cases eT
    rw [hc] at hcT; injection hcT with hcT; exact absurd hcT (by decide)
   refine wpAny_bind (setField_ok I eT (airyT hcT hdT) hdT hT0 hszT fun h' o' g hcl hdd hext J st' => ?_)
   exact entry (.ref T) _ _ oe vs J st' (hext _ _ (Ne.symm hTa) e) hc hd hsz
theorem setFlight_ok {A : Around} {σ : Sto} {s : Shared} {ev : Value} {f : Option Addr} {Q : Unit → Shared → Prop} {E : Value → Shared → Prop} (I : SInv K σ s) (x : ExcT K s.heap ev) (q : ∀ s', ExcT K s'.heap ev → SInv K σ s' → Stp [] σ s σ s' → Q () s') : wpAny K.M A (setFlight ev f) Q E s := by
 obtain ⟨a, oe, vs, rfl, h0, e, hc, hd, hsz, T, oT, ts, h1, hT0, eT, hcT, hdT, hszT⟩ := x
 have hTa : T ≠ a := fun z => by
  subst z; rw [e] at eT; cases eT
  rw [hc] at hcT; injection hcT with hcT; exact absurd hcT (by decide)
 unfold setFlight
 refine wpAny_bind (wpAny_field e hd h1 ?_)
 rw [if_pos (show (Value.ref T != Value.none) = true from by simp)]
 refine setField_ok I eT (airyT hcT hdT) hdT hT0 hszT fun h' o' g hcl hdd hext J st' => ?_
 exact q _ ⟨a, oe, vs, rfl, h0, hext _ _ (Ne.symm hTa) e, hc, hd, hsz, T, o', _, h1, hT0, g, hcl.trans hcT, hdd, by simpa using hszT⟩ J st'
theorem leaving_ok {A : Around} {l : List Env} {L : Addr} {σ : Sto} {s : Shared} {ev : Value} {Q : Unit → Shared → Prop} {E : Value → Shared → Prop} (hfr : A.frames = some (env :: l)) (hf : env.frame = some L) (fr : FrOk K A σ s.heap) (I : SInv K σ s) (x : ExcAt K s.heap ev)
  (q : ∀ s', ExcT K s'.heap ev → SInv K σ s' → Stp [] σ s σ s' → Q () s') : wpAny K.M A (leaving env ev) Q E s := by
 unfold leaving
 refine wpAny_bind (note_ok hfr hf fr I x fun s₁ x₁ I₁ st₁ => setFlight_ok I₁ x₁ fun s₂ x₂ I₂ st₂ => q s₂ x₂ I₂ (st₁.trans st₂))
end
section
variable {K : Ktx} {d : Nat} {env : Env} {nm : List Str}
noncomputable def forGoX (T : PT) (B : PS) (ok : Sto → Prop) : List MV → Loc → Sto → (MF → Loc → Sto → Prop) → (Sto → Prop) → Prop
 | [], ρ, σ, Q, _ => Q .next ρ σ
 | x :: xs, ρ, σ, Q, X => T x ρ fun ρ₁ => B ρ₁ σ (fun f ρ₂ σ₂ => match f with
  | .next | .cont => ok σ₂ ∧ forGoX T B ok xs ρ₂ σ₂ Q X
  | .brk => Q .next ρ₂ σ₂
  | .ret m => Q (.ret m) ρ₂ σ₂) X
inductive PostXT (K : Ktx) (env : Env) (nm : List Str) (A : Around) (own : List Addr) (σ : Sto) (s : Shared) (X : Sto → Prop) (e : Value) (s' : Shared) : Prop
 | mk (ρ' : Loc) (σ' : Sto) (r : ExcT K s'.heap e) (F : FInv K env nm ρ' A σ' s') (st : Stp own σ s σ' s') (q : X σ')
def PostFX (K : Ktx) (env : Env) (nm : List Str) (A : Around) (own : List Addr) (σ : Sto) (s : Shared) (Q : MF → Loc → Sto → Prop) (X : Sto → Prop) : Result → Shared → Prop :=
 fun r s' => match r with
  | .ok f => PostO K env nm A own σ s Q f s'
  | .error e => PostXT K env nm A own σ s X e s'
theorem forLoopX_ok {tgt : Expr} {body : List Stmt} {T : PT} {B : PS} {I : Addr} {fp : List Addr} {items : List MV} {ok : Sto → Prop} {St : Nat → Shared → Prop} (hT : RefT K d env nm (ownOf env) tgt T) (hB : RefL K d env nm body B) (S : Src K I fp tgt items ok St)
  {A : Around} {ρ : Loc} {σ : Sto} {s : Shared} {Q : MF → Loc → Sto → Prop} {X : Sto → Prop} (hfun : env.func.isSome = true) (rm : Room d A) (F : FInv K env nm ρ A σ s) (hok : ok σ) (hst : St 0 s) (hfp : ∀ b ∈ fp, σ b = none ∧ K.h0.get? b = none) (p : forGoX T B ok items ρ σ Q X) :
  codeAny K.M A (.forLoop tgt (.ref I) body [] env) (PostFX K env nm A (ownOf env ++ fp) σ s Q X) s := by
 refine codeAny_forLoop_any (ForI K env nm A fp items ok St σ s fun xs ρ' σ' => forGoX T B ok xs ρ' σ' Q X) ?_ items.length
  ⟨0, ρ, σ, by simp, Nat.zero_le _, F, hok, hst, hfp, .refl .., by simpa using p⟩
 rintro n s₁ ⟨i, ρ₁, σ₁, rfl, hi, F₁, ok₁, st₁, fp₁, stp₁, p₁⟩
 have rm0 : Room 0 A := rm.mono (Nat.zero_le _)
 by_cases hlt : i < items.length
 ·have hd : items.drop i = items[i] :: items.drop (i + 1) := by rw [List.drop_eq_getElem_cons hlt]
  rw [hd] at p₁
  refine S.item A i σ₁ s₁ items[i] _ _ rm0 (by simp [hlt]) F₁.inv ok₁ st₁ fp₁ fun v s₂ r₂ I₂ stp₂ st₂ lo => ?_
  have F₂ := F₁.stepO I₂ stp₂ fun b hb => by obtain ⟨o, vs, a1, a2, a3, _⟩ := S.aux i s₁ st₁ b hb; exact ⟨o, vs, a1, a2, a3⟩
  refine lo A _ _ (wpAny_mono (hT A ρ₁ σ₁ s₂ v _ _ _ rm F₂ r₂ p₁) ?_ fun _ _ h => h)
  rintro _ s₃ ⟨ρ₃, F₃, stp₃, p₃⟩
  refine wpAny_mono (hB A ρ₃ σ₁ s₃ _ _ rm F₃ p₃) ?_ ?_
  rotate_left
  ·rintro e s₄ ⟨ρ₄, σ₄, ex, F₄, stp₄, hx⟩
   obtain ⟨⟨l, hl⟩, hfrm⟩ := F₃.top hfun
   refine note_ok hl hfrm F₄.stk F₄.inv ex fun s₅ x₅ I₅ st₅ => ?_
   exact ⟨ρ₄, σ₄, x₅, F₄.step I₅ st₅, stp₁.trans ((stp₂.mono fun b hb => List.mem_append_right _ hb).trans (((stp₃.trans stp₄).mono fun b hb => List.mem_append_left _ hb).trans st₅.nil)), hx⟩
  rintro f s₄ ⟨mf, ρ₄, σ₄, r₄, F₄, stp₄, q₄⟩
  have stp : Stp (ownOf env ++ fp) σ s σ₄ s₄ := stp₁.trans ((stp₂.mono fun b hb => List.mem_append_right _ hb).trans ((stp₃.trans stp₄).mono fun b hb => List.mem_append_left _ hb))
  have offo : ∀ b ∈ fp, b ∉ ownOf env := fun b hb hm => by
   obtain ⟨o, vs, a1, a2, _⟩ := S.aux _ _ st₂ b hb
   rcases List.mem_cons.mp hm with q | q
   ·subst q
    obtain ⟨g, ⟨o', es, ep, e', hd', _⟩, _⟩ := F₂.ns
    rw [a1] at e'; cases e'; rw [a2] at hd'; cases hd'
   ·obtain ⟨⟨y, c⟩, hm', rfl⟩ := List.mem_map.mp q
    obtain ⟨vo, ⟨o', e', hd'⟩, _⟩ := F₂.cells y c hm'
    rw [a1] at e'; cases e'; rw [a2] at hd'; cases hd'
  have kfp : ∀ b ∈ fp, ∀ o, s₂.heap.get? b = some o → s₄.heap.get? b = some o := fun b hb o e => by
   obtain ⟨o', e', q⟩ := (stp₃.trans stp₄).keep b o e (fp₁ b hb).1 (offo b hb)
   obtain ⟨o₂, vs, a1, a2, _, T, b1, b2, b3, b4⟩ := S.aux _ _ st₂ b hb
   rw [e] at a1; cases a1
   rw [e', q.same b1 b2 b3 b4]
  have st₄ := S.keep _ _ s₄ st₂ kfp
  have fp₄ : ∀ b ∈ fp, σ₄ b = none ∧ K.h0.get? b = none := fun b hb => by
   obtain ⟨o, vs, a1, _⟩ := S.aux _ _ st₂ b hb
   exact ⟨(stp₃.trans stp₄).dom b o a1 (fp₁ b hb).1 (offo b hb), (fp₁ b hb).2⟩
  rcases r₄ with _ | _ | _ | r₄
  ·exact ⟨_, by omega, i + 1, ρ₄, σ₄, rfl, hlt, F₄, q₄.1, st₄, fp₄, stp, q₄.2⟩
  ·exact ⟨.next, ρ₄, σ₄, .next, F₄, stp, q₄⟩
  ·exact ⟨_, by omega, i + 1, ρ₄, σ₄, rfl, hlt, F₄, q₄.1, st₄, fp₄, stp, q₄.2⟩
  ·exact ⟨.ret _, ρ₄, σ₄, .ret r₄, F₄, stp, q₄⟩
 ·have hin : i = items.length := by omega
  subst hin
  rw [List.drop_length] at p₁
  refine S.done A σ₁ s₁ _ _ rm0 F₁.inv ok₁ st₁ fp₁ fun s₂ I₂ stp₂ => wpAny_execs_nil ?_
  have F₂ := F₁.stepO I₂ stp₂ fun b hb => by obtain ⟨o, vs, a1, a2, a3, _⟩ := S.aux _ s₁ st₁ b hb; exact ⟨o, vs, a1, a2, a3⟩
  exact ⟨.next, ρ₁, σ₁, .next, F₂, stp₁.trans (stp₂.mono fun b hb => List.mem_append_right _ hb), p₁⟩
def sForX (T : PT) (B : PS) (P : PE) : PS := fun ρ σ Q X => P ρ σ (fun m σ₁ => IterOf m σ₁ fun items ok => forGoX T B ok items ρ σ₁ Q X) X
theorem back_ok {A : Around} {σ : Sto} {s : Shared} {ev : Value} {E : Value → Shared → Prop} (I : SInv K σ s) (x : ExcT K s.heap ev) (q : ∀ s', ExcT K s'.heap ev → SInv K σ s' → Stp [] σ s σ s' → E ev s') : cameBackBy K.M A env E ev s := by
 obtain ⟨a, oe, vs, rfl, h0, e, hc, hd, hsz, T, oT, ts, h1, hT⟩ := id x
 unfold cameBackBy
 refine wpAny_bind (wpAny_field e hd h1 ?_)
 rw [if_neg (show ¬ (Value.ref T == Value.none) = true from by simp)]
 exact setFlight_ok I x q
theorem RefS.forX {tgt iter : Expr} {body : List Stmt} {pos : Pos} {T : PT} {B : PS} {P : PE} (hi : RefE K d env nm iter P) (hT : RefT K d env nm (ownOf env) tgt T) (hB : RefL K d env nm body B)
  (hfun : env.func.isSome = true := by rfl) (hs : ∀ x, foldedSetIterable iter env x = pure x := by intro _; rfl) : RefS K d env nm (.For tgt iter body [] pos) (sForX T B P) := fun A ρ σ s Q X rm F pp => by
 refine wpAny_For (wpAny_mono (hi A ρ σ s _ X rm F pp) ?_ fun _ _ h => h.up F) hs
 rintro v s₁ ⟨m, σ₁, r, I₁, st₁, q⟩
 refine iter_ok I₁ r q ?_
 rintro it s₂ ⟨I, items, ok, St, h', rfl, p, S, hst, hok, hI, rfl, k⟩
 have F₁ := F.step I₁ st₁
 have off := I₁.offNew hI
 have dr : ∀ {σ' s'}, Stp (ownOf env ++ [I]) σ₁ { s₁ with heap := h', toks := s₁.toks } σ' s' → Stp (ownOf env) σ s σ' s' := fun st' => st₁.nil.trans (st'.drop k (fun _ _ e => e) fun b hb => by
  rcases List.mem_append.mp hb with hb | hb
  ·exact .inl hb
  ·rw [List.mem_singleton.mp hb]; exact .inr hI)
 refine codeAny_mono (forLoopX_ok hT hB (S tgt) hfun rm (F₁.grow (tk := s₁.toks) k) hok hst (fun b hb => by rw [List.mem_singleton.mp hb]; exact off) p) ?_
 rintro r s' hr
 cases r with
 | error e =>
  obtain ⟨ρ', σ', x, F', st', hx⟩ := hr
  exact back_ok F'.inv x fun s₃ x₃ I₃ st₃ => ⟨ρ', σ', x₃.at, F'.step I₃ st₃, (dr st').trans st₃.nil, hx⟩
 | ok f =>
  obtain ⟨mf, ρ', σ', r', F', st', q'⟩ := hr
  exact ⟨mf, ρ', σ', r', F', dr st', q'⟩
theorem SoundF.ofX {a : Addr} {o : Obj} {fd : FuncData} {body : List Stmt} {names nm : List Str} {P : PS} {S : List MV → Sto → (MV → Sto → Prop) → (Sto → Prop) → Prop} (ho : K.h0.get? a = some o) (hd : o.data = .func fd) (hlim : K.h0.NoLimit) (hcd : K.h0.CodeRec fd.code fd.qualname)
  (hbody : fd.body = .stmts body) (hbind : ∀ vals, vals.length = names.length → bindArgs fd ⟨vals, []⟩ = pure (names.zip vals)) (hn : nm.take names.length = names) (hu : nm.Nodup)
  (hl : ∀ x ∈ names, fd.scope.names.lookup x = some .local ∨ fd.scope.names.lookup x = some .cell) (hfree : ∀ x : Str, fd.scope.names.lookup x ≠ some .free)
  (hlc : ∀ L x c, (x, c) ∈ cellsFrom L fd.scope.names [] → (cellsFrom L fd.scope.names []).lookup x = some c) (hcl : ∀ L x, fd.scope.names.lookup x = some .cell → ((cellsFrom L fd.scope.names []).lookup x).isSome = true)
  (hL : ∀ L, RefL K d (callEnvC fd L a) nm body P)
  (hS : ∀ ms σ Q X, S ms σ Q X → ms.length = names.length ∧ P (args ms) σ (fun f _ σ' => match f with | .ret m => Q m σ' | .next => Q .none σ' | _ => False) X)
  (hclo : fd.closure = [] := by rfl) (hco : fd.scope.isCoroutine = false := by rfl) (hgen : fd.scope.isGenerator = false := by rfl) (hk : fd.scope.kind = .function := by rfl) : SoundF K (d + 1) a S := fun A s σ vals ms Q X rm I fr rs p => by
 obtain ⟨hlen, p⟩ := hS ms σ Q X p
 have hvl : vals.length = names.length := rs.length.trans hlen
 have hfst : ∀ x ∈ names.zip vals, x.1 ∈ names := fun x hx => (List.of_mem_zip (a := x.1) (b := x.2) hx).1
 refine codeAny_call_cells (by have := rm.2.1; simp only [recursionLimit]; lia) (I.old _ _ ho) hd (hlim.keeps I.old) (hcd.keeps I.old) hbody (hbind vals hvl) hclo (fun x hx => ?_) (fun s₁ x => ?_) hco hgen hk
 ·rcases hl x.1 (hfst x hx) with h | h
  ·exact .inl h
  ·exact .inr ⟨h, hcl _ _ h⟩
 ·obtain ⟨F, st⟩ := first_frame (a := a) I fr rs hlen hn hu hk hl hfree (hlc _) x
  obtain ⟨h', tk, rfl, k⟩ := x.done
  have hnew : ∀ b ∈ ownOf (callEnvC fd s.heap.objs.size a), s.heap.get? b = none := fun b hb => by
   rcases List.mem_cons.mp hb with rfl | hb
   ·exact none_of_ge (Nat.le_refl _)
   ·obtain ⟨⟨y, c⟩, hm, rfl⟩ := List.mem_map.mp hb
    exact none_of_ge (Nat.le_of_lt (x.above y c hm))
  refine wpAny_mono (hL _ _ _ σ _ _ _ rm.deeper F p) ?_ ?_
  ·rintro f s₂ ⟨mf, ρ', σ', r, F', st', q⟩
   have stp : Stp [] σ s σ' s₂ := st'.drop k (fun _ _ e => e) fun b hb => .inr (hnew b hb)
   rcases r with _ | _ | _ | r <;> first | exact q.elim | skip
   ·exact ⟨.none, σ', .none, F'.inv, stp, q⟩
   ·exact ⟨_, σ', r, F'.inv, stp, q⟩
  ·rintro e s₂ ⟨ρ', σ', ex, F', st', hx⟩
   have stp : Stp [] σ s σ' s₂ := st'.drop k (fun _ _ e => e) fun b hb => .inr (hnew b hb)
   obtain ⟨⟨l, hl'⟩, hfrm⟩ := F.top rfl
   exact leaving_ok hl' hfrm F'.stk F'.inv ex fun s₃ x₃ I₃ st₃ => ⟨σ', x₃.at, I₃, stp.trans st₃, hx⟩
end
section
variable {K : Ktx} {d : Nat} {env : Env} {nm : List Str}
theorem sub_idx_base : isSubtype (.type "IndexError") (.type "BaseException") = pure true := by rw [isSubtype_type]; kernel_rfl
theorem sub_idx_self : isSubtype (.type "IndexError") (.type "IndexError") = pure true := by rw [isSubtype_type]; kernel_rfl
theorem sub_idx_tuple : isSubtype (.type ((Manifest.find? "IndexError").elim "type" fun x => x.metatype)) (.type "tuple") = pure false := by
 have : ((Manifest.find? "IndexError").elim "type" fun x => x.metatype) = "type" := by kernel_rfl
 rw [this, isSubtype_type]; kernel_rfl
def sTryN (B : PS) : PS := fun ρ σ Q X => B ρ σ Q fun σ' => ∀ ρ', Q (.ret .none) ρ' σ'
theorem RefS.tryN {body : List Stmt} {p p2 p3 p4 pos : Pos} {k : Nat} {B : PS} (G : GName K "IndexError" (.type "IndexError")) (hB : RefL K d env nm body B)
  (hx : env.kindOf "IndexError" = some .globalImplicit := by rfl) (hk : env.scope.kind = .function := by rfl) (hg : env.globals = mainGlobals := by rfl) (hb : env.builtins = builtinsNs := by rfl) (hfun : env.func.isSome = true := by rfl) :
  RefS K d env nm (.Try body [.ExceptHandler (some (.Name "IndexError" p)) none [.Return (some (.Constant .none k p2)) p3] p4] [] [] pos) (sTryN B) := fun A ρ σ s Q X rm F pp => by
 refine wpAny_Try_except (wpAny_mono (hB A ρ σ s Q _ rm F pp) ?_ ?_)
 ·rintro f s₁ ⟨mf, ρ₁, σ₁, r, F₁, st₁, q⟩
  rcases r with _ | _ | _ | r
  ·exact wpAny_execs_nil ⟨.next, ρ₁, σ₁, .next, F₁, st₁, q⟩
  ·exact ⟨.brk, ρ₁, σ₁, .brk, F₁, st₁, q⟩
  ·exact ⟨.cont, ρ₁, σ₁, .cont, F₁, st₁, q⟩
  ·exact ⟨.ret _, ρ₁, σ₁, .ret r, F₁, st₁, q⟩
 ·rintro e s₁ ⟨ρ₁, σ₁, ex, F₁, st₁, q⟩
  obtain ⟨⟨l, hl⟩, hf⟩ := F₁.top hfun
  refine note_ok hl hf F₁.stk F₁.inv ex fun s₂ x₂ I₂ st₂ => setFlight_ok I₂ x₂ fun s₃ x₃ I₃ st₃ => ?_
  have F₃ := (F₁.step I₂ st₂).step I₃ st₃
  obtain ⟨a, oe, vs, rfl, h0, he, hc, _⟩ := id x₃
  refine wpAny_handleBy_builtin (X := "IndexError") (T := "IndexError") (b := true) sub_idx_base sub_idx_tuple sub_idx_self ?_
  refine load_global I₃ G ⟨rfl, ⟨oe, he, hc⟩, ?_⟩ hk hx hg hb (by decide)
  simp only [if_true]
  refine setFlight_ok I₃ x₃ fun s₄ x₄ I₄ st₄ => ?_
  refine wpAny_execs_cons (wpAny_Return_some (wpAny_Constant_none ?_))
  exact ⟨.ret .none, ρ₁, σ₁, .ret .none, F₃.step I₄ st₄, st₁.trans ((st₂.trans st₃).trans st₄).nil, q ρ₁⟩
end
section
variable {M : Model} {A : Around} {R : GenEnd} {Y : Protocol} {n : Nat} {s₀ : Shared} {c : Code} {fs : List Frame} {s : Shared} {env : Env}
 {K' : Flow → Sem Fin} {H : Value → Sem Fin} {gd : Bool → Bool} {lv : List Value → List Value}
theorem seg_quiet {st : Stmt} (h : wpAny M (A.over c fs) (exec st env) (fun f s' => Seg M A R Y n s₀ c (K' f) fs s') (fun x s' => Seg M A R Y n s₀ c (H x) fs s') s) : Seg M A R Y n s₀ c ((exec st env).wrap K' H gd lv) fs s := seg_wrap h
theorem seg_If {test : Expr} {body orelse : List Stmt} {pos : Pos}
  (h : wpAny M (A.over c fs) (isTrue test env (eval test env)) (fun b s' => Seg M A R Y n s₀ c ((if b = true then execs body env else execs orelse env).wrap K' H gd lv) fs s') (fun x s' => Seg M A R Y n s₀ c (H x) fs s') s) :
  Seg M A R Y n s₀ c ((exec (.If test body orelse pos) env).wrap K' H gd lv) fs s := by
 rw [exec_If]
 refine seg_bind_wrap (wpAny_standAt ?_)
 exact seg_bind_wrap h
theorem seg_For {target iter : Expr} {body orelse : List Stmt} {pos : Pos}
  (h : wpAny M (A.over c fs) (eval iter env) (fun x s₁ => wpAny M (A.over c fs) (pyIter x) (fun it s₂ =>
   ∀ p, Seg M A R Y n s₀ (.forLoop target it body orelse env) (M.den (.forLoop target it body orelse env))
   (.ret (fun r => ((match r with | .ok f => (.pure f : Sem Flow) | .error e => .raise e).onRaise fun (x : Value) => do
    if (← field x 1) == Value.none then unsupported "frame.own-activation:exception-without-traceback"
    setFlight x env.frame).wrap K' H gd lv) none (gd false) (lv []) c p [] :: fs) s₂) (fun x s' => Seg M A R Y n s₀ c (H x) fs s') s₁) (fun x s' => Seg M A R Y n s₀ c (H x) fs s') s)
  (hs : ∀ x, foldedSetIterable iter env x = pure x := by intro _; rfl) :
  Seg M A R Y n s₀ c ((exec (.For target iter body orelse pos) env).wrap K' H gd lv) fs s := by
 rw [exec_For]
 refine seg_bind_wrap (wpAny_standAt ?_)
 refine seg_bind_wrap (wpAny_mono h (fun x s₁ h₁ => ?_) fun _ _ h => h)
 refine seg_bind_wrap (wpAny_of_eq (hs x) ?_)
 refine seg_bind_wrap (wpAny_standAt ?_)
 refine seg_bind_wrap (wpAny_holding (wpAny_mono h₁ (fun it s₂ h₂ => ?_) fun _ _ h => h))
 exact seg_call h₂
end
section
variable {prog : Program} {w : World} {A : Around} {R : GenEnd} {Y : Protocol} {n : Nat} {s₀ : Shared} {fs : List Frame} {s : Shared} {env : Env}
theorem seg_forLoop {target : Expr} {it : Value} {body orelse : List Stmt}
  (h : wpAny (model prog w) (A.over (.forLoop target it body orelse env) fs) (pyNext it) (fun r s₁ => match r with
    | none => Seg (model prog w) A R Y n s₀ (.forLoop target it body orelse env) (.pure (.again (.block orelse env))) fs s₁
    | some v => wpAny (model prog w) (A.over (.forLoop target it body orelse env) fs) (letOwnedTupleGo target it v) (fun _ s₂ => wpAny (model prog w) (A.over (.forLoop target it body orelse env) fs) (assign target env v) (fun _ s₃ =>
      Seg (model prog w) A R Y n s₀ (.forLoop target it body orelse env) ((execs body env).wrap (fun f => match f with
       | .next | .cont => .pure (.again (.forLoop target it body orelse env))
       | .brk => .pure (.done .next)
       | .ret v => .pure (.done (.ret v))) (fun e => (do noteFrame e env; theTreesLotGoes e : Sem Unit).wrap (fun _ => .raise e) .raise id id) id id) fs s₃) (fun _ _ => False) s₂) (fun _ _ => False) s₁) (fun _ _ => False) s) :
  Seg (model prog w) A R Y n s₀ (.forLoop target it body orelse env) ((model prog w).den (.forLoop target it body orelse env)) fs s := by
 show Seg _ A R Y n s₀ _ ((forTurn target it body orelse env).onRaise (fun x => do noteFrame x env; theTreesLotGoes x)) fs s
 unfold forTurn
 rw [Sem.onRaise_eq_wrap]
 refine seg_bind_wrap (wpAny_standAt ?_)
 refine seg_bind_wrap (wpAny_onRaise (wpAny_mono h (fun r s₁ h₁ => ?_) fun _ _ h => h.elim))
 cases r with
 | none => exact h₁
 | some v =>
  refine seg_bind_wrap (wpAny_mono h₁ (fun _ s₂ h₂ => ?_) fun _ _ h => h.elim)
  refine seg_bind_wrap (wpAny_mono h₂ (fun _ s₃ h₃ => ?_) fun _ _ h => h.elim)
  rw [Sem.bind_eq_wrap', Sem.wrap_wrap]
  rw [Sem.wrap_congr (execs body env) _ _ (K' := fun f => match f with
      | .next | .cont => .pure (.again (.forLoop target it body orelse env))
      | .brk => .pure (.done .next)
      | .ret v => .pure (.done (.ret v))) (H' := (fun e => (do noteFrame e env; theTreesLotGoes e : Sem Unit).wrap (fun _ => .raise e) .raise id id))
    (fun f => by cases f <;> rfl)
    (fun e => by first | exact Sem.bind_eq_wrap _ _ | (show (do noteFrame e env; theTreesLotGoes e : Sem Unit).bind (fun _ => .raise e) = _; rw [Sem.bind_eq_wrap]))]
  exact h₃
end
theorem next_gen {prog : Program} {w : World} {A : Around} {E : Value → Shared → Prop} {s : Shared} {a : Addr} {g n : Nat} {gs : GenState} {P : Nat → Shared → Shared → Prop} {Y : Protocol} {Q : Option Value → Shared → Prop} (hh : A.handled = none)
  (hl : s.heap.NoLimit) (hroom : A.depth < recursionLimit) (hg : s.heap.IsGen a g) (hgs : s.gens[g]? = some gs)
  (hgo : gs.Goes (model prog w) A.in1 (fun n s₀ r s₁ => r = .ok (.ret .none) ∧ P n s₀ s₁) Y n (.send .none) (s.setGen g .running))
  (hY : ∀ v s₁ gs', gs'.bare = true → Y (n - 1) (s.setGen g .running) v s₁ (fun r' s'' => match n with
    | 0 => False
    | m + 1 => gs'.Goes (model prog w) A.in1 (fun n s₀ r s₁ => r = .ok (.ret .none) ∧ P n s₀ s₁) Y m r' s'') → Q (some v) (s₁.setGen g gs'))
  (hP : ∀ s₁, P n (s.setGen g .running) s₁ → ∀ h', (∀ b o, s₁.heap.get? b = some o → h'.get? b = some o) → Q none { s₁.setGen g .finished with heap := h' }) :
  wpAny (model prog w) A (pyNext (.ref a)) Q E s := by
 have stop : ∀ {α β : Type} (k : α → Sem β) (s₁ : Shared) (Q' : β → Shared → Prop) (E' : Value → Shared → Prop), P n (s.setGen g .running) s₁ → (∀ b o h', h'.get? b = some o → o.cls = .type "StopIteration" → (∀ b o, s₁.heap.get? b = some o → h'.get? b = some o) → E' (.ref b) { s₁.setGen g .finished with heap := h' }) →
   wpAny (model prog w) A.in1 (newExc (.type "StopIteration") [] >>= fun e => (raiseNew e : Sem α) >>= k) Q' E' (s₁.setGen g .finished) := fun k s₁ Q' E' hp he => by
  refine wpAny_bind ?_
  simp only [newExc, newTuple]
  refine wpAny_bind (wpAny_newObj_type ?_ (by size_fits))
  refine wpAny_bind (m := firstArgMember _ _) (wpAny_of_eq (a := Value.none) (by first | rfl | (simp only [firstArgMember]; rfl)) ?_)
  refine wpAny_newObj_type ?_ (by size_fits)
  simp only [raiseNew]
  refine wpAny_bind (wpAny_bind (wpAny_bind (wpAny_handled ?_)))
  first | rw [show A.in1.handled = none from hh] | rw [hh]
  first | refine wpAny_throw ?_ | refine wpAny_pure (wpAny_throw ?_) | refine wpAny_pure (wpAny_bind (wpAny_throw ?_))
  exact he _ _ _ (Heap.get?_push_size _ rfl) rfl fun b o hb => Heap.get?_push_of_some _ (Heap.get?_push_of_some _ hb)
 unfold pyNext
 refine wpAny_bind (wpAny_attempt (wpAny_callSpecial?_slot (name := Str.ofString "__next__") hg.typeIs slot_gen_next (wpAny_call_entry slot_gen_next hg.typeIs entry_gen_next ?_ (args_gen_next _))))
 show wpAny _ A.in1 (Builtin.Generator.genWake (.ref a) (.send .none)) _ _ s
 unfold Builtin.Generator.genWake
 refine wpAny_bind (wpAny_holding (wpAny_genNumber hg (wpAny_bind (wpAny_genState hgs ?_))))
 cases gs with
 | running => exact hgo.elim
 | finished => exact hgo.elim
 | _ =>
  refine wpAny_bind (wpAny_roomToWake hl hroom ?_)
  show wpAny _ A.in1 (.resume g (.send .none) [] _) _ _ s
  refine wpAny_resumeQ hgs hgo (fun x s₁ hx => ?_) (fun v s₁ gs' hb hv => wpAny_pure ⟨v, rfl, wpAny_pure (hY v s₁ gs' hb hv)⟩)
  obtain ⟨rfl, hp⟩ := hx
  exact stop _ s₁ _ _ hp fun b o h' h1 h2 h3 => wpAny_bind (wpAny_isInstance (T := "StopIteration") (b := true) ⟨_, h1, h2⟩ isSubtype_stop (wpAny_pure (hP s₁ hp _ h3)))
noncomputable def nm_iec : List Str := ["addr", "pos", "escape", "ch"]
noncomputable abbrev genv (L : Addr) : Env := callEnvC fd_iec L 38
theorem iec_parts : ∃ (A0 A1 a1 a2 : Stmt) (tgt it t1 e1 t2 e2 t3 e3 : Expr) (p1 p2 p3 p4 p5 p6 p7 p8 p9 p10 : Pos),
  bd_iec = [A0, A1, .For tgt it [.If t1 [.Expr (.Yield (some e1) p1) p2, a1] [.If t2 [a2] [.Expr (.Yield (some e2) p3) p4] p5] p6] [] p7, .If t3 [.Expr (.Yield (some e3) p8) p9] [] p10] ∧
  (∃ pp pk pq pr, A0 = .Assign [.Name "pos" pp] (.Constant (.int 0) pk pq) pr) ∧ (∃ pp pk pq pr, A1 = .Assign [.Name "escape" pp] (.Constant (.bool false) pk pq) pr) ∧ (∃ es k p, tgt = .Tuple es k p) ∧ (∃ pn pa pc, it = .Call (.Name "enumerate" pn) [.Name "addr" pa] [] pc) ∧ (∀ (L : Addr) (x : Value), foldedSetIterable it (genv L) x = pure x) ∧
  ∀ (K : Ktx) (d : Nat) (L : Addr),
   RefS K d (genv L) nm_iec A0 (sSet 1 (pK (.int 0))) ∧ RefS K d (genv L) nm_iec A1 (sSet 2 (pK (.bool false))) ∧ RefS K d (genv L) nm_iec a1 (sSet 2 (pK (.bool false))) ∧ RefS K d (genv L) nm_iec a2 (sSet 2 (pK (.bool true))) ∧
   RefT K d (genv L) nm_iec (ownOf (genv L)) tgt (tTup (tCons (tV 1) (tCons (tV 3) tNil))) ∧
   RefB K d (genv L) nm_iec t1 (pTruth (pV 2)) ∧ RefE K d (genv L) nm_iec e1 (pTup (pCons (pV 1) (pCons (pBin oAdd (pK (.str [92])) (pV 3)) pNil))) ∧
   RefB K d (genv L) nm_iec t2 (pCmpB (cEq false) (pV 3) (pK (.str [92]))) ∧ RefE K d (genv L) nm_iec e2 (pTup (pCons (pV 1) (pCons (pV 3) pNil))) ∧
   RefB K d (genv L) nm_iec t3 (pTruth (pV 2)) ∧ RefE K d (genv L) nm_iec e3 (pTup (pCons (pV 1) (pCons (pK (.str [92])) pNil))) := by
 refine ⟨_, _, _, _, _, _, _, _, _, _, _, _, _, _, _, _, _, _, _, _, _, _, rfl, ⟨_, _, _, _, rfl⟩, ⟨_, _, _, _, rfl⟩, ⟨_, _, _, rfl⟩, ⟨_, _, _, rfl⟩, fun _ _ => rfl, fun K d L => ⟨?_, ?_, ?_, ?_, ?_, ?_, ?_, ?_, ?_, ?_, ?_⟩⟩
 first | with_reducible refine RefS.asgL (i := 1) RefE.int | refine RefS.asgL (i := 1) RefE.int
 first | with_reducible refine RefS.asgL (i := 2) RefE.bool | refine RefS.asgL (i := 2) RefE.bool
 first | with_reducible refine RefS.asgL (i := 2) RefE.bool | refine RefS.asgL (i := 2) RefE.bool
 first | with_reducible refine RefS.asgL (i := 2) RefE.bool | refine RefS.asgL (i := 2) RefE.bool
 first | with_reducible refine RefT.tup (n := 2) ?_ (Tln.cons Tw.v (Tln.cons Tw.v Tln.nil)) | refine RefT.tup (n := 2) ?_ (Tln.cons Tw.v (Tln.cons Tw.v Tln.nil))
 first | with_reducible refine Ts.cons (fun b hb => hb) ((RefT.nameL (i := 1))).st1 ?_ | refine Ts.cons (fun b hb => hb) ((RefT.nameL (i := 1))).st1 ?_
 first | with_reducible refine Ts.cons (fun b hb => hb) ((RefT.nameL (i := 3))).st1 Ts.nil | refine Ts.cons (fun b hb => hb) ((RefT.nameL (i := 3))).st1 Ts.nil
 first | with_reducible refine RefB.val ?_ | refine RefB.val ?_
 first | with_reducible refine RefE.varL (i := 2) | refine RefE.varL (i := 2)
 first | with_reducible refine RefE.tup ?_ | refine RefE.tup ?_
 first | with_reducible refine RefA.cons ?_ ?_ | refine RefA.cons ?_ ?_
 first | with_reducible refine RefE.varL (i := 1) | refine RefE.varL (i := 1)
 first | with_reducible refine RefA.cons ?_ RefA.nil | refine RefA.cons ?_ RefA.nil
 first | with_reducible refine RefE.bin Op2.add ?_ ?_ | refine RefE.bin Op2.add ?_ ?_
 first | with_reducible refine RefE.str (l := [92]) | refine RefE.str (l := [92])
 first | with_reducible refine RefE.varL (i := 3) | refine RefE.varL (i := 3)
 first | with_reducible refine RefB.cmp Cmp2.eq ?_ ?_ | refine RefB.cmp Cmp2.eq ?_ ?_
 first | with_reducible refine RefE.varL (i := 3) | refine RefE.varL (i := 3)
 first | with_reducible refine RefE.str (l := [92]) | refine RefE.str (l := [92])
 first | with_reducible refine RefE.tup ?_ | refine RefE.tup ?_
 first | with_reducible refine RefA.cons ?_ ?_ | refine RefA.cons ?_ ?_
 first | with_reducible refine RefE.varL (i := 1) | refine RefE.varL (i := 1)
 first | with_reducible refine RefA.cons ?_ RefA.nil | refine RefA.cons ?_ RefA.nil
 first | with_reducible refine RefE.varL (i := 3) | refine RefE.varL (i := 3)
 first | with_reducible refine RefB.val ?_ | refine RefB.val ?_
 first | with_reducible refine RefE.varL (i := 2) | refine RefE.varL (i := 2)
 first | with_reducible refine RefE.tup ?_ | refine RefE.tup ?_
 first | with_reducible refine RefA.cons ?_ ?_ | refine RefA.cons ?_ ?_
 first | with_reducible refine RefE.varL (i := 1) | refine RefE.varL (i := 1)
 first | with_reducible refine RefA.cons ?_ RefA.nil | refine RefA.cons ?_ RefA.nil
 first | with_reducible refine RefE.str (l := [92]) | refine RefE.str (l := [92])
noncomputable abbrev E0 : Sto := fun _ => none
noncomputable abbrev kk (K : Ktx) (s₀ : Shared) (hid : List Addr) : Ktx := { prog := K.prog, w := K.w, h0 := hideAll s₀.heap hid, os := s₀.os }
def Simple (m : MV) : Prop := m = .none ∨ (∃ b, m = .bool b) ∨ (∃ i, m = .int i) ∨ ∃ l, m = .str l
theorem Rep.any {h h' : Heap} {v : Value} {m : MV} (r : Rep h v m) (s : Simple m) : Rep h' v m := by
 rcases s with rfl | ⟨b, rfl⟩ | ⟨i, rfl⟩ | ⟨l, rfl⟩
 ·cases r.none_inv; exact .none
 ·cases r.bool_inv; exact .bool b
 ·obtain ⟨t, rfl⟩ := r.int_inv; exact .int i t
 ·obtain ⟨t, rfl⟩ := r.str_inv; exact .str l t
theorem SInv.empty {K : Ktx} {s : Shared} (h1 : ∀ b o, K.h0.get? b = some o → s.heap.get? b = some o) (h2 : s.os = K.os) (h3 : AllBare s.gens) : SInv K E0 s := ⟨h1, fun _ _ _ => rfl, fun _ _ e => (by cases e), h2, h3⟩
def FrAt (A : Around) (fr : List Addr) : Prop := ∃ l, A.frames = some l ∧ ∀ e ∈ l, e.scope.kind ≠ .module ∧ ∃ L, e.frame = some L ∧ L ∈ fr
def FrD (fr : List Addr) (h : Heap) : Prop := ∀ b ∈ fr, ∃ o, h.get? b = some o ∧ IsD o
theorem gen_frame {K : Ktx} {A A' : Around} {fr hid : List Addr} {L : Addr} {ρ : Loc} {s : Shared} (hA : FrAt A fr) (hA' : ∀ l, A.frames = some l → A'.frames = some (genv L :: l)) (hD : FrD fr s.heap) (hb : AllBare s.gens) (hL : L ∈ hid) (hfr : ∀ b ∈ fr, b ∈ hid)
  (hn : NsOk (genv L) nm_iec ρ s.heap) : FInv (kk K s hid) (genv L) nm_iec ρ A' E0 s := by
 obtain ⟨l, hl, hl'⟩ := hA
 refine ⟨.empty (fun b o e => of_hideAll _ e) rfl hb, hn, fun x c hc => (by cases hc), ⟨rfl, hideAll_none _ hL⟩, fun x c hc => (by cases hc), fun x y c hc => (by cases hc), fun x c c' hc => (by cases hc), ⟨genv L :: l, hA' l hl, fun e he => ?_⟩, fun _ => ⟨⟨l, hA' l hl⟩, rfl⟩⟩
 rcases List.mem_cons.mp he with rfl | he
 ·obtain ⟨m, ⟨o, es, ep, g, hd, _⟩, _⟩ := hn
  exact ⟨by show fd_iec.scope.kind ≠ .module; decide, L, o, rfl, g, ⟨es, ep, hd⟩, rfl, hideAll_none _ hL⟩
 ·obtain ⟨k, L', h1, h2⟩ := hl' e he
  obtain ⟨o, g, hd⟩ := hD L' h2
  exact ⟨k, L', o, h1, g, hd, rfl, hideAll_none _ (hfr _ h2)⟩
theorem FInv.around {K : Ktx} {env : Env} {nm : List Str} {ρ : Loc} {A A' : Around} {σ : Sto} {s : Shared} (F : FInv K env nm ρ A σ s) (h : A'.frames = A.frames) : FInv K env nm ρ A' σ s :=
 ⟨F.inv, F.ns, F.cells, F.offL, F.offC, F.sep, F.one, by obtain ⟨l, h1, h2⟩ := F.stk; exact ⟨l, h.trans h1, h2⟩, fun q => by obtain ⟨⟨l, hl⟩, hf⟩ := F.top q; exact ⟨⟨l, h.trans hl⟩, hf⟩⟩
noncomputable def escGo : List Nat → Nat → Bool → List MV
 | [], i, false => []
 | [], i, true => [.tup [.int ((i : Int) - 1), .str [92]]]
 | c :: cs, i, true => .tup [.int i, .str [92, c]] :: escGo cs (i + 1) false
 | c :: cs, i, false => if c = 92 then escGo cs (i + 1) true else .tup [.int i, .str [c]] :: escGo cs (i + 1) false
noncomputable def escEnd : List Nat → Bool → Bool
 | [], b => b
 | _ :: cs, true => escEnd cs false
 | c :: cs, false => if c = 92 then escEnd cs true else escEnd cs false
def genR (K : Ktx) (hid fp : List Addr) : Nat → Shared → Shared → Prop := fun n s₀ s => n = 0 ∧ SInv (kk K s₀ hid) E0 s ∧ Stp fp E0 s₀ E0 s
noncomputable def genY (K : Ktx) (hid fp fr : List Addr) (items : List MV) : Protocol := fun m s₀ v s kap =>
 (∃ it, items[items.length - 1 - m]? = some it ∧ Rep s.heap v it) ∧ (∀ b ∈ fp, ∃ o, s.heap.get? b = some o ∧ ¬ Firm o) ∧ SInv (kk K s₀ hid) E0 s ∧ Stp fp E0 s₀ E0 s ∧
  ∀ s'' : Shared, (∀ b ∈ fp, ∀ o, s.heap.get? b = some o → Kept s''.heap b o) → AllBare s''.gens → FrD fr s''.heap → kap (.send .none) s''
noncomputable def lastAt (x : List Nat) (i : Nat) : Int := ((min i x.length : Nat) : Int) - 1
structure GI (K : Ktx) (hid : List Addr) (A1 : Around) (L E J : Addr) (x : List Nat) (xt : Tok) (s₀ s : Shared) (ρ : Loc) (i : Nat) (b : Bool) : Prop where
 F : FInv (kk K s₀ hid) (genv L) nm_iec ρ A1 E0 s
 esc : ρ 2 = some (.bool b)
 pos : b = true → 0 < i ∧ ρ 1 = some (.int (lastAt x i))
 simple : ∀ j m, ρ j = some m → Simple m
 st : Stp [L, E, J] E0 s₀ E0 s
 en : ∃ (k : Int) (old : Value), IsEnum s.heap E J k old ∧ (i ≤ x.length → k = i)
 it : i ≤ x.length → s.heap.IsStrIter J "str_ascii_iterator" ⟨x.toArray⟩ xt i
theorem GI.again {K : Ktx} {hid fr : List Addr} {A A1 : Around} {L E J : Addr} {x : List Nat} {xt : Tok} {s₀ s s'' : Shared} {ρ : Loc} {i : Nat} {b : Bool} (g : GI K hid A1 L E J x xt s₀ s ρ i b) (hA : FrAt A fr) (hA1 : ∀ l, A.frames = some l → A1.frames = some (genv L :: l)) (hL : L ∈ hid) (hfr : ∀ b ∈ fr, b ∈ hid)
  (keep : ∀ b ∈ [L, E, J], ∀ o, s.heap.get? b = some o → Kept s''.heap b o) (hb : AllBare s''.gens) (hD : FrD fr s''.heap) : GI K hid A1 L E J x xt s'' s'' ρ i b := by
 obtain ⟨m, hn, hv⟩ := g.F.ns
 refine ⟨gen_frame hA hA1 hD hb hL hfr ⟨m, Heap.Ns.slot hn fun o e => keep L (by simp) o e, fun i y mv h1 h2 h3 => ?_⟩, g.esc, g.pos, g.simple, .refl .., ?_, ?_⟩
 ·obtain ⟨v, h4, h5⟩ := hv i y mv h1 h2 h3
  exact ⟨v, h4, h5.any (g.simple _ _ h3)⟩
 ·obtain ⟨k, old, h, hk⟩ := g.en
  obtain ⟨o', e', q⟩ := keep E (by simp) _ h
  exact ⟨k, old, by unfold IsEnum; rw [e', q.same (T := "enumerate") rfl (by decide) (by decide) (fun ⟨_, _, z⟩ => by cases z)], hk⟩
 ·intro hi
  obtain ⟨o, e, hc, hd⟩ := g.it hi
  obtain ⟨o', e', q⟩ := keep J (by simp) o e
  rw [q.same hc (by decide) (by decide) (fun ⟨_, _, z⟩ => by rw [hd] at z; cases z)] at e'
  exact ⟨o, e', hc, hd⟩
theorem GI.move {K : Ktx} {hid : List Addr} {A1 : Around} {L E J : Addr} {x : List Nat} {xt : Tok} {s₀ s s' : Shared} {ρ ρ' : Loc} {i : Nat} {b b' : Bool} (g : GI K hid A1 L E J x xt s₀ s ρ i b) (F : FInv (kk K s₀ hid) (genv L) nm_iec ρ' A1 E0 s') (st : Stp [L] E0 s E0 s') (hLE : L ≠ E) (hLJ : L ≠ J)
  (h1 : ρ' 2 = some (.bool b')) (h2 : b' = true → 0 < i ∧ ρ' 1 = some (.int (lastAt x i))) (h3 : ∀ j m, ρ' j = some m → Simple m) : GI K hid A1 L E J x xt s₀ s' ρ' i b' := by
 refine ⟨F, h1, h2, h3, g.st.trans (st.mono fun b hb => by rw [List.mem_singleton.mp hb]; simp), ?_, ?_⟩
 ·obtain ⟨k, old, h, hk⟩ := g.en
  obtain ⟨o', e', q⟩ := st.keep E _ h rfl (by simpa using hLE.symm)
  exact ⟨k, old, by unfold IsEnum; rw [e', q.same (T := "enumerate") rfl (by decide) (by decide) (fun ⟨_, _, z⟩ => by cases z)], hk⟩
 ·intro hi
  obtain ⟨o, e, hc, hd⟩ := g.it hi
  obtain ⟨o', e', q⟩ := st.keep J _ e rfl (by simpa using hLJ.symm)
  rw [q.same hc (by decide) (by decide) (fun ⟨_, _, z⟩ => by rw [hd] at z; cases z)] at e'
  exact ⟨o, e', hc, hd⟩
theorem airNot {o : Obj} {T : String} {vs : Array Value} (hc : o.cls = .type T) (hd : o.data = .fields vs) (h : T ≠ "tuple" ∧ T ≠ "builtin_function_or_method" ∧ T ≠ "range") : ¬ Firm o := by
 rintro (⟨_, _, rfl⟩ | ⟨_, _, rfl⟩ | ⟨_, _, _, _, _, _, rfl⟩) <;> injection hc with hc <;> simp_all
theorem hid_turn {K : Ktx} {hid own : List Addr} {A1 : Around} {ρ : Loc} {L : Addr} {s₀ s : Shared} {h' : Heap} {tk : Nat} (F : FInv (kk K s₀ hid) (genv L) nm_iec ρ A1 E0 s) (ho : ∀ b ∈ own, b ∈ hid) (hs : ∀ b o, b ∉ own → s.heap.get? b = some o → h'.get? b = some o)
  (aux : ∀ b ∈ own, ∃ o vs, s.heap.get? b = some o ∧ o.data = .fields vs ∧ ¬ Firm o) : FInv (kk K s₀ hid) (genv L) nm_iec ρ A1 E0 { s with heap := h', toks := tk } ∧ Stp own E0 s E0 { s with heap := h', toks := tk } := by
 have st : Stp own E0 s E0 { s with heap := h', toks := tk } := ⟨fun b o e _ hb => ⟨o, hs b o hb e, .refl o⟩, fun _ _ _ _ _ => rfl, fun _ _ e => e⟩
 refine ⟨F.stepO (.empty (fun b o e => hs b o (fun hb => ?_) (F.inv.old b o e)) F.inv.os F.inv.bare) st aux, st⟩
 have := hideAll_none hid (h := s₀.heap) (ho b hb)
 have e' : (hideAll s₀.heap hid).get? b = some o := e
 rw [this] at e'; cases e'
theorem gen_turn {K : Ktx} {hid : List Addr} {A1 A2 : Around} {L E J : Addr} {x : List Nat} {xt : Tok} {s₀ s : Shared} {ρ : Loc} {i : Nat} {b : Bool} {c : Nat} {tgt : Expr} {Q : Option Value → Shared → Prop} {X : Value → Shared → Prop} (rm : Room 1 A2) (hfr : A2.frames = A1.frames) (hE : E ∈ hid) (hJ : J ∈ hid) (hLE : L ≠ E) (hLJ : L ≠ J) (hEJ : E ≠ J)
  (ht : ∃ es k p, tgt = .Tuple es k p) (hT : ∀ K, RefT K 1 (genv L) nm_iec (ownOf (genv L)) tgt (tTup (tCons (tV 1) (tCons (tV 3) tNil))))
  (g : GI K hid A1 L E J x xt s₀ s ρ i b) (hc : x[i]? = some c)
  (q : ∀ v s₁, (∀ (Q' : Unit → Shared → Prop) (X' X'' : Value → Shared → Prop), (∀ s₃ ρ', GI K hid A1 L E J x xt s₀ s₃ ρ' (i + 1) b → ρ' 1 = some (.int i) → ρ' 3 = some (.str [c]) → Q' () s₃) →
   wpAny K.M A2 (letOwnedTupleGo tgt (.ref E) v) (fun _ s₂ => wpAny K.M A2 (assign tgt (genv L) v) Q' X' s₂) X'' s₁) → Q (some v) s₁) :
  wpAny K.M A2 (pyNext (.ref E)) Q X s := by
 obtain ⟨es, k, p, rfl⟩ := ht
 have hi : i < x.length := (List.getElem?_eq_some_iff.mp hc).1
 obtain ⟨ke, old, he, hke⟩ := g.en
 cases hke (Nat.le_of_lt hi)
 have git := g.it (Nat.le_of_lt hi)
 obtain ⟨oJ, eJ, hcJ, hdJ⟩ := id git
 have auxE : ∃ o vs, s.heap.get? E = some o ∧ o.data = .fields vs ∧ ¬ Firm o := ⟨_, _, he, rfl, airNot rfl rfl (by decide)⟩
 have auxJ : ∃ o vs, s.heap.get? J = some o ∧ o.data = .fields vs ∧ ¬ Firm o := ⟨_, _, eJ, hdJ, airNot hcJ hdJ (by decide)⟩
 refine wpAny_pyNext_enum_itemD (Draws.strAscii (A := A2.in1) rm.1 J ⟨x.toArray⟩ xt) he git (by simpa using hi) hEJ (by simpa using hEJ) fun v h' tk hP ho hst htup hsz hk => q _ _ fun Q' X' X'' hq => ?_
 obtain ⟨c', u, hc', rfl⟩ := hP
 have : c' = c := by simp [hc] at hc'; exact hc'.symm
 subst this
 obtain ⟨F₁, st₁⟩ := hid_turn (tk := tk + 1) (own := [E, J]) (h' := h') g.F (by simp [hE, hJ]) (fun b o hb e => hk b o (fun z => hb (by simp [z])) (fun z => hb (by simp [z])) e) (by
  intro b hb
  rcases List.mem_cons.mp hb with rfl | hb
  ·exact auxE
  ·rw [List.mem_singleton.mp hb]; exact auxJ)
 refine wpAny_letOwnedTupleGo_enum ho fun h₂ he₂ hs₂ => ?_
 obtain ⟨F₂, st₂⟩ := hid_turn (tk := tk + 1) (own := [E]) (h' := h₂) F₁ (by simp [hE]) (fun b o hb e => hs₂.extBut b o (by simpa using hb) e) (by
  intro b hb
  rw [List.mem_singleton.mp hb]
  exact ⟨_, _, ho, rfl, airNot rfl rfl (by decide)⟩)
 have hT0 : s.heap.get? s.heap.objs.size = none := none_of_ge (Nat.le_refl _)
 have hTE : s.heap.objs.size ≠ E := Nat.ne_of_gt (Heap.lt_size (show s.heap.get? E = some _ from he))
 have rT : Rep h₂ (.ref s.heap.objs.size) (.tup [.int (i : Int), .str [c']]) := .tup (vs := [.int (i : Int) tk, .str ⟨#[c']⟩ u]) (n := 0) (hs₂.extBut _ _ hTE htup) (.cons (.int _ _) (.cons (.str [c'] u) .nil))
 refine wpAny_mono (hT (kk K s₀ hid) A2 ρ E0 _ _ _ (fun ρ' => ρ' = upd (upd ρ 1 (.int i)) 3 (.str [c'])) X' rm (F₂.around hfr) rT ⟨_, rfl, _, _, rfl, _, _, rfl, rfl, rfl⟩) ?_ fun _ _ h => h
 rintro _ s₃ ⟨ρ', F₃, st₃, rfl⟩
 have st3 : Stp [L] E0 _ E0 s₃ := st₃
 have keepE := st3.keep E _ he₂ rfl (by simpa using hLE.symm)
 have hJ₂ : h₂.IsStrIter J "str_ascii_iterator" ⟨x.toArray⟩ xt (i + 1) := let ⟨o, e, r⟩ := hst; ⟨o, hs₂.extBut J o hEJ.symm e, r⟩
 obtain ⟨oj, ej, hcj, hdj⟩ := id hJ₂
 have keepJ := st3.keep J _ ej rfl (by simpa using hLJ.symm)
 refine hq s₃ _ ⟨F₃.around hfr.symm, by simpa [upd] using g.esc, fun _ => ⟨Nat.succ_pos _, by simp [upd, lastAt, Nat.min_eq_left (show i + 1 ≤ x.length from hi)]⟩, fun j m hj => ?_, ?_, ?_, ?_⟩ (by simp [upd]) (by simp [upd])
 ·by_cases h3 : j = 3
  ·subst h3; simp [upd] at hj; subst hj; exact .inr (.inr (.inr ⟨_, rfl⟩))
  ·by_cases h1 : j = 1
   ·subst h1; simp [upd] at hj; subst hj; exact .inr (.inr (.inl ⟨_, rfl⟩))
   ·simp [upd, h3, h1] at hj; exact g.simple _ _ hj
 ·exact ((g.st.trans (st₁.mono fun b hb => List.mem_cons_of_mem _ hb)).trans (st₂.mono fun b hb => by rw [List.mem_singleton.mp hb]; simp)).trans (st3.mono fun b hb => by rw [List.mem_singleton.mp hb]; simp)
 ·obtain ⟨o', e', z⟩ := keepE
  have hcast : ((i + 1 : Nat) : Int) = (i : Int) + 1 := by simp
  rw [z.same (T := "enumerate") rfl (by decide) (by decide) (fun ⟨_, _, w⟩ => by cases w)] at e'
  exact ⟨_, _, e', fun _ => hcast.symm⟩
 ·obtain ⟨o', e', z⟩ := keepJ
  rw [z.same hcj (by decide) (by decide) (fun ⟨_, _, w⟩ => by rw [hdj] at w; cases w)] at e'
  exact fun _ => ⟨oj, e', hcj, hdj⟩
structure Gst (K : Ktx) (hid fr : List Addr) (A A1 A2 : Around) (L E J : Addr) : Prop where
 hA : FrAt A fr
 hA1 : ∀ l, A.frames = some l → A1.frames = some (genv L :: l)
 rm : Room 1 A2
 same : A2.frames = A1.frames
 hL : L ∈ hid
 hE : E ∈ hid
 hJ : J ∈ hid
 hfr : ∀ b ∈ fr, b ∈ hid
 LE : L ≠ E
 LJ : L ≠ J
 EJ : E ≠ J
noncomputable abbrev gR (K : Ktx) (hid : List Addr) (L E J : Addr) : GenEnd := fun n s₀ r s₁ => r = .ok (.ret .none) ∧ genR K hid [L, E, J] n s₀ s₁
noncomputable abbrev gY (K : Ktx) (hid fr : List Addr) (L E J : Addr) (items : List MV) : Protocol := genY K hid [L, E, J] fr items
theorem gen_yield {K : Ktx} {hid fr : List Addr} {A A1 : Around} {L E J : Addr} {x : List Nat} {xt : Tok} {items : List MV} {s₀ s : Shared} {ρ : Loc} {i n : Nat} {b : Bool} {c : Code} {fs : List Frame} {K' : Flow → Sem PySem.Fin} {H : Value → Sem PySem.Fin} {e : Expr} {p p2 : Pos} {P : PE} {it : MV}
  (S : Gst K hid fr A A1 (A.over c fs) L E J) (g : GI K hid A1 L E J x xt s₀ s ρ i b) (hfs : splitAtGen fs = none) (hfg : fs.any Frame.guarded = false) (he : ∀ K, RefE K 1 (genv L) nm_iec e P) (hp : P ρ E0 (fun m σ' => m = it ∧ σ' = E0) (fun _ => False)) (hit : items[items.length - 1 - n]? = some it)
  (hi : i ≤ x.length) (cont : ∀ s'', GI K hid A1 L E J x xt s'' s'' ρ i b → Seg K.M A (gR K hid L E J) (gY K hid fr L E J items) n s'' c (K' .next) fs s'') :
  Seg K.M A (gR K hid L E J) (gY K hid fr L E J items) (n + 1) s₀ c ((exec (.Expr (.Yield (some e) p) p2) (genv L)).wrap K' H id id) fs s := by
 refine seg_Expr_Yield hfs rfl hfg (wpAny_mono (he (kk K s₀ hid) (A.over c fs) ρ E0 s _ _ S.rm (g.F.around S.same) hp) ?_ fun _ _ h => not_fly h)
 rintro v s' ⟨m, σ', r, I, st, rfl, rfl⟩ kap hk
 have g' : GI K hid A1 L E J x xt s₀ s' ρ i b := g.move (g.F.step I st) st.nil S.LE S.LJ g.esc g.pos g.simple
 have nf : ∀ b ∈ [L, E, J], ∃ o, s'.heap.get? b = some o ∧ ¬ Firm o := fun b hb => by
  rcases List.mem_cons.mp hb with rfl | hb
  ·obtain ⟨m', ⟨o', es, ep, e', hd, _⟩, _⟩ := g'.F.ns
   exact ⟨o', e', notFirm_dict hd⟩
  rcases List.mem_cons.mp hb with rfl | hb
  ·obtain ⟨k', old, he', _⟩ := g'.en
   exact ⟨_, he', airNot rfl rfl (by decide)⟩
  ·rw [List.mem_singleton.mp hb]
   obtain ⟨o', e', hc', hd'⟩ := g'.it hi
   exact ⟨o', e', airNot hc' hd' (by decide)⟩
 refine ⟨⟨_, hit, r⟩, nf, I, g'.st, fun s'' keep bare frd => hk .none s'' ?_⟩
 exact cont s'' (g'.again S.hA S.hA1 S.hL S.hfr keep bare frd)
theorem gen_quiet {K : Ktx} {hid fr : List Addr} {A A1 : Around} {L E J : Addr} {x : List Nat} {xt : Tok} {items : List MV} {s₀ s : Shared} {ρ ρ' : Loc} {i n : Nat} {b b' : Bool} {c : Code} {fs : List Frame} {K' : Flow → Sem PySem.Fin} {H : Value → Sem PySem.Fin} {st : Stmt} {P : PS}
  (S : Gst K hid fr A A1 (A.over c fs) L E J) (g : GI K hid A1 L E J x xt s₀ s ρ i b) (hst : ∀ K, RefS K 1 (genv L) nm_iec st P) (hp : P ρ E0 (fun f ρ₁ σ' => f = .next ∧ ρ₁ = ρ' ∧ σ' = E0) (fun _ => False))
  (h1 : ρ' 2 = some (.bool b')) (h2 : b' = true → 0 < i ∧ ρ' 1 = some (.int (lastAt x i))) (h3 : ∀ j m, ρ' j = some m → Simple m)
  (cont : ∀ s', GI K hid A1 L E J x xt s₀ s' ρ' i b' → Seg K.M A (gR K hid L E J) (gY K hid fr L E J items) n s₀ c (K' .next) fs s') :
  Seg K.M A (gR K hid L E J) (gY K hid fr L E J items) n s₀ c ((exec st (genv L)).wrap K' H id id) fs s := by
 refine seg_quiet (wpAny_mono (hst (kk K s₀ hid) (A.over c fs) ρ E0 s _ _ S.rm (g.F.around S.same) hp) ?_ fun _ _ h => not_flyS h)
 rintro f s' ⟨mf, ρ₁, σ', r, F', st', rfl, rfl, rfl⟩
 cases r
 exact cont s' (g.move (F'.around S.same.symm) st' S.LE S.LJ h1 h2 h3)
theorem gen_if {K : Ktx} {hid fr : List Addr} {A A1 : Around} {L E J : Addr} {x : List Nat} {xt : Tok} {items : List MV} {s₀ s : Shared} {ρ : Loc} {i n : Nat} {b v : Bool} {c : Code} {fs : List Frame} {K' : Flow → Sem PySem.Fin} {H : Value → Sem PySem.Fin} {t : Expr} {a o : List Stmt} {p : Pos} {P : PB}
  (S : Gst K hid fr A A1 (A.over c fs) L E J) (g : GI K hid A1 L E J x xt s₀ s ρ i b) (ht : ∀ K, RefB K 1 (genv L) nm_iec t P) (hp : P ρ E0 (fun w σ' => w = v ∧ σ' = E0) (fun _ => False))
  (cont : ∀ s', GI K hid A1 L E J x xt s₀ s' ρ i b → Seg K.M A (gR K hid L E J) (gY K hid fr L E J items) n s₀ c ((execs (if v then a else o) (genv L)).wrap K' H id id) fs s') :
  Seg K.M A (gR K hid L E J) (gY K hid fr L E J items) n s₀ c ((exec (.If t a o p) (genv L)).wrap K' H id id) fs s := by
 refine seg_If (wpAny_mono (ht (kk K s₀ hid) (A.over c fs) ρ E0 s _ _ S.rm (g.F.around S.same) hp) ?_ fun _ _ h => not_fly h)
 rintro w s' ⟨σ', I, st, rfl, rfl⟩
 have g' : GI K hid A1 L E J x xt s₀ s' ρ i b := g.move (g.F.step I st) st.nil S.LE S.LJ g.esc g.pos g.simple
 have := cont s' g'
 cases w
 ·simpa using this
 ·simpa using this
theorem idx_mid {α : Type} {pre rest items : List α} {a : α} (h : items = pre ++ a :: rest) : items[items.length - 1 - rest.length]? = some a := by
 subst h
 have : (pre ++ a :: rest).length - 1 - rest.length = pre.length := by simp
 rw [this]; simp
theorem gen_loop {K : Ktx} {hid fr : List Addr} {A A1 : Around} {L E J : Addr} {x : List Nat} {xt : Tok} {items : List MV} {fs : List Frame} {tgt t1 e1 t2 e2 : Expr} {a1 a2 : Stmt} {p1 p2 p3 p4 p5 p6 : Pos}
  (S : ∀ (b : List Stmt), Gst K hid fr A A1 (A.over (.forLoop tgt (.ref E) b [] (genv L)) fs) L E J) (hfs : splitAtGen fs = none) (hfg : fs.any Frame.guarded = false) (hz : x.length + 2 ≤ sizeLine)
  (ht : ∃ es k p, tgt = .Tuple es k p)
  (hparts : ∀ (K : Ktx), RefS K 1 (genv L) nm_iec a1 (sSet 2 (pK (.bool false))) ∧ RefS K 1 (genv L) nm_iec a2 (sSet 2 (pK (.bool true))) ∧
   RefT K 1 (genv L) nm_iec (ownOf (genv L)) tgt (tTup (tCons (tV 1) (tCons (tV 3) tNil))) ∧
   RefB K 1 (genv L) nm_iec t1 (pTruth (pV 2)) ∧ RefE K 1 (genv L) nm_iec e1 (pTup (pCons (pV 1) (pCons (pBin oAdd (pK (.str [92])) (pV 3)) pNil))) ∧
   RefB K 1 (genv L) nm_iec t2 (pCmpB (cEq false) (pV 3) (pK (.str [92]))) ∧ RefE K 1 (genv L) nm_iec e2 (pTup (pCons (pV 1) (pCons (pV 3) pNil))))
  (body : List Stmt) (hbody : body = [.If t1 [.Expr (.Yield (some e1) p1) p2, a1] [.If t2 [a2] [.Expr (.Yield (some e2) p3) p4] p5] p6])
  (hend : ∀ s₀ s ρ pre, items = pre ++ escGo [] x.length false → GI K hid A1 L E J x xt s₀ s ρ (x.length + 1) false →
   Seg K.M A (gR K hid L E J) (gY K hid fr L E J items) (escGo [] x.length false).length s₀ (.forLoop tgt (.ref E) body [] (genv L)) (.pure (.again (.block [] (genv L)))) fs s) :
  ∀ k i b pre s₀ s ρ, k = x.length - i → i ≤ x.length → items = pre ++ escGo (x.drop i) i b → escEnd (x.drop i) b = false → GI K hid A1 L E J x xt s₀ s ρ i b →
   Seg K.M A (gR K hid L E J) (gY K hid fr L E J items) (escGo (x.drop i) i b).length s₀ (.forLoop tgt (.ref E) body [] (genv L)) (K.M.den (.forLoop tgt (.ref E) body [] (genv L))) fs s := by
 intro k
 induction k with
 | zero =>
  intro i b pre s₀ s ρ hk hi hp he0 g
  have : i = x.length := by (subst_vars; omega)
  subst this
  rw [List.drop_length] at hp he0 ⊢
  have hb0 : b = false := he0
  subst hb0
  refine seg_forLoop ?_
  obtain ⟨ke, old, he, hke⟩ := g.en
  cases hke (Nat.le_refl _)
  have git : s.heap.IsStrIter J "str_ascii_iterator" ⟨x.toArray⟩ xt (⟨x.toArray⟩ : Str).cps.size := by simpa using g.it (Nat.le_refl _)
  obtain ⟨oJ, eJ, hcJ, hdJ⟩ := id git
  refine wpAny_pyNext_enum_endD (Draws.strAscii (A := (A.over (.forLoop tgt (.ref E) body [] (genv L)) fs).in1) (S body).rm.1 J ⟨x.toArray⟩ xt) he git fun h' hs => ?_
  obtain ⟨F₁, st₁⟩ := hid_turn (tk := s.toks) (own := [J]) (h' := h') g.F (by simp [(S body).hJ]) (fun b o hb e => hs b o (by simpa using hb) e) (by
   intro b hb
   rw [List.mem_singleton.mp hb]
   exact ⟨_, _, eJ, hdJ, airNot hcJ hdJ (by decide)⟩)
  have heE : h'.get? E = some _ := hs E _ (S body).EJ he
  refine hend s₀ _ ρ pre hp ⟨F₁, g.esc, fun hb => ⟨Nat.succ_pos _, ?_⟩, g.simple, g.st.trans (st₁.mono fun b hb => by rw [List.mem_singleton.mp hb]; simp), ⟨_, _, heE, fun h => absurd h (by walk_at "q")⟩, fun h => absurd h (by walk_at "q")⟩
  have := (g.pos hb).2
  simpa [lastAt, Nat.min_eq_right (Nat.le_succ x.length)] using this
 | succ k ih =>
  intro i b pre s₀ s ρ hk hi hp he0 g
  have hlt : i < x.length := by (subst_vars; lia)
  have hd : x.drop i = x[i] :: x.drop (i + 1) := List.drop_eq_getElem_cons hlt
  have hget : x[i]? = some x[i] := List.getElem?_eq_getElem hlt
  generalize hc : x[i] = c at hd hget
  rw [hd] at hp he0 ⊢
  obtain ⟨q1, q2, q3, q4, q5, q6, q7⟩ := hparts K
  refine seg_forLoop (gen_turn (x := x) (S body).rm (S body).same (S body).hE (S body).hJ (S body).LE (S body).LJ (S body).EJ ht (fun K => (hparts K).2.2.1) g hget fun v s₁ step => ?_)
  refine step _ _ _ fun s₃ ρ' g₃ r1 r3 => ?_
  have again : ∀ (b' : Bool) (pre' : List MV) (s₀' s' : Shared) (ρ'' : Loc), items = pre' ++ escGo (x.drop (i + 1)) (i + 1) b' → escEnd (x.drop (i + 1)) b' = false → GI K hid A1 L E J x xt s₀' s' ρ'' (i + 1) b' →
    Seg K.M A (gR K hid L E J) (gY K hid fr L E J items) (escGo (x.drop (i + 1)) (i + 1) b').length s₀' (.forLoop tgt (.ref E) body [] (genv L)) (.pure (.again (.forLoop tgt (.ref E) body [] (genv L)))) fs s' :=
   fun b' pre' s₀' s' ρ'' h1 h0 h2 => seg_again rfl (ih (i + 1) b' pre' s₀' s' ρ'' (by grind) hlt h1 h0 h2)
  subst hbody
  refine seg_execs_cons ?_
  cases b with
  | true =>
   have hp' : items = pre ++ .tup [.int (i : Int), .str [92, c]] :: escGo (x.drop (i + 1)) (i + 1) false := hp
   have hit := idx_mid hp'
   show Seg K.M A _ _ ((escGo (x.drop (i + 1)) (i + 1) false).length + 1) _ _ _ _ _
   refine gen_if (S _) g₃ (fun K => (hparts K).2.2.2.1) (v := true) ⟨_, g₃.esc, .inl ⟨_, rfl, rfl, rfl⟩⟩ fun s₄ g₄ => ?_
   simp only [if_true]
   refine seg_execs_cons (gen_yield (S _) g₄ hfs hfg (fun K => (hparts K).2.2.2.2.1) (it := .tup [.int (i : Int), .str [92, c]]) ⟨_, r1, _, r3, .inr (.inl ⟨_, _, rfl, rfl, by simp [sizeLine], by simp [sizeLine], rfl, rfl⟩)⟩ hit hlt fun s'' g₅ => ?_)
   refine seg_execs_cons (gen_quiet (S _) g₅ (fun K => (hparts K).1) (ρ' := upd ρ' 2 (.bool false)) (b' := false) ⟨rfl, rfl, rfl⟩ (by simp [upd]) (fun h => by cases h) (fun j m hj => ?_) fun s₆ g₆ => ?_)
   ·by_cases h2 : j = 2
    ·subst h2; simp [upd] at hj; subst hj; exact .inr (.inl ⟨_, rfl⟩)
    ·simp [upd, h2] at hj; exact g₅.simple _ _ hj
   ·refine seg_execs_nil (seg_execs_nil ?_)
    exact again false (pre ++ [.tup [.int (i : Int), .str [92, c]]]) _ _ _ (by rw [hp']; simp) he0 g₆
  | false =>
   refine gen_if (S _) g₃ (fun K => (hparts K).2.2.2.1) (v := false) ⟨_, g₃.esc, .inl ⟨_, rfl, rfl, rfl⟩⟩ fun s₄ g₄ => ?_
   simp only [Bool.false_eq_true, if_false]
   refine seg_execs_cons ?_
   by_cases hc92 : c = 92
   ·subst hc92
    have hp' : items = pre ++ escGo (x.drop (i + 1)) (i + 1) true := by simpa [escGo] using hp
    show Seg K.M A _ _ (escGo (92 :: x.drop (i + 1)) i false).length _ _ _ _ _
    have hn : (escGo (92 :: x.drop (i + 1)) i false).length = (escGo (x.drop (i + 1)) (i + 1) true).length := by simp [escGo]
    rw [hn]
    refine gen_if (S _) g₄ (fun K => (hparts K).2.2.2.2.2.1) (v := true) ⟨_, r3, .inr (.inl ⟨_, _, rfl, rfl, by simp⟩)⟩ fun s₅ g₅ => ?_
    simp only [if_true]
    refine seg_execs_cons (gen_quiet (S _) g₅ (fun K => (hparts K).2.1) (ρ' := upd ρ' 2 (.bool true)) (b' := true) ⟨rfl, rfl, rfl⟩ (by simp [upd]) (fun _ => ⟨Nat.succ_pos _, by simp [upd, r1, lastAt, Nat.min_eq_left (show i + 1 ≤ x.length from hlt)]⟩) (fun j m hj => ?_) fun s₆ g₆ => ?_)
    ·by_cases h2 : j = 2
     ·subst h2; simp [upd] at hj; subst hj; exact .inr (.inl ⟨_, rfl⟩)
     ·simp [upd, h2] at hj; exact g₅.simple _ _ hj
    ·exact seg_execs_nil (seg_execs_nil (seg_execs_nil (again true pre _ _ _ hp' (by simpa [escEnd] using he0) g₆)))
   ·have hp' : items = pre ++ .tup [.int (i : Int), .str [c]] :: escGo (x.drop (i + 1)) (i + 1) false := by simpa [escGo, hc92] using hp
    have hit := idx_mid hp'
    have hn : (escGo (c :: x.drop (i + 1)) i false).length = (escGo (x.drop (i + 1)) (i + 1) false).length + 1 := by simp [escGo, hc92]
    rw [hn]
    refine gen_if (S _) g₄ (fun K => (hparts K).2.2.2.2.2.1) (v := false) ⟨_, r3, .inr (.inl ⟨_, _, rfl, rfl, by simp [hc92]⟩)⟩ fun s₅ g₅ => ?_
    simp only [Bool.false_eq_true, if_false]
    refine seg_execs_cons (gen_yield (S _) g₅ hfs hfg (fun K => (hparts K).2.2.2.2.2.2) (it := .tup [.int (i : Int), .str [c]]) ⟨_, r1, _, r3, by simp [sizeLine], rfl, rfl⟩ hit hlt fun s'' g₆ => ?_)
    exact seg_execs_nil (seg_execs_nil (seg_execs_nil (again false (pre ++ [.tup [.int (i : Int), .str [c]]]) _ _ _ (by rw [hp']; simp) (by simpa [escEnd, hc92] using he0) g₆)))
theorem GName.up {K : Ktx} {x : Str} {v : Value} {s₀ : Shared} {hid : List Addr} (G : GName K x v) (hold : ∀ b o, K.h0.get? b = some o → s₀.heap.get? b = some o) (hh : ∀ b ∈ hid, K.h0.get? b = none) : GName (kk K s₀ hid) x v := by
 have k : ∀ b o, K.h0.get? b = some o → (hideAll s₀.heap hid).get? b = some o := fun b o e => hideAll_get _ (hold b o e) fun hb => by rw [hh b hb] at e; cases e
 obtain ⟨mg, h1, h2⟩ := G
 refine ⟨mg, h1.keeps k, ?_⟩
 rcases h2 with h2 | ⟨h2, mb, h3, h4⟩
 ·exact .inl h2
 ·exact .inr ⟨h2, mb, h3.keeps k, h4⟩
theorem gen_enumerate {K : Ktx} {hid : List Addr} {A1 A2 : Around} {L : Addr} {x : List Nat} {xt : Tok} {s₀ s : Shared} {ρ : Loc} {pn pa pc : Pos} {m : Str → Option Value} {Q : Value → Shared → Prop} {X : Value → Shared → Prop} (G : GName (kk K s₀ hid) "enumerate" (.type "enumerate"))
  (F : FInv (kk K s₀ hid) (genv L) nm_iec ρ A1 E0 s) (hn : s.heap.Ns L m) (hm : m "addr" = some (.str ⟨x.toArray⟩ xt))
  (q : ∀ h', IsEnum h' (s.heap.objs.size + 1) s.heap.objs.size 0 .none → h'.IsStrIter s.heap.objs.size (strIterType ⟨x.toArray⟩) ⟨x.toArray⟩ xt 0 → h'.objs.size = s.heap.objs.size + 2 →
   (∀ b o, s.heap.get? b = some o → h'.get? b = some o) → Q (.ref (s.heap.objs.size + 1)) { s with heap := h' }) :
  wpAny K.M A2 (eval (.Call (.Name "enumerate" pn) [.Name "addr" pa] [] pc) (genv L)) Q X s := by
 refine wpAny_Call_NameR (load_global (K := kk K s₀ hid) F.inv G ?_ rfl rfl rfl rfl (by decide))
 refine PySem.callWith_type rfl ?_
 rw [star_cons rfl]
 refine evalArgs_plain (spliced_cons (wpAny_Name (wpAny_loadName_local rfl rfl hn hm ?_) (by decide)))
 refine spliced_nil ?_
 exact call_enumerate_str q
theorem gen_frame' {K : Ktx} {A A' : Around} {fr hid : List Addr} {L : Addr} {ρ : Loc} {s₀ s : Shared} (hA : FrAt A fr) (hA' : ∀ l, A.frames = some l → A'.frames = some (genv L :: l)) (hD : FrD fr s.heap) (hb : AllBare s.gens) (ho : s.os = s₀.os) (hk : ∀ b o, b ∉ hid → s₀.heap.get? b = some o → s.heap.get? b = some o) (hL : L ∈ hid) (hfr : ∀ b ∈ fr, b ∈ hid)
  (hn : NsOk (genv L) nm_iec ρ s.heap) : FInv (kk K s₀ hid) (genv L) nm_iec ρ A' E0 s := by
 obtain ⟨l, hl, hl'⟩ := hA
 refine ⟨.empty (fun b o e => hk b o (fun hm => ?_) (of_hideAll _ e)) ho hb, hn, fun x c hc => (by cases hc), ⟨rfl, hideAll_none _ hL⟩, fun x c hc => (by cases hc), fun x y c hc => (by cases hc), fun x c c' hc => (by cases hc), ⟨genv L :: l, hA' l hl, fun e he => ?_⟩, fun _ => ⟨⟨l, hA' l hl⟩, rfl⟩⟩
 ·have := hideAll_none hid (h := s₀.heap) hm
  have e' : (hideAll s₀.heap hid).get? b = some o := e
  rw [this] at e'; cases e'
 ·rcases List.mem_cons.mp he with rfl | he
  ·obtain ⟨m, ⟨o, es, ep, g, hd, _⟩, _⟩ := hn
   exact ⟨by show fd_iec.scope.kind ≠ .module; decide, L, o, rfl, g, ⟨es, ep, hd⟩, rfl, hideAll_none _ hL⟩
  ·obtain ⟨k, L', h1, h2⟩ := hl' e he
   obtain ⟨o, g, hd⟩ := hD L' h2
   exact ⟨k, L', o, h1, g, hd, rfl, hideAll_none _ (hfr _ h2)⟩
theorem block_nil {K : Ktx} {A : Around} {R : GenEnd} {Y : Protocol} {n : Nat} {s₀ s : Shared} {env : Env} {fs : List Frame} (h : Seg K.M A R Y n s₀ (.block [] env) (leafOf (.ok .next)) fs s) : Seg K.M A R Y n s₀ (.block [] env) (K.M.den (.block [] env)) fs s := h
theorem over_func {A : Around} {body : List Stmt} {env : Env} {l : List Env} (h : A.frames = some l) : (A.over (.func body env) []).frames = some (env :: l) := by obtain ⟨a, b, c, d, e⟩ := A; cases h; rfl
theorem over_loop {A : Around} {body b2 b3 : List Stmt} {t : Expr} {it : Value} {env : Env} {l : List Env} {k : Result → Sem PySem.Fin} {lv : List Value} {p : Pos} {g : Bool} (h : A.frames = some l) : (A.over (.forLoop t it b2 b3 env) [.ret k none g lv (.func body env) p []]).frames = some (env :: l) := by
 obtain ⟨a, b, c, d, e⟩ := A; cases h; rfl
theorem room_func {A : Around} {body : List Stmt} {env : Env} (rm : Room 3 A) : Room 1 (A.over (.func body env) []) := ⟨rm.1, by have := rm.2.1; show A.depth + 0 + 1 + 1 ≤ 500; walk_at "q", by have := rm.2.2; show A.units + 0 + 3 + 100 * 1 ≤ 5000; omega⟩
theorem room_loop {A : Around} {body b2 b3 : List Stmt} {t : Expr} {it : Value} {env : Env} {k : Result → Sem PySem.Fin} {lv : List Value} {p : Pos} {g : Bool} (rm : Room 3 A) : Room 1 (A.over (.forLoop t it b2 b3 env) [.ret k none g lv (.func body env) p []]) := by
 refine ⟨rm.1, by have := rm.2.1; show A.depth + 1 + 0 + 1 ≤ 500; walk_at "q", ?_⟩
 have := rm.2.2
 have e : (A.over (.forLoop t it b2 b3 env) [.ret k none g lv (.func body env) p []]).units = A.units + 3 + 3 * (Code.forLoop t it b2 b3 env).frames := by
  rfl
 rw [e]
 have : (Code.forLoop t it b2 b3 env).frames = 0 := rfl
 grind
noncomputable def rho0 : Loc := fun j => if j = 1 then some (.int 0) else if j = 2 then some (.bool false) else none
theorem ns0 {L : Addr} {h : Heap} {m2 : Str → Option Value} (hn : h.Ns L m2) (hp : ∃ t, m2 "pos" = some (.int 0 t)) (he : m2 "escape" = some (.bool false)) :
  NsOk (genv L) nm_iec rho0 h := by
 refine ⟨m2, hn, fun i y mv h1 h2 h3 => ?_⟩
 by_cases i1 : i = 1
 ·subst i1
  have hy : y = "pos" := by have : nm_iec[1]? = some (Str.ofString "pos") := rfl; rw [this] at h1; exact (Option.some.inj h1).symm
  have hv : mv = .int 0 := by have : rho0 1 = some (.int 0) := rfl; rw [this] at h3; exact (Option.some.inj h3).symm
  obtain ⟨t, ht⟩ := hp
  subst hy hv
  exact ⟨_, ht, .int 0 t⟩
 ·by_cases i2 : i = 2
  ·subst i2
   have hy : y = "escape" := by have : nm_iec[2]? = some (Str.ofString "escape") := rfl; rw [this] at h1; exact (Option.some.inj h1).symm
   have hv : mv = .bool false := by have : rho0 2 = some (.bool false) := rfl; rw [this] at h3; exact (Option.some.inj h3).symm
   subst hy hv
   exact ⟨_, he, .bool false⟩
  ·simp [rho0, i1, i2] at h3
theorem rho0_simple : ∀ j m, rho0 j = some m → Simple m := fun j m h => by
 by_cases i1 : j = 1
 ·subst i1; simp [rho0] at h; subst h; exact .inr (.inr (.inl ⟨_, rfl⟩))
 ·by_cases i2 : j = 2
  ·subst i2; simp [rho0] at h; subst h; exact .inr (.inl ⟨_, rfl⟩)
  ·simp [rho0, i1, i2] at h
theorem gen_body {K : Ktx} {fr : List Addr} {A : Around} {L : Addr} {x : List Nat} {xt : Tok} {s₀ : Shared} {m : Str → Option Value} (G : GName K "enumerate" (.type "enumerate")) (rm : Room 3 A) (hA : FrAt A fr) (hD : FrD fr s₀.heap) (hb : AllBare s₀.gens) (hold : ∀ b o, K.h0.get? b = some o → s₀.heap.get? b = some o)
  (hn : s₀.heap.Ns L m) (hm : m "addr" = some (.str ⟨x.toArray⟩ xt)) (hL0 : K.h0.get? L = none) (hLfr : L ∉ fr) (hfr0 : ∀ b ∈ fr, K.h0.get? b = none) (hx : ∀ c ∈ x, c < 128) (hz : x.length + 2 ≤ sizeLine) (he0 : escEnd x false = false) :
  Seg K.M A (gR K (L :: (s₀.heap.objs.size + 1) :: s₀.heap.objs.size :: fr) L (s₀.heap.objs.size + 1) s₀.heap.objs.size) (gY K (L :: (s₀.heap.objs.size + 1) :: s₀.heap.objs.size :: fr) fr L (s₀.heap.objs.size + 1) s₀.heap.objs.size (escGo x 0 false)) (escGo x 0 false).length s₀ (.func bd_iec (genv L)) (K.M.den (.func bd_iec (genv L))) [] s₀ := by
 obtain ⟨A0, A1s, a1, a2, tgt, it, t1, e1, t2, e2, t3, e3, p1, p2, p3, p4, p5, p6, p7, p8, p9, p10, hbd, ⟨q1, q2, q3, q4, rfl⟩, ⟨r1, r2, r3, r4, rfl⟩, ht, ⟨pn, pa, pc, rfl⟩, hfold, hparts⟩ := iec_parts
 generalize hE : s₀.heap.objs.size + 1 = E
 generalize hJ : s₀.heap.objs.size = J
 have hLlt : L < J := by obtain ⟨o, _, _, e, _⟩ := hn; rw [← hJ]; exact Heap.lt_size e
 have hEJ : E = J + 1 := by rw [← hE, hJ]
 have frlt : ∀ b ∈ fr, b < J := fun b hb => by obtain ⟨o, e, _⟩ := hD b hb; rw [← hJ]; exact Heap.lt_size e
 have new0 : ∀ b, J ≤ b → K.h0.get? b = none := fun b hb => by
  cases e : K.h0.get? b with
  | none => rfl
  | some o => exact absurd (hJ ▸ Heap.lt_size (hold b o e)) (Nat.not_lt.mpr hb)
 have hh : ∀ b ∈ L :: E :: J :: fr, K.h0.get? b = none := fun b hb => by
  rcases List.mem_cons.mp hb with rfl | hb
  ·exact hL0
  rcases List.mem_cons.mp hb with rfl | hb
  ·exact new0 _ (by lia)
  rcases List.mem_cons.mp hb with rfl | hb
  ·exact new0 _ (Nat.le_refl _)
  exact hfr0 b hb
 rw [hbd]
 refine seg_func (seg_execs_cons ?_)
 refine seg_quiet (wpAny_Assign_Name (wpAny_Constant_int (wpAny_storeName_local rfl hn (fun h₁ hn₁ hs₁ => ?_) rfl)) rfl)
 refine seg_execs_cons ?_
 refine seg_quiet (wpAny_Assign_Name (wpAny_Constant_bool (wpAny_storeName_local rfl hn₁ (fun h₂ hn₂ hs₂ => ?_) rfl)) rfl)
 refine seg_execs_cons ?_
 have hlk : ∀ b o, b ∉ L :: E :: J :: fr → s₀.heap.get? b = some o → h₂.get? b = some o := fun b o hb e => by
  have hbL : b ≠ L := fun z => hb (by simp [z])
  exact hs₂.extBut b o hbL (hs₁.extBut b o hbL e)
 have hsize : h₂.objs.size = J := by rw [hs₂.1, hs₁.1, hJ]
 have hD₂ : FrD fr h₂ := fun b hb => by
  obtain ⟨o, e, hd⟩ := hD b hb
  have hbL : b ≠ L := fun z => hLfr (z ▸ hb)
  exact ⟨o, hs₂.extBut b o hbL (hs₁.extBut b o hbL e), hd⟩
 obtain ⟨l, hl⟩ : ∃ l, A.frames = some l := let ⟨l, h, _⟩ := hA; ⟨l, h⟩
 have hA1 : ∀ l, A.frames = some l → (A.over (.func bd_iec (genv L)) []).frames = some (genv L :: l) := fun l h => over_func h
 have neL : ∀ b ∈ fr, b ∈ L :: E :: J :: fr := fun b hb => by simp [hb]
 have F₂ := gen_frame' (K := K) (hid := L :: E :: J :: fr) (s₀ := s₀) (s := { s₀ with heap := h₂, toks := s₀.toks + 1 + 1 + 1 }) (ρ := rho0) hA hA1 hD₂ hb rfl hlk (by simp) neL (ns0 hn₂ ⟨s₀.toks, by rw [if_neg (by decide), if_pos rfl]⟩ (by rw [if_pos rfl]))
 have hm₂ : (fun y => if y = Str.ofString "escape" then some (Value.bool false) else (fun y => if y = Str.ofString "pos" then some (Value.int 0 s₀.toks) else m y) y) (Str.ofString "addr") = some (.str ⟨x.toArray⟩ xt) := by
  dsimp only; rw [if_neg (by decide), if_neg (by decide)]; exact hm
 have hty : strIterType ⟨x.toArray⟩ = "str_ascii_iterator" := by
  unfold strIterType
  rw [if_pos (by simpa using hx)]
 have Sf : Gst K (L :: E :: J :: fr) fr A (A.over (.func bd_iec (genv L)) []) (A.over (.func bd_iec (genv L)) []) L E J := ⟨hA, hA1, room_func rm, rfl, by simp, by simp, by simp, neL, Nat.ne_of_lt (hEJ ▸ Nat.lt_succ_of_lt hLlt), Nat.ne_of_lt hLlt, hEJ ▸ Nat.succ_ne_self J⟩
 refine seg_For (gen_enumerate (A1 := A.over (.func bd_iec (genv L)) []) (G.up hold hh) F₂ hn₂ hm₂ fun h₃ en sti sz k => wpAny_pyIter_enum en fun p => ?_) (hfold L)
 have hsE : h₂.objs.size + 1 = E := by rw [hsize, hEJ]
 have en' : IsEnum h₃ E J ((0 : Nat) : Int) .none := by
  have e := en
  rw [show ({ s₀ with heap := h₂, toks := s₀.toks + 1 + 1 + 1 } : Shared).heap.objs.size = J from hsize] at e
  rw [hEJ]; exact e
 have sti' : h₃.IsStrIter J "str_ascii_iterator" ⟨x.toArray⟩ xt 0 := by
  have e := sti
  rw [hty, show ({ s₀ with heap := h₂, toks := s₀.toks + 1 + 1 + 1 } : Shared).heap.objs.size = J from hsize] at e
  exact e
 show Seg K.M A _ _ _ s₀ (.forLoop tgt (.ref (h₂.objs.size + 1)) _ [] (genv L)) _ _ _
 rw [hsE]
 have F₃ := F₂.step (σ' := E0) (s' := { s₀ with heap := h₃, toks := s₀.toks + 1 + 1 + 1 }) (F₂.inv.grow (h' := h₃) (tk := s₀.toks + 1 + 1 + 1) k) (.grow (h' := h₃) (tk := s₀.toks + 1 + 1 + 1) k)
 have st₃ : Stp [L, E, J] E0 s₀ E0 { s₀ with heap := h₃, toks := s₀.toks + 1 + 1 + 1 } := ⟨fun b o e _ hbn => ⟨o, k b o (by
   have hbL : b ≠ L := fun z => hbn (by simp [z])
   exact hs₂.extBut b o hbL (hs₁.extBut b o hbL e)), .refl o⟩, fun _ _ _ _ _ => rfl, fun _ _ e => e⟩
 refine gen_loop (fr := fr) (A1 := A.over (.func bd_iec (genv L)) []) (xt := xt) (fun bb => ⟨hA, hA1, room_loop rm, (over_loop hl).trans (over_func hl).symm, by simp, by simp, by simp, neL, Sf.LE, Sf.LJ, Sf.EJ⟩) rfl rfl hz ht
  (fun K => ⟨(hparts K 1 L).2.2.1, (hparts K 1 L).2.2.2.1, (hparts K 1 L).2.2.2.2.1, (hparts K 1 L).2.2.2.2.2.1, (hparts K 1 L).2.2.2.2.2.2.1, (hparts K 1 L).2.2.2.2.2.2.2.1, (hparts K 1 L).2.2.2.2.2.2.2.2.1⟩) _ rfl
  ?_ x.length 0 false [] s₀ _ rho0 rfl (Nat.zero_le _) rfl he0 ⟨F₃, rfl, fun h => (by cases h), rho0_simple, st₃, ⟨_, _, en', fun _ => rfl⟩, fun _ => sti'⟩
 intro s₀' s' ρ' pre hp g
 refine seg_again rfl (block_nil (seg_leaf (.ok .next) ?_))
 show Seg K.M A _ _ _ s₀' (.func _ (genv L)) ((execs _ (genv L)).wrap _ _ id id) [] s'
 refine seg_execs_cons ?_
 have fin : ∀ (cd : Code) (s₁ s₂ : Shared) (ρ₂ : Loc) (b₂ : Bool), GI K (L :: E :: J :: fr) (A.over (.func bd_iec (genv L)) []) L E J x xt s₁ s₂ ρ₂ (x.length + 1) b₂ →
   Seg K.M A (gR K (L :: E :: J :: fr) L E J) (gY K (L :: E :: J :: fr) fr L E J (escGo x 0 false)) 0 s₁ cd (leafOf (.ok (.ret .none))) [] s₂ := fun cd s₁ s₂ ρ₂ b₂ g₂ => seg_end _ ⟨rfl, rfl, g₂.F.inv, g₂.st⟩
 refine gen_if Sf g (fun K => (hparts K 1 L).2.2.2.2.2.2.2.2.2.1) (v := false) ⟨_, g.esc, .inl ⟨_, rfl, rfl, rfl⟩⟩ fun s₄ g₄ => ?_
 simp only [Bool.false_eq_true, if_false]
 exact seg_execs_nil (seg_execs_nil (fin _ _ _ _ _ g₄))
structure Susp (K : Ktx) (A : Around) (fr : List Addr) (items : List MV) (fp : List Addr) (first : Bool) (g j : Nat) (s : Shared) : Prop where
 go : ∃ hid gs, s.gens[g]? = some gs ∧ (∀ b, b ∈ hid → b ∈ fp ∨ b ∈ fr) ∧ (∀ b ∈ fp, b ∈ hid) ∧ (∀ b ∈ fr, b ∈ hid) ∧
  ∀ s'' : Shared, (∀ b ∈ fp, ∀ o, s.heap.get? b = some o → Kept s''.heap b o) → (first = true → s''.heap = s.heap) → AllBare s''.gens → FrD fr s''.heap →
   gs.Goes K.M A.in1 (fun n s₀ r s₁ => r = .ok (.ret .none) ∧ genR K hid fp n s₀ s₁) (genY K hid fp fr items) (items.length - j) (.send .none) s''
theorem AllBare.setGen {s : Shared} {g : Nat} {x : GenState} (h : AllBare s.gens) (hx : x.bare = true) : AllBare (s.setGen g x).gens := by
 intro y hy
 have : (s.setGen g x).gens = s.gens.setIfInBounds g x := rfl
 rw [this] at hy
 rcases Array.mem_or_eq_of_mem_setIfInBounds hy with h' | h'
 ·exact h y h'
 ·rw [h']; exact hx
structure KeepO (fp : List Addr) (s s' : Shared) : Prop where
 keep : ∀ b o, s.heap.get? b = some o → b ∉ fp → Kept s'.heap b o
theorem gen_after {K : Ktx} {σ : Sto} {fp hid fr : List Addr} {s s₁ : Shared} {gens : Array GenState} (I : SInv K σ s) (hold : ∀ b, b ∈ hid → b ∈ fp ∨ b ∈ fr) (hfp : ∀ b ∈ fp, σ b = none ∧ K.h0.get? b = none ∧ ∀ o, s.heap.get? b = some o → ¬ Firm o) (hfr : ∀ b ∈ fr, σ b = none ∧ K.h0.get? b = none ∧ ∃ o, s.heap.get? b = some o ∧ IsD o)
  (J : SInv (kk K s hid) E0 s₁) (hb : AllBare gens) : SInv K σ { s₁ with gens := gens } := by
 have ex : ∀ b o, s.heap.get? b = some o → b ∉ hid → s₁.heap.get? b = some o := fun b o e h => J.old b o (hideAll_get _ e h)
 have off : ∀ b, b ∈ hid → σ b = none ∧ K.h0.get? b = none := fun b hb => by
  rcases hold b hb with h | h
  ·exact ⟨(hfp b h).1, (hfp b h).2.1⟩
  ·exact ⟨(hfr b h).1, (hfr b h).2.1⟩
 have firm : ∀ b o, Firm o → s.heap.get? b = some o → s₁.heap.get? b = some o := fun b o f e => ex b o e fun hm => by
  rcases hold b hm with h | h
  ·exact (hfp b h).2.2 o e f
  ·obtain ⟨_, _, o', e', hd⟩ := hfr b h
   rw [e] at e'; cases e'
   obtain ⟨_, _, _, _, n⟩ := f.cls; exact n hd
 exact ⟨fun b o e => ex b o (I.old b o e) fun hm => (by rw [(off b hm).2] at e; cases e), I.apart, fun a mo e => (I.sto a mo e).at (fun o g => ex a o g fun hm => (by rw [(off a hm).1] at e; cases e)) firm, J.os.trans I.os, hb⟩
theorem gen_step {K : Ktx} {A : Around} {σ : Sto} {fp fr : List Addr} {items : List MV} {g0 : Addr} {g j : Nat} {s : Shared} {it : MV} {l : List Env} {Q : Option Value → Shared → Prop} {X : Value → Shared → Prop} (rm : Room 0 A) (hlim : K.h0.NoLimit) (I : SInv K σ s) (frm : FrOk K A σ s.heap) (hl : A.frames = some l) (hfrl : fr = l.filterMap (·.frame))
  (hgn : s.heap.IsGen g0 g) (hfp : ∀ b ∈ fp, σ b = none ∧ K.h0.get? b = none ∧ ∀ o, s.heap.get? b = some o → ¬ Firm o) {first : Bool} (Sus : Susp K A fr items fp first g j s) (hit : items[j]? = some it) (hg0 : g0 ∉ fp)
  (q : ∀ v s', Rep s'.heap v it → SInv K σ s' → KeepO fp s s' → (∀ (g' : Nat) x, g' ≠ g → s.gens[g']? = some x → s'.gens[g']? = some x) → Susp K A fr items fp false g (j + 1) s' → (∀ b ∈ fp, ∃ o, s'.heap.get? b = some o ∧ ¬ Firm o) → s'.heap.IsGen g0 g → Q (some v) s') :
  wpAny K.M A (pyNext (.ref g0)) Q X s := by
 obtain ⟨hid, gs, hgs, h1, h2, h3, go⟩ := Sus.go
 obtain ⟨ff, fD⟩ := frm.fun hl
 rw [← hfrl] at fD
 have hfrD : FrD fr s.heap := fun b hb => (fD b hb).2.2
 have hj : j < items.length := (List.getElem?_eq_some_iff.mp hit).1
 obtain ⟨m, hm⟩ : ∃ m, items.length - j = m + 1 := ⟨items.length - j - 1, by (subst_vars; lia)⟩
 have go0 := go (s.setGen g .running) (fun _ _ o e => ⟨o, e, .refl o⟩) (fun _ => rfl) (AllBare.setGen I.bare rfl) hfrD
 rw [hm] at go0
 have hsz : g < s.gens.size := (Array.getElem?_eq_some_iff.mp hgs).1
 refine next_gen (n := m + 1) rm.1 (hlim.keeps I.old) (by have := rm.2.1; simp only [recursionLimit]; lia) hgn hgs go0 (fun v s₁ gs' hb Y => ?_) (fun s₁ P => absurd P.1 (Nat.succ_ne_zero m))
 obtain ⟨⟨it', hit', r⟩, nf, J, st, cont⟩ := Y
 have : it' = it := by
  have e : items.length - 1 - (m + 1 - 1) = j := by (subst_vars; grind only)
  rw [e, hit] at hit'; exact (Option.some.inj hit').symm
 subst this
 have J' := gen_after (s := s) (gens := (s₁.setGen g gs').gens) I h1 hfp fD J (AllBare.setGen J.bare hb)
 refine q v (s₁.setGen g gs') r J' ⟨fun b o e hb => st.keep b o e rfl hb⟩ (fun g' x hne e => ?_) ⟨hid, gs', ?_, h1, h2, h3, fun s'' keep _ bare frd => ?_⟩ nf ?_
 ·have e1 : (s.setGen g .running).gens[g']? = some x := by
   show (s.gens.setIfInBounds g .running)[g']? = some x
   rw [Array.getElem?_setIfInBounds_ne (Ne.symm hne)]; exact e
  have e2 := st.gens g' x e1
  show (s₁.gens.setIfInBounds g gs')[g']? = some x
  rw [Array.getElem?_setIfInBounds_ne (Ne.symm hne)]; exact e2
 ·have e1 : (s.setGen g .running).gens[g]? = some .running := by
   show (s.gens.setIfInBounds g .running)[g]? = some .running
   simp [hsz]
  have e2 := st.gens g _ e1
  have hsz₁ : g < s₁.gens.size := (Array.getElem?_eq_some_iff.mp e2).1
  show (s₁.gens.setIfInBounds g gs')[g]? = some gs'
  simp [hsz₁]
 ·have hm' : items.length - (j + 1) = m := by (subst_vars; grind only)
  rw [hm']
  exact cont s'' keep bare frd
 ·obtain ⟨o, a, b, e, hc, hd, hs⟩ := hgn
  obtain ⟨o', e', z⟩ := st.keep g0 o e rfl hg0
  rw [z.same hc (by decide) (by decide) (fun ⟨_, _, w⟩ => by rw [hd] at w; cases w)] at e'
  exact ⟨o, a, b, e', hc, hd, hs⟩
theorem gen_done {K : Ktx} {A : Around} {σ : Sto} {fp fr : List Addr} {items : List MV} {g0 : Addr} {g : Nat} {s : Shared} {l : List Env} {Q : Option Value → Shared → Prop} {X : Value → Shared → Prop} (rm : Room 0 A) (hlim : K.h0.NoLimit) (I : SInv K σ s) (frm : FrOk K A σ s.heap) (hl : A.frames = some l) (hfrl : fr = l.filterMap (·.frame))
  (hgn : s.heap.IsGen g0 g) (hfp : ∀ b ∈ fp, σ b = none ∧ K.h0.get? b = none ∧ ∀ o, s.heap.get? b = some o → ¬ Firm o) (hff : ∀ b ∈ fr, b ∉ fp) {first : Bool} (Sus : Susp K A fr items fp first g items.length s)
  (q : ∀ s', SInv K σ s' → KeepO fp s s' → (∀ (g' : Nat) x, g' ≠ g → s.gens[g']? = some x → s'.gens[g']? = some x) → Q none s') :
  wpAny K.M A (pyNext (.ref g0)) Q X s := by
 obtain ⟨hid, gs, hgs, h1, h2, h3, go⟩ := Sus.go
 obtain ⟨ff, fD⟩ := frm.fun hl
 rw [← hfrl] at fD
 have hfrD : FrD fr s.heap := fun b hb => (fD b hb).2.2
 have go0 := go (s.setGen g .running) (fun _ _ o e => ⟨o, e, .refl o⟩) (fun _ => rfl) (AllBare.setGen I.bare rfl) hfrD
 rw [Nat.sub_self] at go0
 refine next_gen (n := 0) rm.1 (hlim.keeps I.old) (by have := rm.2.1; simp only [recursionLimit]; lia) hgn hgs go0 (fun v s₁ gs' hb Y => ?_) (fun s₁ P h' k => ?_)
 ·obtain ⟨_, _, J, st, cont⟩ := Y
  refine (cont s₁ (fun _ _ o e => ⟨o, e, .refl o⟩) J.bare fun b hb => ?_).elim
  obtain ⟨o, e, hd⟩ := hfrD b hb
  obtain ⟨o', e', z⟩ := st.keep b o e rfl (hff b hb)
  obtain ⟨es, ep, hdd⟩ := id hd
  exact ⟨o', e', es, ep, (z.data hd.nf).trans hdd⟩
 ·obtain ⟨_, J, st⟩ := P
  have J' := gen_after (s := s) (gens := (s₁.setGen g .finished).gens) I h1 hfp fD J (AllBare.setGen J.bare rfl)
  refine q _ (J'.grow (tk := s₁.toks) k) ⟨fun b o e hb => ?_⟩ (fun g' x hne e => ?_)
  ·obtain ⟨o', e', z⟩ := st.keep b o e rfl hb
   exact ⟨o', k b o' e', z⟩
  ·have e1 : (s.setGen g .running).gens[g']? = some x := by
    show (s.gens.setIfInBounds g .running)[g']? = some x
    rw [Array.getElem?_setIfInBounds_ne (Ne.symm hne)]; exact e
   have e2 := st.gens g' x e1
   show (s₁.gens.setIfInBounds g .finished)[g']? = some x
   rw [Array.getElem?_setIfInBounds_ne (Ne.symm hne)]; exact e2
theorem susp_first {K : Ktx} {A : Around} {fr : List Addr} {L : Addr} {x : List Nat} {xt : Tok} {g : Nat} {s : Shared} {m : Str → Option Value} {σ : Sto} (G : GName K "enumerate" (.type "enumerate")) (rm : Room 4 A) (hA : FrAt A fr) (I : SInv K σ s)
  (hgs : s.gens[g]? = some (.fresh (.func bd_iec (genv L)))) (hn : s.heap.Ns L m) (hm : m "addr" = some (.str ⟨x.toArray⟩ xt)) (hL0 : K.h0.get? L = none) (hLfr : L ∉ fr) (hfr0 : ∀ b ∈ fr, K.h0.get? b = none) (hx : ∀ c ∈ x, c < 128) (hz : x.length + 2 ≤ sizeLine) (he0 : escEnd x false = false) :
  Susp K A fr (escGo x 0 false) [L, s.heap.objs.size + 1, s.heap.objs.size] true g 0 s := by
 refine ⟨L :: (s.heap.objs.size + 1) :: s.heap.objs.size :: fr, _, hgs, fun b hb => ?_, fun b hb => ?_, fun b hb => by simp [hb], fun s'' keep same bare frd => ⟨rfl, ?_⟩⟩
 ·simp at hb ⊢; rcases hb with h | h | h | h <;> simp [h]
 ·simp at hb ⊢; rcases hb with h | h | h <;> simp [h]
 ·have hs := same rfl
  have := gen_body (K := K) (A := A.in1) (fr := fr) (s₀ := s'') G ⟨rm.1, by have := rm.2.1; show A.depth + 3 ≤ 500; walk_at "q", by have := rm.2.2; show A.units + 1 + 100 * 3 ≤ 5000; (subst_vars; lia)⟩ hA frd bare (fun b o e => by rw [hs]; exact I.old b o e) (m := m) (by rw [hs]; exact hn) hm hL0 hLfr hfr0 hx hz he0
  rw [hs] at this
  exact this
theorem gen_make {K : Ktx} {A : Around} {σ : Sto} {s : Shared} {x : List Nat} {xt : Tok} {R : Result → Shared → Prop} (G : Good K) (rm : Room 1 A) (I : SInv K σ s)
  (q : ∀ h' tk g0 L m, (∀ b o, s.heap.get? b = some o → h'.get? b = some o) → s.heap.get? L = none → s.heap.get? g0 = none → L ≠ g0 → h'.IsGen g0 s.gens.size → h'.Ns L m → m "addr" = some (.str ⟨x.toArray⟩ xt) → h'.objs.size = g0 + 1 → L < g0 →
   R (.ok (.ret (.ref g0))) { s with heap := h', toks := tk, gens := s.gens.push (.fresh (.func bd_iec (genv L))) }) :
  codeAny K.M A (.call (.ref 38) ⟨[.str ⟨x.toArray⟩ xt], []⟩) R s := by
 obtain ⟨o, ho, hd⟩ := G.ob (a := 38) fd_iecS.2 (by decide)
 have hcd := (G.fn 38 fd_iec (fd_iecS.2 _) (by decide)).2
 refine codeAny_call_generator (fd := fd_iec) (body := bd_iec) (by have := rm.2.1; simp only [recursionLimit]; omega) (I.old _ _ ho) hd rfl rfl bd_iecS.2 (hcd.keeps I.old) ?_
 refine wpAny_of_eq (a := [(Str.ofString "addr", Value.str ⟨x.toArray⟩ xt)]) rfl ?_
 refine wpAny_newFunctionEnv (by decide) (by intro y hy; simp at hy; subst hy; rfl) (fun h₁ hns hsb => ?_) rfl
 have k1 : ∀ b o, s.heap.get? b = some o → h₁.get? b = some o := fun b o e => hsb.extBut b o (Nat.ne_of_lt (Heap.lt_size e)) (Heap.get?_push_of_some _ e)
 have sz : h₁.objs.size = s.heap.objs.size + 1 := by rw [hsb.1, Heap.size_push]
 refine ⟨(G.lim.keeps I.old).keeps k1, ?_⟩
 have gn : s.heap.get? h₁.objs.size = none := none_of_ge (by rw [sz]; exact Nat.le_succ _)
 refine q _ _ h₁.objs.size s.heap.objs.size _ (fun b o e => Heap.get?_push_of_some _ (k1 b o e)) (none_of_ge (Nat.le_refl _)) gn (by rw [sz]; exact (Nat.succ_ne_self _).symm) ⟨_, _, _, Heap.get?_push_size _ rfl, rfl, rfl, rfl⟩ (hns.at' fun o e => Heap.get?_push_of_some _ e) ?_ (by rw [Heap.size_push]) (by rw [sz]; exact Nat.lt_succ_self _)
 rfl
theorem FInv.stepP {K : Ktx} {env : Env} {nm : List Str} {ρ : Loc} {A : Around} {σ : Sto} {s s' : Shared} {fp : List Addr} (x : FInv K env nm ρ A σ s) (I : SInv K σ s') (st : KeepO fp s s') (h1 : env.locals ∉ fp) (h2 : ∀ y c, (y, c) ∈ env.cells → c ∉ fp)
  (h3 : ∀ l, A.frames = some l → ∀ e ∈ l, ∀ L, e.frame = some L → L ∉ fp) (nf : ∀ b ∈ fp, ∀ o, s.heap.get? b = some o → ¬ Firm o) : FInv K env nm ρ A σ s' := by
 obtain ⟨m, hn, hv⟩ := x.ns
 have kf : ∀ a o, Firm o → s.heap.get? a = some o → s'.heap.get? a = some o := fun a o f e => by
  obtain ⟨o', e', q⟩ := st.keep a o e fun hb => nf a hb o e f
  rw [e', q.firm f]
 refine ⟨I, ⟨m, Heap.Ns.slot hn fun o e => st.keep _ o e h1, fun i y mv a b c => ?_⟩, fun y c hc => ?_, x.offL, x.offC, x.sep, x.one, ?_, x.top⟩
 ·obtain ⟨v, h4, h5⟩ := hv i y mv a b c; exact ⟨v, h4, h5.mono kf⟩
 ·obtain ⟨vo, a, b⟩ := x.cells y c hc
  refine ⟨vo, Heap.IsCell.slot a fun o e => st.keep _ o e (h2 y c hc), fun i mv q1 q2 q3 => ?_⟩
  obtain ⟨v, h4, h5⟩ := b i mv q1 q2 q3; exact ⟨v, h4, h5.mono kf⟩
 ·obtain ⟨l, hl, hl'⟩ := x.stk
  refine ⟨l, hl, fun e he => ?_⟩
  obtain ⟨k, L, o, a1, a2, a3, a4, a5⟩ := hl' e he
  obtain ⟨o', e', q⟩ := st.keep L o a2 (h3 l hl e he L a1)
  exact ⟨k, L, o', a1, e', (let ⟨es, ep, hd⟩ := a3; ⟨es, ep, (q.data a3.nf).trans hd⟩), a4, a5⟩
def sForG (T : PT) (B : PS) (P : PE) : PS := fun ρ σ Q X => P ρ σ (fun m σ₁ => ∃ x, m = .str x ∧ (∀ c ∈ x, c < 128) ∧ x.length + 2 ≤ sizeLine ∧ escEnd x false = false ∧ forGo T B (fun _ => True) (escGo x 0 false) ρ σ₁ Q) X
theorem genLet {I : Addr} {tgt : Expr} {v : Value} {A : Around} {K : Ktx} {Q : Unit → Shared → Prop} {E : Value → Shared → Prop} {s : Shared} {g : Nat} (h : s.heap.IsGen I g) (q : Q () s) : wpAny K.M A (letOwnedTupleGo tgt (.ref I) v) Q E s := by
 obtain ⟨o, _, _, e, hc, hd, _⟩ := h
 exact letOwned_cls e hc (by decide) q
theorem SlotEq.notFirm {o o' : Obj} (x : SlotEq o o') (h : ¬ Firm o) : ¬ Firm o' := fun f => by
 by_cases a : Airy o
 ·exact (x.2.1 a).notFirm f
 ·obtain ⟨_, hd, hs⟩ := x.2.2 a
  by_cases d : IsD o
  ·obtain ⟨_, _, _, _, n⟩ := f.cls
   obtain ⟨es, ep, e⟩ := d
   exact n ⟨es, ep, hd.trans e⟩
  ·exact h (hs d ▸ f)
theorem gen_off {K : Ktx} {σ : Sto} {s : Shared} {g0 : Addr} {g : Nat} (I : SInv K σ s) (h : s.heap.IsGen g0 g) : σ g0 = none := by
 obtain ⟨o, _, _, e, hc, hd, _⟩ := h
 cases q : σ g0 with
 | none => rfl
 | some mo =>
  have r := I.sto _ _ q
  cases mo with
  | list l => obtain ⟨vs, n, e', _⟩ := r; rw [e] at e'; cases e'; cases hd
  | dict l ep => obtain ⟨kvs, ⟨o', es, e', _, hd', _⟩, _⟩ := r; rw [e] at e'; cases e'; rw [hd] at hd'; cases hd'
  | tab => obtain ⟨ps, e', _⟩ := r; rw [e] at e'; cases e'; cases hc
theorem gen_forLoop {K : Ktx} {d : Nat} {env : Env} {nm : List Str} {tgt : Expr} {body : List Stmt} {T : PT} {B : PS} {items : List MV} {g0 : Addr} {g : Nat} (hT : RefT K d env nm (ownOf env) tgt T) (hB : RefL K d env nm body B) {A : Around} {ρ : Loc} {σ σb : Sto} {s sb : Shared} {fp : List Addr} {l : List Env} {Q : MF → Loc → Sto → Prop}
  (hlim : K.h0.NoLimit) (rm : Room d A) (hl : A.frames = some l) (F : FInv K env nm ρ A σ s) (st : Stp (ownOf env) σb sb σ s) (hgn : s.heap.IsGen g0 g) (hg0 : sb.heap.get? g0 = none ∧ g0 ∉ fp) (hg : sb.gens.size ≤ g)
  (hfp : ∀ b ∈ fp, σ b = none ∧ K.h0.get? b = none ∧ ∀ o, s.heap.get? b = some o → ¬ Firm o) (hnew : ∀ b ∈ fp, sb.heap.get? b = none) (hb0 : sb.heap.get? env.locals ≠ none ∧ (∀ y c, (y, c) ∈ env.cells → sb.heap.get? c ≠ none) ∧ ∀ e ∈ l, ∀ L, e.frame = some L → sb.heap.get? L ≠ none)
  (Sus : Susp K A (l.filterMap (·.frame)) items fp true g 0 s) (p : forGo T B (fun _ => True) items ρ σ Q) :
  codeAny K.M A (.forLoop tgt (.ref g0) body [] env) (PostF K env nm A (ownOf env) σb sb Q) s := by
 refine codeAny_forLoop_any (fun n s' => ∃ j ρ' σ' first, n = items.length - j ∧ j ≤ items.length ∧ FInv K env nm ρ' A σ' s' ∧ Stp (ownOf env) σb sb σ' s' ∧ s'.heap.IsGen g0 g ∧ (∀ b ∈ fp, σ' b = none ∧ K.h0.get? b = none ∧ ∀ o, s'.heap.get? b = some o → ¬ Firm o) ∧
  Susp K A (l.filterMap (·.frame)) items fp first g j s' ∧ forGo T B (fun _ => True) (items.drop j) ρ' σ' Q) ?_ items.length ⟨0, ρ, σ, true, by simp, Nat.zero_le _, F, st, hgn, hfp, Sus, by simpa using p⟩
 rintro n s₁ ⟨j, ρ₁, σ₁, first, rfl, hj, F₁, st₁, hgn₁, hfp₁, Sus₁, p₁⟩
 have rm0 : Room 0 A := rm.mono (Nat.zero_le _)
 have hL : env.locals ∉ fp := fun h => hb0.1 (hnew _ h)
 have hC : ∀ y c, (y, c) ∈ env.cells → c ∉ fp := fun y c hc h => hb0.2.1 y c hc (hnew _ h)
 have hFr : ∀ l', A.frames = some l' → ∀ e ∈ l', ∀ L, e.frame = some L → L ∉ fp := fun l' hl' e he L hL h => by
  rw [hl] at hl'; cases hl'
  exact hb0.2.2 e he L hL (hnew _ h)
 have after : ∀ {s₂ : Shared}, KeepO fp s₁ s₂ → (∀ (g' : Nat) x, g' ≠ g → s₁.gens[g']? = some x → s₂.gens[g']? = some x) → Stp (ownOf env) σb sb σ₁ s₂ := fun {s₂} kk gg => by
  refine ⟨fun b o e h1 h2 => ?_, st₁.dom, fun g' x e => ?_⟩
  ·obtain ⟨o', e', q⟩ := st₁.keep b o e h1 h2
   obtain ⟨o'', e'', q'⟩ := kk.keep b o' e' fun hb => by rw [hnew b hb] at e; cases e
   exact ⟨o'', e'', q.trans q'⟩
  ·have hlt : g' < sb.gens.size := (Array.getElem?_eq_some_iff.mp e).1
   exact gg g' x (by (subst_vars; lia)) (st₁.gens g' x e)
 by_cases hlt : j < items.length
 ·have hd : items.drop j = items[j] :: items.drop (j + 1) := by rw [List.drop_eq_getElem_cons hlt]
  rw [hd] at p₁
  refine gen_step rm0 hlim F₁.inv F₁.stk hl rfl hgn₁ hfp₁ Sus₁ (List.getElem?_eq_getElem hlt) hg0.2 fun v s₂ r₂ I₂ k₂ gens₂ Sus₂ nf₂ hgn₂ => ?_
  have F₂ := F₁.stepP I₂ k₂ hL hC hFr fun b hb => (hfp₁ b hb).2.2
  have st₂ := after k₂ gens₂
  refine genLet hgn₂ (wpAny_mono (hT A ρ₁ σ₁ s₂ v _ _ _ rm F₂ r₂ p₁) ?_ fun _ _ h => h)
  rintro _ s₃ ⟨ρ₃, F₃, stp₃, p₃⟩
  refine wpAny_mono (hB A ρ₃ σ₁ s₃ _ _ rm F₃ p₃) ?_ fun _ _ h => not_flyS h
  rintro f s₄ ⟨mf, ρ₄, σ₄, r₄, F₄, stp₄, q₄⟩
  have st24 := stp₃.trans stp₄
  have own : ∀ b, sb.heap.get? b = none → b ∉ ownOf env := fun b h hm => by
   rcases List.mem_cons.mp hm with q | q
   ·subst q; exact hb0.1 h
   ·obtain ⟨⟨y, c⟩, hm', rfl⟩ := List.mem_map.mp q
    exact hb0.2.1 y c hm' h
  have offg := gen_off I₂ hgn₂
  have stp : Stp (ownOf env) σb sb σ₄ s₄ := st₂.trans st24
  have hgn₄ : s₄.heap.IsGen g0 g := by
   obtain ⟨o, a, b, e, hc, hd', hs⟩ := hgn₂
   obtain ⟨o', e', z⟩ := st24.keep g0 o e offg (own g0 hg0.1)
   rw [z.same hc (by decide) (by decide) (fun ⟨_, _, w⟩ => by rw [hd'] at w; cases w)] at e'
   exact ⟨o, a, b, e', hc, hd', hs⟩
  have hfp₄ : ∀ b ∈ fp, σ₄ b = none ∧ K.h0.get? b = none ∧ ∀ o, s₄.heap.get? b = some o → ¬ Firm o := fun b hb => by
   obtain ⟨o, e, nf⟩ := nf₂ b hb
   obtain ⟨o', e', z⟩ := st24.keep b o e (hfp₁ b hb).1 (own b (hnew b hb))
   exact ⟨st24.dom b o e (hfp₁ b hb).1 (own b (hnew b hb)), (hfp₁ b hb).2.1, fun o'' e'' => by rw [e'] at e''; cases e''; exact z.notFirm nf⟩
  have Sus₄ : Susp K A (l.filterMap (·.frame)) items fp false g (j + 1) s₄ := by
   obtain ⟨hid, gs, q1, q2, q3, q5, go⟩ := Sus₂.go
   refine ⟨hid, gs, st24.gens g gs q1, q2, q3, q5, fun s'' keep _ bare frd => go s'' (fun b hb o e => ?_) (fun h => by cases h) bare frd⟩
   obtain ⟨o', e', z⟩ := st24.keep b o e (hfp₁ b hb).1 (own b (hnew b hb))
   obtain ⟨o'', e'', z'⟩ := keep b hb o' e'
   exact ⟨o'', e'', z.trans z'⟩
  rcases r₄ with _ | _ | _ | r₄
  ·exact ⟨_, by (subst_vars; grind only), j + 1, ρ₄, σ₄, false, rfl, hlt, F₄, stp, hgn₄, hfp₄, Sus₄, q₄.2⟩
  ·exact ⟨.next, ρ₄, σ₄, .next, F₄, stp, q₄⟩
  ·exact ⟨_, by (subst_vars; grind only), j + 1, ρ₄, σ₄, false, rfl, hlt, F₄, stp, hgn₄, hfp₄, Sus₄, q₄.2⟩
  ·exact ⟨.ret _, ρ₄, σ₄, .ret r₄, F₄, stp, q₄⟩
 ·have hj' : j = items.length := by (subst_vars; omega)
  subst hj'
  rw [List.drop_length] at p₁
  refine gen_done rm0 hlim F₁.inv F₁.stk hl rfl hgn₁ hfp₁ (fun b hb => ?_) Sus₁ fun s₂ I₂ k₂ gens₂ => wpAny_execs_nil ?_
  ·obtain ⟨e, he, hf⟩ := List.mem_filterMap.mp hb
   exact hFr l hl e he b hf
  ·exact ⟨.next, ρ₁, σ₁, .next, F₁.stepP I₂ k₂ hL hC hFr fun b hb => (hfp₁ b hb).2.2, after k₂ gens₂, p₁⟩
section
variable {K : Ktx} {d : Nat} {env : Env} {nm : List Str}
theorem gen_call {f : Str} {p pos : Pos} {e : Expr} {P : PE} {A : Around} {ρ : Loc} {σ : Sto} {s : Shared} {X : Sto → Prop} {Q : Value → Shared → Prop} {Q0 : MV → Sto → Prop} (G : Good K) (hf : GName K f (.ref 38)) (h : RefE K d env nm e P) (rm : Room d A) (rm1 : Room 1 A) (F : FInv K env nm ρ A σ s) (pp : P ρ σ Q0 X)
  (hQ0 : ∀ m σ₁, Q0 m σ₁ → ∃ x, m = .str x)
  (q : ∀ x xt σ₁ s₁ h' tk g0 L m, Q0 (.str x) σ₁ → SInv K σ₁ s₁ → Stp [] σ s σ₁ s₁ → (∀ b o, s₁.heap.get? b = some o → h'.get? b = some o) → s₁.heap.get? L = none → s₁.heap.get? g0 = none → L ≠ g0 → h'.IsGen g0 s₁.gens.size → h'.Ns L m → m "addr" = some (.str ⟨x.toArray⟩ xt) → h'.objs.size = g0 + 1 → L < g0 →
   Q (.ref g0) { s₁ with heap := h', toks := tk, gens := s₁.gens.push (.fresh (.func bd_iec (genv L))) })
  (hx : env.kindOf f = some .globalImplicit := by rfl) (hk : env.scope.kind = .function := by rfl) (hg : env.globals = mainGlobals := by rfl) (hb : env.builtins = builtinsNs := by rfl) (hdb : (f == ("__debug__" : Str)) = false := by decide)
  (he : plainE e = true := by rfl) : wpAny K.M A (eval (.Call (.Name f p) [e] [] pos) env) Q (PostX K [] σ s X) s := by
 obtain ⟨o, ho, hd⟩ := G.ob (a := 38) fd_iecS.2 (by decide)
 refine wpAny_Call_NameR (load_global F.inv hf ?_ hk hx hg hb hdb)
 refine callWith_function (o := o) (fd := fd_iec) ?_
 rw [star_cons he]
 refine evalArgs_plain (spliced_cons (wpAny_mono (h A ρ σ s Q0 X rm F pp) ?_ fun _ _ h => h))
 rintro v s₁ ⟨m, σ₁, r, I₁, st₁, hq⟩
 obtain ⟨x, rfl⟩ := hQ0 _ _ hq
 obtain ⟨t, rfl⟩ := r.str_inv
 refine spliced_nil ⟨⟨I₁.old _ _ ho, hd⟩, ?_⟩
 refine wpAny_call (gen_make G rm1 I₁ fun h' tk g0 L m k1 k2 k3 k4 k5 k6 k7 k8 k9 => ?_)
 exact q x t σ₁ s₁ h' tk g0 L m hq I₁ st₁ k1 k2 k3 k4 k5 k6 k7 k8 k9
end
section
variable {K : Ktx} {d : Nat} {env : Env} {nm : List Str}
theorem FInv.gens {ρ : Loc} {A : Around} {σ : Sto} {s : Shared} (F : FInv K env nm ρ A σ s) {gens : Array GenState} (hb : AllBare gens) : FInv K env nm ρ A σ { s with gens := gens } :=
 ⟨⟨F.inv.old, F.inv.apart, F.inv.sto, F.inv.os, hb⟩, F.ns, F.cells, F.offL, F.offC, F.sep, F.one, F.stk, F.top⟩
theorem RefS.forGen {tgt : Expr} {f : Str} {p cpos pos : Pos} {e : Expr} {body : List Stmt} {T : PT} {B : PS} {P : PE} (G : Good K) (hf : GName K f (.ref 38)) (hd : 4 ≤ d) (h : RefE K d env nm e P) (hT : RefT K d env nm (ownOf env) tgt T) (hB : RefL K d env nm body B)
  (hfun : env.func.isSome = true := by rfl)
  (hx : env.kindOf f = some .globalImplicit := by rfl) (hk : env.scope.kind = .function := by rfl) (hg : env.globals = mainGlobals := by rfl) (hb : env.builtins = builtinsNs := by rfl) (hdb : (f == ("__debug__" : Str)) = false := by decide)
  (he : plainE e = true := by rfl) (hs : ∀ x, foldedSetIterable (.Call (.Name f p) [e] [] cpos) env x = pure x := by intro _; rfl) : RefS K d env nm (.For tgt (.Call (.Name f p) [e] [] cpos) body [] pos) (sForG T B P) := fun A ρ σ s Q X rm F pp => by
 refine wpAny_For (wpAny_mono (gen_call (Q := fun v s' => wpAny K.M A (pyIter v) (fun it s₂ => codeAny K.M A (.forLoop tgt it body [] env) (fun r s' => match r with | .ok f => PostS K env nm A σ s Q f s' | .error e => cameBackBy K.M A env (PostXS K env nm A σ s X) e s') s₂) (PostXS K env nm A σ s X) s') G hf h rm (rm.mono (by grind)) F pp (fun m σ₁ q => let ⟨x, e, _⟩ := q; ⟨x, e⟩) ?_ hx hk hg hb hdb he) (fun _ _ h => h) fun _ _ h => h.up F) hs
 rintro x xt σ₁ s₁ h' tk g0 L m ⟨x', hxe, hasc, hz, hend, q⟩ I₁ st₁ k hL hg0 hLg hgn hn hm hsz hlt
 cases hxe
 refine wpAny_pyIter_gen hgn ?_
 have F₁ := F.step I₁ st₁
 have F₂ := (F₁.grow (h' := h') (tk := tk) k).gens (gens := s₁.gens.push (.fresh (.func bd_iec (genv L)))) (I₁.bare.push rfl)
 obtain ⟨l, hl, hl'⟩ := F₁.stk
 have hbot := F₁.stk.fun hl
 have sbL : ∀ b ∈ l.filterMap (·.frame), s₁.heap.get? b ≠ Option.none := fun b hb e => by
  obtain ⟨_, _, o, e', _⟩ := hbot.2 b hb
  rw [e] at e'; cases e'
 have hA : FrAt A (l.filterMap (·.frame)) := ⟨l, hl, fun e he => by
  obtain ⟨k1, L', o, a1, _⟩ := hl' e he
  exact ⟨k1, L', a1, List.mem_filterMap.mpr ⟨e, he, a1⟩⟩⟩
 have Sus := susp_first (g := s₁.gens.size) (s := { s₁ with heap := h', toks := tk, gens := s₁.gens.push (.fresh (.func bd_iec (genv L))) }) (G.gn _ _ rfl) (rm.mono hd) hA F₂.inv (by simp) hn hm (I₁.offNew hL).2 (fun hm => sbL L hm hL) (fun b hb => (hbot.2 b hb).2.1) hasc hz hend
 have st₂ : Stp (ownOf env) σ₁ s₁ σ₁ { s₁ with heap := h', toks := tk, gens := s₁.gens.push (.fresh (.func bd_iec (genv L))) } := ⟨fun b o e _ _ => ⟨o, k b o e, .refl o⟩, fun _ _ _ h _ => h, fun g x e => by
  show (s₁.gens.push _)[g]? = some x
  have := (Array.getElem?_eq_some_iff.mp e).1
  rw [Array.getElem?_push_lt this]; exact (Array.getElem?_eq_getElem this).symm.trans e⟩
 have big : ∀ b, h'.objs.size ≤ b → s₁.heap.get? b = Option.none ∧ h'.get? b = Option.none := fun b hb => by
  have e := none_of_ge (h := h') hb
  refine ⟨?_, e⟩
  cases e1 : s₁.heap.get? b with
  | none => rfl
  | some o => have := k b o e1; rw [e] at this; cases this
 have fpn : ∀ b ∈ [L, h'.objs.size + 1, h'.objs.size], s₁.heap.get? b = Option.none ∧ ∀ o, h'.get? b = some o → ¬ Firm o := fun b hb => by
  rcases List.mem_cons.mp hb with rfl | hb
  ·refine ⟨hL, fun o e => ?_⟩
   obtain ⟨o', es, ep, e', hd', _⟩ := hn
   have e'' : h'.get? b = some o' := e'
   rw [e] at e''; cases e''; exact notFirm_dict hd'
  rcases List.mem_cons.mp hb with rfl | hb
  ·exact ⟨(big _ (Nat.le_succ _)).1, fun o e => by rw [(big _ (Nat.le_succ _)).2] at e; cases e⟩
  ·rw [List.mem_singleton.mp hb]
   exact ⟨(big _ (Nat.le_refl _)).1, fun o e => by rw [(big _ (Nat.le_refl _)).2] at e; cases e⟩
 refine codeAny_mono (gen_forLoop hT hB G.lim rm hl F₂ st₂ hgn ⟨hg0, ?_⟩ (Nat.le_refl _) (fun b hb => ⟨(I₁.offNew (fpn b hb).1).1, (I₁.offNew (fpn b hb).1).2, (fpn b hb).2⟩) (fun b hb => (fpn b hb).1) ⟨?_, ?_, ?_⟩ Sus q) ?_
 ·intro hm'
  have hs1 : h'.objs.size = g0 + 1 := hsz
  rcases List.mem_cons.mp hm' with z | z
  ·exact hLg z.symm
  ·rcases List.mem_cons.mp z with z | z
   ·rw [hs1] at z; exact absurd z (Nat.ne_of_lt (Nat.lt_succ_of_lt (Nat.lt_succ_self g0)))
   ·rw [List.mem_singleton.mp z, hs1] at hlt
    have := List.mem_singleton.mp z
    rw [hs1] at this; exact absurd this (Nat.ne_of_lt (Nat.lt_succ_self g0))
 ·intro z
  obtain ⟨_, ⟨o, _, _, e, _⟩, _⟩ := F₁.ns
  rw [z] at e; cases e
 ·intro y c hc z
  obtain ⟨_, ⟨o, e, _⟩, _⟩ := F₁.cells y c hc
  rw [z] at e; cases e
 ·intro e he L' hL'
  exact sbL L' (List.mem_filterMap.mpr ⟨e, he, hL'⟩)
 ·rintro r s' hr
  cases r with
  | error e => exact hr.elim
  | ok f =>
   obtain ⟨mf, ρ', σ', r', F', st', q'⟩ := hr
   exact ⟨mf, ρ', σ', r', F', st₁.nil.trans st', q'⟩
end
end Mine
end
section
namespace Mine
open PySem PySem.Calls PyProof.Rows PySem.W PySem.SeqAt PySem.MeetsSeq PySem.Builtin PySem.Builtin.Str
theorem SlotEq.isD {o o' : Obj} (x : SlotEq o o') (h : IsD o) : IsD o' := let ⟨es, ep, e⟩ := h; ⟨es, ep, (x.data h.nf).trans e⟩
theorem FrOk.keepO {K : Ktx} {A : Around} {σ : Sto} {s s' : Shared} {fp : List Addr} (x : FrOk K A σ s.heap) (k : KeepO fp s s') (h : ∀ l, A.frames = some l → ∀ e ∈ l, ∀ L, e.frame = some L → L ∉ fp) : FrOk K A σ s'.heap := by
 obtain ⟨l, h1, h2⟩ := x
 refine ⟨l, h1, fun e he => ?_⟩
 obtain ⟨k1, L, o, a1, a2, a3, a4, a5⟩ := h2 e he
 obtain ⟨o', e', q⟩ := k.keep L o a2 (h l h1 e he L a1)
 exact ⟨k1, L, o', a1, e', q.isD a3, a4, a5⟩
theorem FrOk.put {K : Ktx} {A : Around} {σ : Sto} {h : Heap} {S : Addr} {mo : MO} (x : FrOk K A σ h) (hS : σ S ≠ none) : FrOk K A (put σ S mo) h := by
 obtain ⟨l, h1, h2⟩ := x
 refine ⟨l, h1, fun e he => ?_⟩
 obtain ⟨k1, L, o, a1, a2, a3, a4, a5⟩ := h2 e he
 exact ⟨k1, L, o, a1, a2, a3, by rw [put_other _ _ (fun z => by rw [z] at a4; exact hS a4)]; exact a4, a5⟩
theorem put_put (σ : Sto) (S : Addr) (a b : MO) : put (put σ S a) S b = put σ S b := by funext x; unfold put; split <;> rfl
theorem gen_extend {K : Ktx} {A : Around} {σ : Sto} {S g0 : Addr} {g : Nat} {fp : List Addr} {l : List Env} {items : List MV} {R : Result → Shared → Prop} (hlim : K.h0.NoLimit) (rm : Room 0 A.in1) (hl : A.in1.frames = some l) (hS : S ∉ fp) (hg0 : g0 ∉ fp) (hgS : g0 ≠ S) (hz : items.length ≤ sizeLine)
  (hFr : ∀ e ∈ l, ∀ L, e.frame = some L → L ∉ fp) :
  ∀ (k j : Nat) (first : Bool) (s : Shared), items.length - j = k → j ≤ items.length → SInv K (put σ S (.list (items.take j))) s → FrOk K A.in1 (put σ S (.list (items.take j))) s.heap → s.heap.IsGen g0 g →
   (∀ b ∈ fp, σ b = none ∧ K.h0.get? b = none ∧ ∀ o, s.heap.get? b = some o → ¬ Firm o) → Susp K A.in1 (l.filterMap (·.frame)) items fp first g j s →
   (∀ s', SInv K (put σ S (.list items)) s' → KeepO (S :: fp) s s' → (∀ (g' : Nat) x, g' ≠ g → s.gens[g']? = some x → s'.gens[g']? = some x) → R (.ok (.ret .none)) s') →
   codeAny K.M A (.builtin "list.extend.loop" ⟨[.ref S, .ref g0, .none], []⟩) R s := by
 have offP : ∀ s : Shared, (∀ b ∈ fp, σ b = none ∧ K.h0.get? b = none ∧ ∀ o, s.heap.get? b = some o → ¬ Firm o) → ∀ mo b, b ∈ fp → put σ S mo b = none := fun s hfp mo b hb => by
  rw [put_other _ _ (fun z : b = S => hS (z ▸ hb))]; exact (hfp b hb).1
 intro k
 induction k with
 | zero =>
  intro j first s hk hj I fo hgn hfp Sus hR
  have hjn : j = items.length := by grind
  subst hjn
  rw [List.take_length] at I fo
  refine codeAny_builtin F.entry_extend_loop ?_
  rw [Around.under_plainId F.plain_extend_loop _]
  show wpAny _ A.in1 (pyNext (.ref g0) >>= _) _ _ s
  refine wpAny_bind (gen_done rm hlim I fo hl rfl hgn (fun b hb => ⟨offP s hfp _ b hb, (hfp b hb).2⟩) (fun b hb => ?_) Sus fun s' I' k' gg => ?_)
  ·obtain ⟨e, he, hf⟩ := List.mem_filterMap.mp hb
   exact hFr e he b hf
  ·exact wpAny_pure (hR s' I' ⟨fun b o e hb => k'.keep b o e fun h => hb (List.mem_cons_of_mem _ h)⟩ gg)
 | succ k ih =>
  intro j first s hk hj I fo hgn hfp Sus hR
  have hlt : j < items.length := by grind only
  refine codeAny_builtin F.entry_extend_loop ?_
  rw [Around.under_plainId F.plain_extend_loop _]
  show wpAny _ A.in1 (pyNext (.ref g0) >>= _) _ _ s
  refine wpAny_bind (gen_step rm hlim I fo hl rfl hgn (fun b hb => ⟨offP s hfp _ b hb, (hfp b hb).2⟩) Sus (List.getElem?_eq_getElem hlt) hg0 fun v s₂ r₂ I₂ k₂ gens₂ Sus₂ nf₂ hgn₂ => ?_)
  show wpAny _ A.in1 (updateSeq S (·.push v) >>= _) _ _ _
  obtain ⟨vs, n, e, rvs, hzz⟩ := I₂.sto S _ (put_self ..)
  have hvl : vs.length = j := by rw [rvs.length, List.length_take]; walk_at "q"
  refine wpAny_bind (wpAny_updateSeq e rfl ?_ (by simp [hvl]; walk_at "q") (by simp [hvl]; walk_at "q"))
  have htk : items.take (j + 1) = items.take j ++ [items[j]] := by rw [List.take_add_one, List.getElem?_eq_getElem hlt]; rfl
  obtain ⟨J, st⟩ := turn_list (f := fun x => x.push v) (vs' := vs ++ [v]) (l' := items.take j ++ [items[j]]) (tk := s₂.toks) I₂ (put_self ..) e (by simp) (rvs.append (.cons r₂ .nil)) (by simp; (subst_vars; lia))
  rw [put_put, ← htk] at J
  have hs : Heap.ExtBut S s₂.heap (s₂.heap.update S (Obj.mapSeq fun x => x.push v)) := fun b o hb g => (Heap.get?_update_other _ _ (Ne.symm hb)).trans g
  have fo₂ : FrOk K A.in1 (put σ S (.list (items.take j))) s₂.heap := fo.keepO k₂ fun l' hl' e he L hL => by rw [hl] at hl'; cases hl'; exact hFr e he L hL
  have fo₃ : FrOk K A.in1 (put σ S (.list (items.take (j + 1)))) (s₂.heap.update S (Obj.mapSeq fun x => x.push v)) := by
   have := (fo₂.sameBut hs (.inr ⟨_, e, fun ⟨_, _, z⟩ => by cases z⟩)).put (S := S) (mo := .list (items.take (j + 1))) (by simp)
   rwa [put_put] at this
  refine wpAny_pure ⟨plainId_quiet F.plain_extend_loop _, ih (j + 1) false _ (by (subst_vars; lia)) hlt J fo₃ ?_ ?_ ?_ ?_⟩
  ·obtain ⟨o, a, b, eg, r⟩ := hgn₂
   exact ⟨o, a, b, hs _ _ hgS eg, r⟩
  ·intro b hb
   refine ⟨(hfp b hb).1, (hfp b hb).2.1, fun o eo => ?_⟩
   obtain ⟨o2, e2, n2⟩ := nf₂ b hb
   have := hs b o2 (fun z : b = S => hS (z ▸ hb)) e2
   have eo' : (s₂.heap.update S (Obj.mapSeq fun x => x.push v)).get? b = some o := eo
   rw [this] at eo'; cases eo'; exact n2
  ·obtain ⟨hid, gs, q1, q2, q3, q5, go⟩ := Sus₂.go
   refine ⟨hid, gs, q1, q2, q3, q5, fun s'' keep _ bare frd => go s'' (fun b hb o e => keep b hb o (hs b o (fun z : b = S => hS (z ▸ hb)) e)) (fun h => by cases h) bare frd⟩
  ·intro s' I' k' gg'
   refine hR s' I' ⟨fun b o eb hb => ?_⟩ (fun g' x hne e => gg' g' x hne (gens₂ g' x hne e))
   obtain ⟨o2, e2, q2⟩ := k₂.keep b o eb fun h => hb (List.mem_cons_of_mem _ h)
   obtain ⟨o3, e3, q3⟩ := k'.keep b o2 (hs b o2 (fun z => hb (z ▸ List.mem_cons_self)) e2) hb
   exact ⟨o3, e3, q2.trans q3⟩
section
variable {K : Ktx} {d : Nat} {env : Env} {nm : List Str}
def pListG (P : PE) : PE := fun ρ σ Q X => P ρ σ (fun m σ₁ => ∃ x, m = .str x ∧ (∀ c ∈ x, c < 128) ∧ x.length + 2 ≤ sizeLine ∧ escEnd x false = false ∧ (escGo x 0 false).length ≤ sizeLine ∧ ∀ b, σ₁ b = none → Q (.ref b) (put σ₁ b (.list (escGo x 0 false)))) X
theorem RefE.listGen {y f : Str} {p0 p p3 pos : Pos} {e : Expr} {P : PE} (G : Good K) (Gl : GName K y (.type "list")) (hf : GName K f (.ref 38)) (hd : 5 ≤ d) (h : RefE K d env nm e P)
  (hy : env.kindOf y = some .globalImplicit := by rfl) (hdy : (y == ("__debug__" : Str)) = false := by decide)
  (hx : env.kindOf f = some .globalImplicit := by rfl) (hk : env.scope.kind = .function := by rfl) (hg : env.globals = mainGlobals := by rfl) (hb : env.builtins = builtinsNs := by rfl) (hdb : (f == ("__debug__" : Str)) = false := by decide)
  (he : plainE e = true := by rfl) (he2 : plainE (.Call (.Name f p) [e] [] p3) = true := by rfl) : RefE K d env nm (.Call (.Name y p0) [.Call (.Name f p) [e] [] p3] [] pos) (pListG P) := fun A ρ σ s Q X rm F pp => by
 refine wpAny_Call_NameR (load_global F.inv Gl ?_ hk hy hg hb hdy)
 rw [star_cons he2]
 refine PySem.callWith_type rfl (evalArgs_plain (spliced_cons (gen_call G hf h rm (rm.mono (by (subst_vars; omega))) F pp (fun m σ₁ q => let ⟨x, e, _⟩ := q; ⟨x, e⟩) ?_ hx hk hg hb hdb he)))
 rintro x xt σ₁ s₁ h' tk g0 L m ⟨x', hxe, hasc, hz, hend, hilen, q⟩ I₁ st₁ k hL hg0 hLg hgn hn hm hsz hlt
 cases hxe
 refine spliced_nil ?_
 show wpAny K.M A (call (.type "list") [.ref g0]) _ _ _
 have F₁ := F.step I₁ st₁
 obtain ⟨l, hl, hl'⟩ := F₁.stk
 have hbot := F₁.stk.fun hl
 have sbL : ∀ b ∈ l.filterMap (·.frame), s₁.heap.get? b ≠ Option.none := fun b hb e => by
  obtain ⟨_, _, o, e', _⟩ := hbot.2 b hb
  rw [e] at e'; cases e'
 have hA : FrAt A.in1.in1 (l.filterMap (·.frame)) := ⟨l, hl, fun e he => by
  obtain ⟨k1, L', o, a1, _⟩ := hl' e he
  exact ⟨k1, L', a1, List.mem_filterMap.mpr ⟨e, he, a1⟩⟩⟩
 have rm4 : Room 4 A.in1.in1 := ⟨rm.1, by have := rm.2.1; show A.depth + 4 ≤ 500; (subst_vars; lia), by have := rm.2.2; show A.units + 1 + 1 + 100 * 4 ≤ 5000; lia⟩
 generalize hs2 : ({ s₁ with heap := h', toks := tk, gens := s₁.gens.push (.fresh (.func bd_iec (genv L))) } : Shared) = s2
 have h2h : s2.heap = h' := by rw [← hs2]
 have h2g : s2.gens = s₁.gens.push (.fresh (.func bd_iec (genv L))) := by rw [← hs2]
 have I2 : SInv K σ₁ s2 := by rw [← hs2]; exact ((F₁.grow (h' := h') (tk := tk) k).gens (I₁.bare.push rfl)).inv
 refine callType_codes (Q₁ := fun obj s' => obj = .ref s2.heap.objs.size ∧ s' = { s2 with heap := s2.heap.push { cls := .type "list", data := .seq #[] } }) PySem.F.called_list (PySem.F.typeCall_list_1 _) PySem.F.entry_list_init
  (code_list_new _ ⟨rfl, rfl⟩) fun obj s' h₁ => ?_
 obtain ⟨rfl, rfl⟩ := h₁
 generalize hSS : s2.heap.objs.size = S
 have hSg : S = g0 + 1 := by rw [← hSS, h2h]; exact hsz
 have hS0 : (s2.heap.push { cls := .type "list", data := .seq #[] }).get? S = some { cls := .type "list", data := .seq #[] } := by rw [← hSS]; exact Heap.get?_push_size _ rfl
 refine ⟨⟨_, hS0, rfl⟩, PySem.F.args_list_init_2 _ _, ?_⟩
 show wpAny _ A.in1.in1 (do let old ← Builtin.List.listItems (.ref S); Builtin.List.listUpdate (.ref S) (fun _ => #[]); letGo old.toList.reverse; Builtin.List.listExtendWith (.ref S) (.ref g0) .none) _ _ _
 refine wpAny_bind ?_
 unfold Builtin.List.listItems
 refine wpAny_bind (wpAny_seqItems hS0 rfl (wpAny_pure ?_))
 show wpAny _ A.in1.in1 (updateSeq S (fun _ => #[]) >>= fun _ => letGo (#[] : Array Value).toList.reverse >>= fun _ => Builtin.List.listExtendWith (.ref S) (.ref g0) .none) _ _ _
 refine wpAny_bind (wpAny_updateSeq hS0 rfl ?_)
 have hS2 := Heap.get?_update_self (Obj.mapSeq (fun _ => (#[] : Array Value))) hS0 rfl
 have oth : ∀ (H : Heap) (f : Obj → Obj) b o, b ≠ S → H.get? b = some o → (H.update S f).get? b = some o := fun H f b o hb e => (Heap.get?_update_other _ _ (Ne.symm hb)).trans e
 refine wpAny_bind (wpAny_letGo ?_)
 have hgS : g0 ≠ S := by rw [hSg]; exact Nat.ne_of_lt (Nat.lt_succ_self g0)
 have hgn2 : s2.heap.IsGen g0 s₁.gens.size := by rw [h2h]; exact hgn
 have up : ∀ H : Heap, H.IsGen g0 s₁.gens.size → ∀ f, (H.update S f).IsGen g0 s₁.gens.size := fun H hh f => by obtain ⟨o, a, b, e, r⟩ := hh; exact ⟨o, a, b, oth H f _ _ hgS e, r⟩
 have hgn0 : (s2.heap.push { cls := .type "list", data := .seq #[] }).IsGen g0 s₁.gens.size := by obtain ⟨o, a, b, e, r⟩ := hgn2; exact ⟨o, a, b, Heap.get?_push_of_some _ e, r⟩
 have hgn1 := up _ hgn0 (Obj.mapSeq (fun _ => (#[] : Array Value)))
 unfold Builtin.List.listExtendWith
 refine wpAny_bind (wpAny_typeOf (Heap.IsGen.typeIs (s := { s2 with heap := _ }) hgn1) ?_)
 have g1 : Builtin.List.listSameRef (.ref S) (.ref g0) = false := by simp [Builtin.List.listSameRef, Ne.symm hgS]
 have g2 : (Value.type "generator" == Value.type "list") = false := by decide
 have g3 : (Value.type "generator" == Value.type "tuple") = false := by decide
 simp only [g1, g2, g3, Bool.or_false, Bool.false_eq_true, if_false]
 refine wpAny_bind (wpAny_pyIter_gen (s := { s2 with heap := _ }) hgn1 ?_)
 refine wpAny_bind (wpAny_holding ?_)
 unfold Builtin.List.listLengthHint
 refine wpAny_bind (wpAny_specialOf (Heap.IsGen.typeIs (s := { s2 with heap := _ }) hgn1) PySem.F.gen_no_len ?_)
 show wpAny _ A.in1.in1 (specialOf (Value.ref g0) (Str.ofString "__length_hint__") >>= _) _ _ _
 refine wpAny_bind (wpAny_specialOf (Heap.IsGen.typeIs (s := { s2 with heap := _ }) hgn1) PySem.F.gen_no_hint ?_)
 refine wpAny_pure ?_
 show wpAny _ A.in1.in1 (rule "list.extend.makes-room" >>= fun _ => Builtin.List.listTouch (.ref S) >>= fun _ =>
  again (.builtin "list.extend.loop" ⟨[.ref S, .ref g0, .none], []⟩)) _ _ _
 refine wpAny_bind (wpAny_rule ?_)
 refine wpAny_bind ?_
 show wpAny _ A.in1.in1 (updateSeq S (·.push .none) >>= fun _ => updateSeq S (·.pop)) _ _ _
 refine wpAny_bind (wpAny_updateSeq hS2 rfl ?_)
 have hS3 := Heap.get?_update_self (Obj.mapSeq (·.push Value.none)) hS2 rfl
 refine wpAny_updateSeq (hz := by seq_fits) hS3 rfl ?_
 have hS4 := Heap.get?_update_self (Obj.mapSeq (·.pop)) hS3 rfl
 have hgn4 := up _ (up _ hgn1 (Obj.mapSeq (·.push Value.none))) (Obj.mapSeq (·.pop))
 have hx4 : ∀ b o, s2.heap.get? b = some o → ((((s2.heap.push { cls := .type "list", data := .seq #[] }).update S (Obj.mapSeq (fun _ => (#[] : Array Value)))).update S (Obj.mapSeq (·.push Value.none))).update S (Obj.mapSeq (·.pop))).get? b = some o := fun b o e => by
  have hb : b ≠ S := fun z => by have := Heap.lt_size e; rw [hSS, z] at this; exact Nat.lt_irrefl _ this
  exact oth _ _ _ _ hb (oth _ _ _ _ hb (oth _ _ _ _ hb (Heap.get?_push_of_some _ e)))
 have hsz4 : ((((s2.heap.push { cls := .type "list", data := .seq #[] }).update S (Obj.mapSeq (fun _ => (#[] : Array Value)))).update S (Obj.mapSeq (·.push Value.none))).update S (Obj.mapSeq (·.pop))).objs.size = S + 1 := by
  rw [(Heap.SameBut.update ..).1, (Heap.SameBut.update ..).1, (Heap.SameBut.update ..).1, Heap.size_push, hSS]
 generalize ((((s2.heap.push { cls := .type "list", data := .seq #[] }).update S (Obj.mapSeq (fun _ => (#[] : Array Value)))).update S (Obj.mapSeq (·.push Value.none))).update S (Obj.mapSeq (·.pop))) = H4 at *
 refine wpAny_pure ⟨plainId_quiet PySem.F.plain_extend_loop _, ?_⟩
 have newS : s2.heap.get? S = Option.none := by rw [← hSS]; exact none_of_ge (Nat.le_refl _)
 have newS1 : s₁.heap.get? S = Option.none := by
  cases e : s₁.heap.get? S with
  | none => rfl
  | some o => have := k _ _ e; rw [← h2h] at this; rw [this] at newS; cases newS
 have offS := I2.offNew newS
 have I4 : SInv K (put σ₁ S (.list [])) { s2 with heap := H4, toks := s2.toks } := I2.alloc (tk := s2.toks) (mo := .list []) hx4 newS ⟨[], _, hS4, .nil, Nat.zero_le _⟩
 have k4 : ∀ b o, s₁.heap.get? b = some o → H4.get? b = some o := fun b o e => hx4 _ _ (by rw [h2h]; exact k _ _ e)
 have F4 : FrOk K A.in1.in1 (put σ₁ S (.list [])) H4 := by
  refine ⟨l, hl, fun e he => ?_⟩
  obtain ⟨k1, L', o, a1, a2, a3, a4, a5⟩ := hl' e he
  exact ⟨k1, L', o, a1, k4 _ _ a2, a3, by rw [put_other _ _ (fun z => by rw [z, newS1] at a2; cases a2)]; exact a4, a5⟩
 have hLS : L ≠ S := fun z => by rw [hSg] at z; rw [z] at hlt; exact absurd hlt (Nat.not_lt.mpr (Nat.le_succ g0))
 have hn4 : H4.Ns L m := by
  obtain ⟨o, es, ep, e, r⟩ := hn
  exact ⟨o, es, ep, hx4 _ _ (by rw [h2h]; exact e), r⟩
 have fpn : ∀ b ∈ [L, S + 1 + 1, S + 1], s₁.heap.get? b = Option.none ∧ ∀ o, H4.get? b = some o → ¬ Firm o := by
  have big : ∀ b, S + 1 ≤ b → s₁.heap.get? b = Option.none ∧ ∀ o, H4.get? b = some o → ¬ Firm o := fun b hb => by
   have e : H4.get? b = Option.none := none_of_ge (by rw [hsz4]; exact hb)
   refine ⟨?_, fun o e' => by rw [e] at e'; cases e'⟩
   cases e1 : s₁.heap.get? b with
   | none => rfl
   | some o => have := k4 b o e1; rw [e] at this; cases this
  intro b hb
  rcases List.mem_cons.mp hb with rfl | hb
  ·refine ⟨hL, fun o e => ?_⟩
   obtain ⟨o', es, ep, e', hd', _⟩ := hn4
   rw [e] at e'; cases e'; exact notFirm_dict hd'
  rcases List.mem_cons.mp hb with rfl | hb
  ·exact big _ (Nat.le_succ _)
  ·rw [List.mem_singleton.mp hb]; exact big _ (Nat.le_refl _)
 have Sus := susp_first (g := s₁.gens.size) (s := { s2 with heap := H4, toks := s2.toks }) (G.gn _ _ rfl) rm4 hA I4 (by show s2.gens[_]? = _; rw [h2g]; simp) hn4 hm (I₁.offNew hL).2 (fun hm => sbL L hm hL) (fun b hb => (hbot.2 b hb).2.1) hasc hz hend
 have hfpe : ({ s2 with heap := H4, toks := s2.toks } : Shared).heap.objs.size = S + 1 := hsz4
 rw [hfpe] at Sus
 have frfp : ∀ e ∈ l, ∀ L', e.frame = some L' → L' ∉ [L, S + 1 + 1, S + 1] := fun e he L' hL' hmem => by
  obtain ⟨k1, L2, o, a1, a2, _⟩ := hl' e he
  rw [hL'] at a1; cases a1
  rw [(fpn _ hmem).1] at a2; cases a2
 refine gen_extend (A := A.in1) (σ := σ₁) (S := S) (g0 := g0) (g := s₁.gens.size) (fp := [L, S + 1 + 1, S + 1]) (l := l) (items := escGo x 0 false) G.lim (rm4.mono (by walk_at "q")) hl ?_ ?_ hgS hilen frfp _ 0 true { s2 with heap := H4, toks := s2.toks } rfl (Nat.zero_le _) (by simpa using I4) (by simpa using F4) hgn4 (fun b hb => ⟨(I₁.offNew (fpn b hb).1).1, (I₁.offNew (fpn b hb).1).2, (fpn b hb).2⟩) Sus (fun s' I' k' gg' => ?_)
 ·simp only [List.mem_cons, List.not_mem_nil, or_false, not_or]
  exact ⟨Ne.symm hLS, Nat.ne_of_lt (Nat.lt_succ_of_lt (Nat.lt_succ_self S)), Nat.ne_of_lt (Nat.lt_succ_self S)⟩
 ·simp only [List.mem_cons, List.not_mem_nil, or_false, not_or]
  have e1 : g0 < S := by rw [hSg]; exact Nat.lt_succ_self g0
  exact ⟨Ne.symm hLg, Nat.ne_of_lt (Nat.lt_succ_of_lt (Nat.lt_succ_of_lt e1)), Nat.ne_of_lt (Nat.lt_succ_of_lt e1)⟩
 ·refine ⟨rfl, ?_⟩
  refine ⟨.ref S, _, .ref S, I', ⟨fun b o e h1 h2 => ?_, fun b o e h1 h2 => ?_, fun g x e => ?_⟩, q S offS.1⟩
  ·obtain ⟨o1, e1, q1⟩ := st₁.keep b o e h1 h2
   have hb : b ∉ S :: [L, S + 1 + 1, S + 1] := fun hm => by
    rcases List.mem_cons.mp hm with z | hm
    ·rw [z, newS1] at e1; cases e1
    ·rw [(fpn _ hm).1] at e1; cases e1
   obtain ⟨o2, e2, q2⟩ := k'.keep b o1 (k4 _ _ e1) hb
   exact ⟨o2, e2, q1.trans q2⟩
  ·obtain ⟨o1, e1, q1⟩ := st₁.keep b o e h1 h2
   rw [put_other _ _ (fun z => by rw [z, newS1] at e1; cases e1)]
   exact st₁.dom b o e h1 h2
  ·have e1 := st₁.gens g x e
   have hlt1 := (Array.getElem?_eq_some_iff.mp e1).1
   refine gg' g x (Nat.ne_of_lt hlt1) ?_
   show s2.gens[g]? = some x
   rw [h2g, Array.getElem?_push_lt hlt1]; exact (Array.getElem?_eq_getElem hlt1).symm.trans e1
end
section
variable {K : Ktx} {d : Nat} {env : Env} {nm : List Str}
theorem not_mods {σ : Sto} {s : Shared} (hbig : ∃ a o, sysModules < a ∧ K.h0.get? a = some o) (I : SInv K σ s) : s.heap.objs.size ≠ sysModules := by
 obtain ⟨a, o, ha, e⟩ := hbig
 exact Nat.ne_of_gt (Nat.lt_trans ha (Heap.lt_size (I.old _ _ e)))
theorem dict_postb {σ : Sto} {s : Shared} {kvs : List (Int × Value)} {l : List (Int × MV)} {Q : MV → Sto → Prop} {a : Addr} {h' : Heap} {tk : Nat} (I : SInv K σ s) (ha : s.heap.get? a = none) (hm : a ≠ sysModules) (e : h'.DictOf (intKind K.prog K.w) a kvs) (rs : Reps h' (kvs.map (·.2)) (l.map (·.2))) (hk : kvs.map (·.1) = l.map (·.1))
  (k : ∀ b o, s.heap.get? b = some o → h'.get? b = some o) (q : ∀ a, σ a = none → a ≠ sysModules → ∀ ep, Q (.ref a) (put σ a (.dict l ep))) : PostE K σ s Q (.ref a) { s with heap := h', toks := tk } := by
 obtain ⟨ep, e'⟩ := e.dictAt
 exact ⟨.ref a, _, .ref a, I.alloc (mo := .dict l ep) k ha ⟨kvs, e', rs, hk⟩, .alloc k ha, q a (I.offNew ha).1 hm ep⟩
def pDict0b : PE := fun _ σ Q _ => ∀ a, σ a = none → a ≠ sysModules → ∀ ep, Q (.ref a) (put σ a (.dict [] ep))
theorem RefE.dict0b {pos : Pos} (hbig : ∃ a o, sysModules < a ∧ K.h0.get? a = some o) : RefE K d env nm (.Dict [] [] pos) pDict0b := fun A ρ σ s Q X rm F pp =>
 wpAny_Dict_empty (dict_postb (kvs := []) (l := []) (tk := s.toks) F.inv (none_of_ge (Nat.le_refl _)) (not_mods hbig F.inv) (Heap.DictOf.new _) .nil rfl (fun b o e => Heap.get?_push_of_some _ e) pp)
def pDict1b : PE := fun _ σ Q _ => ∀ a, σ a = none → a ≠ sysModules → ∀ ep, Q (.ref a) (put σ a (.dict [(0, .int 0)] ep))
theorem RefE.dict1b {k1 k2 : Nat} {p1 p2 pos : Pos} (hbig : ∃ a o, sysModules < a ∧ K.h0.get? a = some o) : RefE K d env nm (.Dict [some (.Constant (.int 0) k1 p1)] [.Constant (.int 0) k2 p2] pos) pDict1b := fun A ρ σ s Q X rm F pp => by
 refine wpAny_Dict_walk (knd := intKind K.prog K.w) rfl rfl (by simp) (by simp) ?_
 show wpAny _ _ (evalPairs [(eval (.Constant (.int 0) k1 p1) env, do let x ← eval (.Constant (.int 0) k2 p2) env; standAt pos; pure x)]) _ _ _
 refine evalPairs_cons (wpAny_Constant_int (wpAny_bind (wpAny_Constant_int (wpAny_bind (wpAny_standAt (wpAny_pure (evalPairs_nil ?_)))))))
 refine ⟨[((0 : Int), _)], ⟨by simp [intKind, Value.isInt], rfl, trivial⟩, Heap.DictOf.new _, fun h' hD hs => ?_⟩
 have k : ∀ b o, s.heap.get? b = some o → h'.get? b = some o := fun b o e => hs.extBut b o (Nat.ne_of_lt (Heap.lt_size e)) (Heap.get?_push_of_some _ e)
 refine dict_postb (l := [(0, .int 0)]) F.inv (none_of_ge (Nat.le_refl _)) (not_mods hbig F.inv) hD ?_ ?_ k pp
 ·exact .cons (.int 0 _) .nil
 ·rfl
end
structure Good2 (K : Ktx) : Prop where
 sp : SpecK K
 nest : NestK K
 pat : PatAt K.h0
 big : ∃ a o, sysModules < a ∧ K.h0.get? a = some o
noncomputable def signTab : List (List Nat × List (List Nat)) := [([63], [[46]]), ([92], [[92, 92]]), ([93], [[92, 93]]), ([91, 33, 97, 93], [[91], [94], [97], [93]]), ([91, 92, 93], [[91], [92, 92], [93]]), ([91, 98, 45, 97, 93], [[40], [63], [33], [41]]), ([124], [[92, 124]])]
noncomputable abbrev FS := List MV → Sto → (MV → Sto → Prop) → (Sto → Prop) → Prop
def retQ (Q : MV → Sto → Prop) : MF → Loc → Sto → Prop := fun f _ σ' => match f with | .ret m => Q m σ' | .next => Q .none σ' | _ => False
theorem szL : sizeLine = 16777216 := rfl
def Ge (σ σ' : Sto) : Prop := ∀ a mo, σ a = some mo → σ' a = some mo
theorem Ge.refl (σ : Sto) : Ge σ σ := fun _ _ e => e
theorem Ge.trans {a b c : Sto} (x : Ge a b) (y : Ge b c) : Ge a c := fun p m e => y p m (x p m e)
theorem Ge.put {σ σ' : Sto} (x : Ge σ σ') {a : Addr} (h : σ' a = none) (mo : MO) : Ge σ (put σ' a mo) := fun p m e => by
 rw [put_other _ _ (fun q => by have := x p m e; rw [q, h] at this; cases this)]; exact x p m e
theorem Ge.new {σ σ' : Sto} (x : Ge σ σ') {a : Addr} (h : σ' a = none) : σ a = none := by
 cases e : σ a with
 | none => rfl
 | some mo => have := x a mo e; rw [h] at this; cases this
def NewL (σ : Sto) (l : List MV) (Q : MV → Sto → Prop) : Prop := ∀ b σ', Ge σ σ' → σ b = none → σ' b = some (.list l) → Q (.ref b) σ'
def Val (σ : Sto) (m : MV) (Q : MV → Sto → Prop) : Prop := ∀ σ', Ge σ σ' → Q m σ'
noncomputable abbrev Itm := List Nat × Int × Int
noncomputable def itemMV (t : Itm) : MV := .tup [.str t.1, .int t.2.1, .int t.2.2]
noncomputable def moreL : List (List Nat) := [[97], [63], [92], [93], [91, 33, 97, 93], [91, 92, 93], [91, 98, 45, 97, 93], [124]]
noncomputable def itemOf (x : Int) : Itm :=
 let kind := Int.fmod x 8
 let more := Int.fmod (Int.fdiv x 8) 1000000000
 if kind < 2 then ([40], 1, more + 1) else if kind < 4 then ([41], -1, more + 1) else if kind = 6 then (moreL.getD (Int.fmod more 8).toNat [], 0, 0) else (if kind = 7 then [34] else [42], 0, 0)
noncomputable abbrev Unt := List Nat × Int
noncomputable def unitMV (u : Unt) : MV := .tup [.str u.1, .int u.2]
def S_item : FS := fun ms σ Q X => ∃ x : Int, ms = [.int x] ∧ Val σ (itemMV (itemOf x)) Q
def S_sign : FS := fun ms σ Q X => ∃ t, ms = [.str t] ∧ NewL σ ((signs signTab t).map .str) Q
noncomputable abbrev Stp2 := Int × Int
noncomputable def stepMV (s : Stp2) : MV := .tup [.int s.1, .int s.2]
noncomputable def balGo : List Stp2 → Int → Bool → Bool
 | [], d, ok => decide (d = 0) && ok
 | (s, _) :: r, d, ok => balGo r (d + s) (ok && decide (0 ≤ d + s))
def S_taken : FS := fun ms σ Q X => ∃ a l, ms = [.ref a] ∧ σ a = some (.list (l.map stepMV)) ∧ Val σ (.bool (balGo l 0 true)) Q
def S_escape : FS := fun ms σ Q X => ∃ c : Nat, ms = [.str [c]] ∧ c < 128 ∧ Val σ (.str (if c ∈ specials then [92, c] else [c])) Q
noncomputable abbrev Pc := List Nat × Option (List Nat)
noncomputable def pcTab : List Pc := [([91, 40, 93], some [91, 40, 93]), ([91, 41, 93], some [91, 41, 93]), ([40], some [92, 40]), ([41], some [92, 41]), ([42], none), ([34], some [34]), ([97], some [97]), ([63], some [46]), ([92], some [92, 92]), ([93], some [92, 93]),
 ([91, 33, 97, 93], some [91, 94, 97, 93]), ([91, 92, 93], some [91, 92, 92, 93]), ([91, 98, 45, 97, 93], some [40, 63, 33, 41]), ([124], some [92, 124])]
noncomputable def patOf (pcs : List Pc) : List Nat := (pcs.map (·.1)).flatten
noncomputable def addPc (star : Addr) (acc : List MV) (pc : Pc) : List MV := match pc.2 with
 | some s => acc ++ [.str s]
 | none => match acc.getLast? with
  | some (.ref _) => acc
  | _ => acc ++ [.ref star]
noncomputable def partsOf (star : Addr) (pcs : List Pc) : List MV := pcs.foldl (addPc star) []
def S_tr : FS := fun ms σ Q X => ∃ pcs star, ms = [.str (patOf pcs), .ref star, .str [46]] ∧ (∀ p ∈ pcs, p ∈ pcTab) ∧ pcs.length ≤ 100 ∧ σ 78 = some .tab ∧ NewL σ (partsOf star pcs) Q
theorem forGo_inv {T : PT} {B : PS} {ok : Sto → Prop} {Q : MF → Loc → Sto → Prop} (I : List MV → Loc → Sto → Prop)
  (step : ∀ x xs ρ σ (G : Loc → Sto → Prop), (∀ ρ σ, I xs ρ σ → G ρ σ) → I (x :: xs) ρ σ → T x ρ fun ρ₁ => B ρ₁ σ (fun f ρ₂ σ₂ => match f with
   | .next | .cont => ok σ₂ ∧ G ρ₂ σ₂
   | .brk => Q .next ρ₂ σ₂
   | .ret m => Q (.ret m) ρ₂ σ₂) fun _ => False)
  (hend : ∀ ρ σ, I [] ρ σ → Q .next ρ σ) : ∀ (items : List MV) (ρ : Loc) (σ : Sto), I items ρ σ → forGo T B ok items ρ σ Q
 | [], ρ, σ, h => hend ρ σ h
 | x :: xs, ρ, σ, h => step x xs ρ σ (fun ρ σ => forGo T B ok xs ρ σ Q) (fun ρ σ => forGo_inv I step hend xs ρ σ) h
theorem forGoX_inv {T : PT} {B : PS} {ok : Sto → Prop} {Q : MF → Loc → Sto → Prop} {X : Sto → Prop} (I : List MV → Loc → Sto → Prop)
  (step : ∀ x xs ρ σ (G : Loc → Sto → Prop), (∀ ρ σ, I xs ρ σ → G ρ σ) → I (x :: xs) ρ σ → T x ρ fun ρ₁ => B ρ₁ σ (fun f ρ₂ σ₂ => match f with
   | .next | .cont => ok σ₂ ∧ G ρ₂ σ₂
   | .brk => Q .next ρ₂ σ₂
   | .ret m => Q (.ret m) ρ₂ σ₂) X)
  (hend : ∀ ρ σ, I [] ρ σ → Q .next ρ σ) : ∀ (items : List MV) (ρ : Loc) (σ : Sto), I items ρ σ → forGoX T B ok items ρ σ Q X
 | [], ρ, σ, h => hend ρ σ h
 | x :: xs, ρ, σ, h => step x xs ρ σ (fun ρ σ => forGoX T B ok xs ρ σ Q X) (fun ρ σ => forGoX_inv I step hend xs ρ σ) h
theorem compGo_inv {T : PT} {B : PB} {P : PE} {ok : Sto → Prop} {ρ : Loc} {Q : List MV → Sto → Prop} (I : List MV → List MV → Sto → Prop)
  (step : ∀ x xs acc σ (G : List MV → Sto → Prop), (∀ acc σ, I xs acc σ → G acc σ) → I (x :: xs) acc σ → T x ρ fun ρ₁ => B ρ₁ σ (fun b σ₁ => ok σ₁ ∧ (b = true → P ρ₁ σ₁ (fun m σ₂ => ok σ₂ ∧ G (acc ++ [m]) σ₂) fun _ => False) ∧ (b = false → G acc σ₁)) fun _ => False)
  (hend : ∀ acc σ, I [] acc σ → Q acc σ) : ∀ (items acc : List MV) (σ : Sto), I items acc σ → compGo T B P ok ρ items σ acc Q
 | [], acc, σ, h => hend acc σ h
 | x :: xs, acc, σ, h => step x xs acc σ (fun acc σ => compGo T B P ok ρ xs σ acc Q) (fun acc σ => compGo_inv I step hend xs acc σ) h
abbrev kFB (ok : Sto → Prop) (G : Loc → Sto → Prop) (Q : MF → Loc → Sto → Prop) : MF → Loc → Sto → Prop := fun f ρ₂ σ₂ => match f with
 | .next | .cont => ok σ₂ ∧ G ρ₂ σ₂
 | .brk => Q .next ρ₂ σ₂
 | .ret m => Q (.ret m) ρ₂ σ₂
theorem forGo_map {α : Type} {T : PT} {B : PS} {ok : Sto → Prop} {Q : MF → Loc → Sto → Prop} (g : α → MV) (l : List α) (I : List α → Loc → Sto → Prop)
  (step : ∀ dn a rs, l = dn ++ a :: rs → a ∈ l → ∀ ρ σ (G : Loc → Sto → Prop), (∀ ρ σ, I (dn ++ [a]) ρ σ → G ρ σ) → I dn ρ σ → T (g a) ρ fun ρ₁ => B ρ₁ σ (kFB ok G Q) fun _ => False)
  (hend : ∀ ρ σ, I l ρ σ → Q .next ρ σ) {ρ : Loc} {σ : Sto} (h0 : I [] ρ σ) : forGo T B ok (l.map g) ρ σ Q := by
 have key : ∀ (rs dn : List α) (ρ : Loc) (σ : Sto), l = dn ++ rs → I dn ρ σ → forGo T B ok (rs.map g) ρ σ Q := by
  intro rs
  induction rs with
  | nil => intro dn ρ σ e h; rw [List.append_nil] at e; subst e; exact hend ρ σ h
  | cons a rs ih => intro dn ρ σ e h; exact step dn a rs e (e ▸ List.mem_append_right _ List.mem_cons_self) ρ σ (fun ρ σ => forGo T B ok (rs.map g) ρ σ Q) (fun ρ σ h => ih (dn ++ [a]) ρ σ (by rw [e, List.append_assoc]; rfl) h) h
 exact key l [] ρ σ rfl h0
theorem forGoX_map {α : Type} {T : PT} {B : PS} {ok : Sto → Prop} {Q : MF → Loc → Sto → Prop} {X : Sto → Prop} (g : α → MV) (l : List α) (I : List α → Loc → Sto → Prop)
  (step : ∀ dn a rs, l = dn ++ a :: rs → a ∈ l → ∀ ρ σ (G : Loc → Sto → Prop), (∀ ρ σ, I (dn ++ [a]) ρ σ → G ρ σ) → I dn ρ σ → T (g a) ρ fun ρ₁ => B ρ₁ σ (kFB ok G Q) X)
  (hend : ∀ ρ σ, I l ρ σ → Q .next ρ σ) {ρ : Loc} {σ : Sto} (h0 : I [] ρ σ) : forGoX T B ok (l.map g) ρ σ Q X := by
 have key : ∀ (rs dn : List α) (ρ : Loc) (σ : Sto), l = dn ++ rs → I dn ρ σ → forGoX T B ok (rs.map g) ρ σ Q X := by
  intro rs
  induction rs with
  | nil => intro dn ρ σ e h; rw [List.append_nil] at e; subst e; exact hend ρ σ h
  | cons a rs ih => intro dn ρ σ e h; exact step dn a rs e (e ▸ List.mem_append_right _ List.mem_cons_self) ρ σ (fun ρ σ => forGoX T B ok (rs.map g) ρ σ Q X) (fun ρ σ h => ih (dn ++ [a]) ρ σ (by rw [e, List.append_assoc]; rfl) h) h
 exact key l [] ρ σ rfl h0
abbrev kCB (ok : Sto → Prop) (P : PE) (ρ₁ : Loc) (G : MV → Sto → Prop) (N : Sto → Prop) : Bool → Sto → Prop := fun b σ₁ => ok σ₁ ∧ (b = true → P ρ₁ σ₁ (fun m σ₂ => ok σ₂ ∧ G m σ₂) fun _ => False) ∧ (b = false → N σ₁)
theorem compGo_filt {α : Type} {T : PT} {B : PB} {P : PE} {ok : Sto → Prop} {ρ : Loc} {σ : Sto} {Q : List MV → Sto → Prop} (g f : α → MV) (c : α → Bool) (l : List α)
  (step : ∀ a ∈ l, ∀ (G : MV → Sto → Prop) (N : Sto → Prop), (c a = true → G (f a) σ) → (c a = false → N σ) → T (g a) ρ fun ρ₁ => B ρ₁ σ (kCB ok P ρ₁ G N) fun _ => False)
  (hend : Q ((l.filter c).map f) σ) : compGo T B P ok ρ (l.map g) σ [] Q := by
 have key : ∀ (rs : List α) (acc : List MV), (∀ a ∈ rs, a ∈ l) → Q (acc ++ (rs.filter c).map f) σ → compGo T B P ok ρ (rs.map g) σ acc Q := by
  intro rs
  induction rs with
  | nil => intro acc _ h; rw [List.filter_nil, List.map_nil, List.append_nil] at h; exact h
  | cons a rs ih =>
   intro acc hs h
   refine step a (hs a List.mem_cons_self) (fun m σ₂ => compGo T B P ok ρ (rs.map g) σ₂ (acc ++ [m]) Q) (fun σ₁ => compGo T B P ok ρ (rs.map g) σ₁ acc Q) (fun e => ?_) (fun e => ?_)
   ·refine ih (acc ++ [f a]) (fun b hb => hs b (List.mem_cons_of_mem _ hb)) ?_
    rw [List.filter_cons_of_pos e] at h
    rw [List.append_assoc]; exact h
   ·refine ih acc (fun b hb => hs b (List.mem_cons_of_mem _ hb)) ?_
    rw [List.filter_cons_of_neg (by rw [e]; decide)] at h
    exact h
 exact key l [] (fun _ h => h) hend
theorem compGo_map {α : Type} {T : PT} {B : PB} {P : PE} {ok : Sto → Prop} {ρ : Loc} {σ : Sto} {Q : List MV → Sto → Prop} (g f : α → MV) (l : List α)
  (step : ∀ a ∈ l, ∀ (G : MV → Sto → Prop) (N : Sto → Prop), G (f a) σ → T (g a) ρ fun ρ₁ => B ρ₁ σ (kCB ok P ρ₁ G N) fun _ => False)
  (hend : Q (l.map f) σ) : compGo T B P ok ρ (l.map g) σ [] Q :=
 compGo_filt g f (fun _ => true) l (fun a h G N h1 _ => step a h G N (h1 rfl)) (by rw [List.filter_eq_self.mpr fun _ _ => rfl]; exact hend)
theorem put_ne {σ : Sto} {a b : Addr} {mo : MO} {v : Option MO} (h : b ≠ a) (e : σ b = v) : put σ a mo b = v := (put_other σ mo h).trans e
theorem ne_of_none {σ : Sto} {a b : Addr} {m : MO} (h : σ a = some m) (h' : σ b = none) : a ≠ b := fun z => by rw [z, h'] at h; cases h
theorem compGo_filtG {α : Type} {T : PT} {B : PB} {P : PE} {ok : Sto → Prop} {ρ : Loc} {σ : Sto} {Q : List MV → Sto → Prop} (g f : α → MV) (c : α → Bool) (l : List α)
  (step : ∀ a ∈ l, ∀ σ', Ge σ σ' → ∀ (G : MV → Sto → Prop) (N : Sto → Prop), (c a = true → ∀ σ'', Ge σ σ'' → G (f a) σ'') → (c a = false → ∀ σ'', Ge σ σ'' → N σ'') → T (g a) ρ fun ρ₁ => B ρ₁ σ' (kCB ok P ρ₁ G N) fun _ => False)
  (hend : ∀ σ', Ge σ σ' → Q ((l.filter c).map f) σ') : compGo T B P ok ρ (l.map g) σ [] Q := by
 have key : ∀ (rs : List α) (acc : List MV) (σ' : Sto), Ge σ σ' → (∀ a ∈ rs, a ∈ l) → (∀ σ', Ge σ σ' → Q (acc ++ (rs.filter c).map f) σ') → compGo T B P ok ρ (rs.map g) σ' acc Q := by
  intro rs
  induction rs with
  | nil => intro acc σ' hg _ h; have := h σ' hg; rw [List.filter_nil, List.map_nil, List.append_nil] at this; exact this
  | cons a rs ih =>
   intro acc σ' hg hs h
   refine step a (hs a List.mem_cons_self) σ' hg (fun m σ₂ => compGo T B P ok ρ (rs.map g) σ₂ (acc ++ [m]) Q) (fun σ₁ => compGo T B P ok ρ (rs.map g) σ₁ acc Q) (fun e σ'' hg' => ?_) (fun e σ'' hg' => ?_)
   ·refine ih (acc ++ [f a]) σ'' hg' (fun b hb => hs b (List.mem_cons_of_mem _ hb)) ?_
    rw [List.filter_cons_of_pos e] at h
    rw [List.append_assoc]; exact h
   ·refine ih acc σ'' hg' (fun b hb => hs b (List.mem_cons_of_mem _ hb)) ?_
    rw [List.filter_cons_of_neg (by rw [e]; decide)] at h
    exact h
 exact key l [] σ (Ge.refl σ) (fun _ h => h) hend
theorem forGo_range {T : PT} {B : PS} {ok : Sto → Prop} {Q : MF → Loc → Sto → Prop} (n : Nat) (I : Nat → Loc → Sto → Prop)
  (step : ∀ k, k < n → ∀ ρ σ (G : Loc → Sto → Prop), (∀ ρ σ, I (k + 1) ρ σ → G ρ σ) → I k ρ σ → T (.int k) ρ fun ρ₁ => B ρ₁ σ (kFB ok G Q) fun _ => False)
  (hend : ∀ ρ σ, I n ρ σ → Q .next ρ σ) {ρ : Loc} {σ : Sto} (h0 : I 0 ρ σ) : forGo T B ok ((List.range n).map fun (i : Nat) => MV.int i) ρ σ Q := by
 have key : ∀ m k (ρ : Loc) (σ : Sto), k + m = n → I k ρ σ → forGo T B ok ((List.range' k m).map fun (i : Nat) => MV.int i) ρ σ Q := by
  intro m
  induction m with
  | zero => intro k ρ σ e h; cases e; exact hend ρ σ h
  | succ m ih => intro k ρ σ e h; rw [List.range'_succ]; exact step k (e ▸ Nat.lt_add_of_pos_right (Nat.succ_pos m)) ρ σ _ (fun ρ σ h => ih (k + 1) ρ σ (by rw [← e, Nat.add_assoc, Nat.add_comm 1]) h) h
 rw [List.range_eq_range']
 exact key n 0 ρ σ (Nat.zero_add n) h0
def Up (u : Addr) (σ σ' : Sto) : Prop := ∀ a m, a ≠ u → σ a = some m → σ' a = some m
theorem Ge.up {σ σ' : Sto} (h : Ge σ σ') (u : Addr) : Up u σ σ' := fun a m _ e => h a m e
theorem Up.put (u : Addr) (σ : Sto) (mo : MO) : Up u σ (put σ u mo) := fun a m h e => (put_other σ mo h).trans e
theorem Up.ge {u : Addr} {σ₀ σ σ' : Sto} (h : Up u σ σ') (g : Ge σ₀ σ) (n : σ₀ u = none) : Ge σ₀ σ' := fun a m e => h a m (fun z => by rw [z, n] at e; cases e) (g a m e)
theorem Up.trans {u : Addr} {σ σ' σ'' : Sto} (h : Up u σ σ') (g : Up u σ' σ'') : Up u σ σ'' := fun a m n e => g a m n (h a m n e)
section
variable (A B P R : PS) (T : PB) (V O I L H : PE) (U : PA) (W : PT) (ρ : Loc) (σ : Sto) (X : Sto → Prop) (QS : MF → Loc → Sto → Prop) (QE : MV → Sto → Prop) (QB : Bool → Sto → Prop) (QA : List MV → Sto → Prop) (i : Nat)
abbrev kSeq : MF → Loc → Sto → Prop := fun f ρ₁ σ₁ => match f with | .next => B ρ₁ σ₁ QS X | f => QS f ρ₁ σ₁
abbrev kSet : MV → Sto → Prop := fun m σ₁ => QS .next (upd ρ i m) σ₁
abbrev kAug (f : MOp2) (old : MV) : MV → Sto → Prop := fun m σ₁ => f old m σ₁ (kSet ρ QS i)
abbrev kExpr : MV → Sto → Prop := fun _ σ₁ => QS .next ρ σ₁
abbrev kSS : MV → Sto → Prop := fun m σ₁ => B (upd ρ i m) σ₁ QS X
abbrev kSX : MV → Sto → Prop := fun _ σ₁ => B ρ σ₁ QS X
abbrev kIf : Bool → Sto → Prop := fun b σ₁ => (b = true → P ρ σ₁ QS X) ∧ (b = false → R ρ σ₁ QS X)
abbrev kRet : MV → Sto → Prop := fun m σ₁ => QS (.ret m) ρ σ₁
abbrev kAss : Bool → Sto → Prop := fun b σ₁ => b = true ∧ QS .next ρ σ₁
abbrev kAt : MV → Prop := fun m => QE m σ
abbrev kBl : Bool → Prop := fun c => QB c σ
abbrev kBv : Bool → Prop := fun c => QE (.bool c) σ
abbrev kBin2 (f : MOp2) (x : MV) : MV → Sto → Prop := fun y σ₂ => f x y σ₂ QE
abbrev kBin1 (f : MOp2) : MV → Sto → Prop := fun x σ₁ => O ρ σ₁ (kBin2 QE f x) X
abbrev kCmp2 (f : MV → MV → Sto → (Bool → Prop) → Prop) (x : MV) : MV → Sto → Prop := fun y σ₂ => f x y σ₂ (kBv σ₂ QE)
abbrev kCmp1 (f : MV → MV → Sto → (Bool → Prop) → Prop) : MV → Sto → Prop := fun x σ₁ => O ρ σ₁ (kCmp2 QE f x) X
abbrev kCmpB2 (f : MV → MV → Sto → (Bool → Prop) → Prop) (x : MV) : MV → Sto → Prop := fun y σ₂ => f x y σ₂ (kBl σ₂ QB)
abbrev kCmpB1 (f : MV → MV → Sto → (Bool → Prop) → Prop) : MV → Sto → Prop := fun x σ₁ => O ρ σ₁ (kCmpB2 QB f x) X
abbrev kNot : Bool → Sto → Prop := fun b => QB (!b)
abbrev kAnd : Bool → Sto → Prop := fun x σ₁ => (x = true → T ρ σ₁ QB X) ∧ (x = false → QB false σ₁)
abbrev kOr : Bool → Sto → Prop := fun x σ₁ => (x = true → QB true σ₁) ∧ (x = false → T ρ σ₁ QB X)
abbrev kTru : MV → Sto → Prop := fun m σ₁ => Truth m σ₁ (kBl σ₁ QB)
abbrev kIfE : Bool → Sto → Prop := fun b σ₁ => (b = true → V ρ σ₁ QE X) ∧ (b = false → O ρ σ₁ QE X)
abbrev kNeg : MV → Sto → Prop := fun m σ₁ => ∃ i, m = .int i ∧ QE (.int (-i)) σ₁
abbrev kItm2 (o : MV) : MV → Sto → Prop := fun i σ₂ => Item o i σ₂ (kAt σ₂ QE)
abbrev kItm1 : MV → Sto → Prop := fun o σ₁ => I ρ σ₁ (kItm2 QE o) X
abbrev kSlc3 (o l : MV) : MV → Sto → Prop := fun h σ₃ => Slc o l h σ₃ QE
abbrev kSlc2 (o : MV) : MV → Sto → Prop := fun l σ₂ => H ρ σ₂ (kSlc3 QE o l) X
abbrev kSlc1 : MV → Sto → Prop := fun o σ₁ => L ρ σ₁ (kSlc2 H ρ X QE o) X
abbrev kMeth2 (t : String) (f : MMeth) (o : MV) : List MV → Sto → Prop := fun ms σ₂ => KindOf t o σ₂ ∧ f o ms σ₂ QE X
abbrev kMeth1 (t : String) (f : MMeth) : MV → Sto → Prop := fun o σ₁ => KindOf t o σ₁ ∧ U ρ σ₁ (kMeth2 X QE t f o) X
abbrev kMeth0 (t : String) (f : MMeth) : MV → Sto → Prop := fun o σ₁ => KindOf t o σ₁ ∧ f o [] σ₁ QE X
abbrev kCalB (f : MFun) : List MV → Sto → Prop := fun ms σ₁ => f ms σ₁ QE
abbrev kCalS (S : FS) : List MV → Sto → Prop := fun ms σ₁ => S ms σ₁ QE X
abbrev kCon2 (m : MV) : List MV → Sto → Prop := fun ms σ₂ => QA (m :: ms) σ₂
abbrev kCon1 : MV → Sto → Prop := fun m σ₁ => U ρ σ₁ (kCon2 QA m) X
abbrev kTup : List MV → Sto → Prop := fun ms σ₁ => ms.length ≤ sizeLine ∧ QE (.tup ms) σ₁
abbrev kLst : List MV → Sto → Prop := fun ms σ₁ => ms.length ≤ sizeLine ∧ ∀ b, σ₁ b = none → QE (.ref b) (put σ₁ b (.list ms))
abbrev kApp (a : Addr) : List MV → Sto → Prop := fun ms σ₁ => mAppend (.ref a) ms σ₁ QE X
abbrev kFst (a b : List Nat) : MV → Sto → Prop := fun m σ₁ => ∃ x, m = .str x ∧ x.length ≤ 100000 ∧ QE (.str (a ++ x ++ b)) σ₁
abbrev kBmE : MV → Sto → Prop := fun o σ₁ => ∃ a l, o = .ref a ∧ σ₁ a = some (.list l) ∧ QE (.bm "list.append" a) σ₁
abbrev kNx : Loc → Prop := fun ρ₁ => QS .next ρ₁ σ
abbrev kSwp (W : List MV → Loc → (Loc → Prop) → Prop) : MV → Sto → Prop := fun m σ₁ => ∃ ms, m = .tup ms ∧ W ms.reverse ρ (kNx σ₁ QS)
abbrev kStT : MV → Sto → Prop := fun m σ₁ => W m ρ (kNx σ₁ QS)
abbrev kFor2 : List MV → (Sto → Prop) → Prop := fun items ok => forGo W A ok items ρ σ QS
abbrev kFor1 : MV → Sto → Prop := fun m σ₁ => IterOf m σ₁ (kFor2 A W ρ σ₁ QS)
abbrev kForG : MV → Sto → Prop := fun m σ₁ => ∃ x, m = .str x ∧ (∀ c ∈ x, c < 128) ∧ x.length + 2 ≤ sizeLine ∧ escEnd x false = false ∧ forGo W A (fun _ => True) (escGo x 0 false) ρ σ₁ QS
abbrev kSI4 : Sto → Prop := fun σ₄ => QS .next ρ σ₄
abbrev kSI3 (m o : MV) : MV → Sto → Prop := fun i σ₃ => setIt o i m σ₃ (kSI4 ρ QS)
abbrev kSI2 (m : MV) : MV → Sto → Prop := fun o σ₂ => I ρ σ₂ (kSI3 ρ QS m o) X
abbrev kSI1 : MV → Sto → Prop := fun m σ₁ => O ρ σ₁ (kSI2 I ρ X QS m) X
abbrev kCom3 : List MV → Sto → Prop := fun acc σ₂ => ∀ a, σ₂ a = none → QE (.ref a) (put σ₂ a (.list acc))
abbrev kCom2 : List MV → (Sto → Prop) → Prop := fun items ok => items.length ≤ sizeLine ∧ compGo W T V ok ρ items σ [] (kCom3 QE)
abbrev kCom1 (fr : List Nat) : MV → Sto → Prop := fun m σ₁ => (∀ i ∈ fr, ρ i = none) ∧ IterOf m σ₁ (kCom2 T V W ρ σ₁ QE)
abbrev kFoX2 : List MV → (Sto → Prop) → Prop := fun items ok => forGoX W A ok items ρ σ QS X
abbrev kFoX1 : MV → Sto → Prop := fun m σ₁ => IterOf m σ₁ (kFoX2 A W ρ σ₁ X QS)
abbrev kWhB (J : Nat → Loc → Sto → Prop) (n : Nat) : MF → Loc → Sto → Prop := fun f ρ₂ σ₂ => match f with
 | .next | .cont => ∃ k, k < n ∧ J k ρ₂ σ₂
 | .brk => QS .next ρ₂ σ₂
 | .ret m => QS (.ret m) ρ₂ σ₂
abbrev kWhT (J : Nat → Loc → Sto → Prop) (n : Nat) : Bool → Sto → Prop := fun b σ₁ => (b = true → B ρ σ₁ (kWhB QS J n) fun _ => False) ∧ (b = false → QS .next ρ σ₁)
end
section
variable {A B P R : PS} {T : PB} {V O I L H : PE} {U : PA} {ρ : Loc} {σ : Sto} {X : Sto → Prop} {QS : MF → Loc → Sto → Prop} {QE : MV → Sto → Prop} {QB : Bool → Sto → Prop} {QA : List MV → Sto → Prop} {QR : Bool → Prop} {QV : MV → Prop} {i : Nat}
theorem i_seq (h : A ρ σ (kSeq B X QS) X) : sSeq A B ρ σ QS X := h
theorem i_while (J : Nat → Loc → Sto → Prop) (n : Nat) (h0 : J n ρ σ) (h : ∀ n ρ σ, J n ρ σ → T ρ σ (kWhT B ρ QS J n) fun _ => False) : sWhile T B ρ σ QS X := ⟨J, n, h0, h⟩
theorem i_nil (h : QS .next ρ σ) : sNil ρ σ QS X := h
theorem i_set (h : V ρ σ (kSet ρ QS i) X) : sSet i V ρ σ QS X := h
theorem i_aug {f : MOp2} {m : MV} (h : ρ i = some m) (h' : V ρ σ (kAug ρ QS i f m) X) : sAug f i V ρ σ QS X := ⟨m, h, h'⟩
theorem i_expr (h : V ρ σ (kExpr ρ QS) X) : sExpr V ρ σ QS X := h
theorem i_if (h : T ρ σ (kIf P R ρ X QS) X) : sIf T P R ρ σ QS X := h
theorem i_ret (h : V ρ σ (kRet ρ QS) X) : sRet V ρ σ QS X := h
theorem i_brk (h : QS .brk ρ σ) : sBrk ρ σ QS X := h
theorem i_assert (h : T ρ σ (kAss ρ QS) X) : sAssert T ρ σ QS X := h
theorem i_t {b : Bool} {p q : Prop} (hb : b = true) (h : p) : (b = true → p) ∧ (b = false → q) := ⟨fun _ => h, fun e => by rw [hb] at e; cases e⟩
theorem i_f {b : Bool} {p q : Prop} (hb : b = false) (h : q) : (b = true → p) ∧ (b = false → q) := ⟨fun e => (by rw [hb] at e; cases e), fun _ => h⟩
theorem l_ass {b : Bool} {p : Prop} (hb : b = true) (h : p) : b = true ∧ p := ⟨hb, h⟩
theorem i_K {m : MV} (h : QE m σ) : pK m ρ σ QE X := h
theorem i_V {m : MV} (hm : ρ i = some m) (h : QE m σ) : pV i ρ σ QE X := ⟨m, hm, h⟩
theorem i_bin {f : MOp2} (h : V ρ σ (kBin1 O ρ X QE f) X) : pBin f V O ρ σ QE X := h
theorem i_cmp {f : MV → MV → Sto → (Bool → Prop) → Prop} (h : V ρ σ (kCmp1 O ρ X QE f) X) : pCmp f V O ρ σ QE X := h
theorem i_cmpB {f : MV → MV → Sto → (Bool → Prop) → Prop} (h : V ρ σ (kCmpB1 O ρ X QB f) X) : pCmpB f V O ρ σ QB X := h
theorem i_notB (h : T ρ σ (kNot QB) X) : pNotB T ρ σ QB X := h
theorem i_andB {T' : PB} (h : T ρ σ (kAnd T' ρ X QB) X) : pAndB T T' ρ σ QB X := h
theorem i_orB {T' : PB} (h : T ρ σ (kOr T' ρ X QB) X) : pOrB T T' ρ σ QB X := h
theorem i_andNil (h : QB true σ) : pAndNil ρ σ QB X := h
theorem i_orNil (h : QB false σ) : pOrNil ρ σ QB X := h
theorem i_truth (h : V ρ σ (kTru QB) X) : pTruth V ρ σ QB X := h
theorem i_ifE (h : T ρ σ (kIfE V O ρ X QE) X) : pIf T V O ρ σ QE X := h
theorem i_neg (h : V ρ σ (kNeg QE) X) : pNeg V ρ σ QE X := h
theorem i_negI {k : Int} {p : Int → Prop} (h : p k) : ∃ i, (MV.int k) = .int i ∧ p i := ⟨k, rfl, h⟩
theorem i_item (h : V ρ σ (kItm1 I ρ X QE) X) : pItem V I ρ σ QE X := h
theorem i_slc (h : V ρ σ (kSlc1 L H ρ X QE) X) : pSlc V L H ρ σ QE X := h
theorem i_meth {t : String} {f : MMeth} (h : V ρ σ (kMeth1 U ρ X QE t f) X) : pMeth t f V U ρ σ QE X := h
theorem i_callB {f : MFun} (h : U ρ σ (kCalB QE f) X) : pCallB f U ρ σ QE X := h
theorem i_callS {S : FS} (h : U ρ σ (kCalS X QE S) X) : pCallS S U ρ σ QE X := h
theorem i_pnil (h : QA [] σ) : pNil ρ σ QA X := h
theorem i_pcons (h : V ρ σ (kCon1 U ρ X QA) X) : pCons V U ρ σ QA X := h
theorem i_tup (h : U ρ σ (kTup QE) X) : pTup U ρ σ QE X := h
theorem i_lst (h : U ρ σ (kLst QE) X) : pLst U ρ σ QE X := h
theorem i_callBm {m : Addr} (hm : ρ i = some (.bm "list.append" m)) (h : U ρ σ (kApp X QE m) X) : pCallBm i U ρ σ QE X := ⟨m, hm, h⟩
theorem i_fstr {a b : List Nat} (h : V ρ σ (kFst QE a b) X) : pFstr a b V ρ σ QE X := h
theorem i_fstrS {x : List Nat} {p : List Nat → Prop} (hx : x.length ≤ 100000) (h : p x) : ∃ y, (MV.str x) = .str y ∧ y.length ≤ 100000 ∧ p y := ⟨x, rfl, hx, h⟩
theorem l_addI {a b : Int} (h : QE (.int (a + b)) σ) : oAdd (.int a) (.int b) σ QE := .inl ⟨_, _, rfl, rfl, h⟩
theorem l_addS {a b : List Nat} (hz : a.length + b.length ≤ sizeLine) (h : QE (.str (a ++ b)) σ) : oAdd (.str a) (.str b) σ QE := .inr (.inl ⟨_, _, rfl, rfl, hz, h⟩)
theorem l_iaddI {a b : Int} (h : QE (.int (a + b)) σ) : oIAdd (.int a) (.int b) σ QE := ⟨_, _, rfl, rfl, h⟩
theorem l_isubI {a b : Int} (h : QE (.int (a - b)) σ) : oISub (.int a) (.int b) σ QE := ⟨_, _, rfl, rfl, h⟩
theorem l_subI {a b : Int} (h : QE (.int (a - b)) σ) : oSub (.int a) (.int b) σ QE := ⟨_, _, rfl, rfl, trivial, h⟩
theorem l_eqI {n : Bool} {a b : Int} (h : QR (decide (a = b) ^^ n)) : cEq n (.int a) (.int b) σ QR := .inl ⟨_, _, rfl, rfl, h⟩
theorem l_eqS {n : Bool} {a b : List Nat} (h : QR (decide (a = b) ^^ n)) : cEq n (.str a) (.str b) σ QR := .inr (.inl ⟨_, _, rfl, rfl, h⟩)
theorem l_ltI {a b : Int} (h : QR (decide (a < b))) : cLt (.int a) (.int b) σ QR := .inl ⟨_, _, rfl, rfl, h⟩
theorem l_cInt {f : Int → Int → Bool} {a b : Int} (h : QR (f a b)) : cInt f (.int a) (.int b) σ QR := ⟨_, _, rfl, rfl, h⟩
theorem l_gtS {a b : List Nat} (h : QR (decide (b < a))) : cGt (.str a) (.str b) σ QR := .inr ⟨_, _, rfl, rfl, h⟩
theorem l_isSR {n : Bool} {a : List Nat} {b : Addr} (h : QR (false ^^ n)) : cIs n (.str a) (.ref b) σ QR := .inr (.inr (.inr (.inr (.inl ⟨_, _, rfl, rfl, h⟩))))
theorem l_isRR {n : Bool} {a : Addr} (h : QR (true ^^ n)) : cIs n (.ref a) (.ref a) σ QR := .inr (.inr (.inr (.inr (.inr ⟨_, rfl, rfl, h⟩))))
theorem l_truthS {l : List Nat} (hz : l.length ≤ sizeLine) (h : QR (!l.isEmpty)) : Truth (.str l) σ QR := .inr (.inl ⟨_, rfl, hz, h⟩)
theorem l_truthB {b : Bool} (h : QR b) : Truth (.bool b) σ QR := .inl ⟨_, rfl, h⟩
theorem l_truthL {a : Addr} {m : List MV} (hl : σ a = some (.list m)) (h : QR (!m.isEmpty)) : Truth (.ref a) σ QR := .inr (.inr ⟨_, _, rfl, hl, h⟩)
theorem l_itemS {l : List Nat} {k : Int} {c : Nat} (t : Nat) (hz : l.length ≤ sizeLine) (hk : k = (t : Int)) (hc : l[t]? = some c) (h : QV (.str [c])) : Item (.str l) (.int k) σ QV := by
 have hlt := (List.getElem?_eq_some_iff.mp hc).1
 refine ⟨k, rfl, .inl ⟨l, rfl, hz, t, c, ?_, hc, h⟩⟩
 subst hk
 have h1 : ¬ ((t : Int) < 0) := by grind
 simp [seqIndex?, hlt, h1]
theorem l_itemL {a : Addr} {l : List MV} {k : Int} {m : MV} (t : Nat) (hl : σ a = some (.list l)) (hk : k = (t : Int)) (hc : l[t]? = some m) (h : QV m) : Item (.ref a) (.int k) σ QV := by
 have hlt := (List.getElem?_eq_some_iff.mp hc).1
 refine ⟨k, rfl, .inr (.inr ⟨a, rfl, .inl ⟨l, hl, t, m, ?_, hc, h⟩⟩)⟩
 subst hk
 have h1 : ¬ ((t : Int) < 0) := by lia
 simp [seqIndex?, hlt, h1]
theorem l_itemLast {a : Addr} {l : List MV} {m : MV} (hl : σ a = some (.list l)) (hc : l.getLast? = some m) (h : QV m) : Item (.ref a) (.int (-1)) σ QV := by
 have hne : l ≠ [] := fun e => by subst e; cases hc
 have hlen : 0 < l.length := List.length_pos_iff.mpr hne
 refine ⟨-1, rfl, .inr (.inr ⟨a, rfl, .inl ⟨l, hl, l.length - 1, m, ?_, by rw [← List.getLast?_eq_getElem?]; exact hc, h⟩⟩)⟩
 simp [seqIndex?]; omega
theorem l_append {a : Addr} {l : List MV} {m : MV} (hl : σ a = some (.list l)) (hz : l.length < sizeLine) (h : QE .none (put σ a (.list (l ++ [m])))) : mAppend (.ref a) [m] σ QE X := ⟨a, l, m, rfl, rfl, hl, hz, h⟩
theorem l_kindL {a : Addr} {m : List MV} {p : Prop} (hl : σ a = some (.list m)) (h : p) : KindOf "list" (.ref a) σ ∧ p := ⟨.inl ⟨_, _, rfl, rfl, hl⟩, h⟩
theorem l_kindS {x : List Nat} {p : Prop} (h : p) : KindOf "str" (.str x) σ ∧ p := ⟨.inr (.inr ⟨_, rfl, rfl⟩), h⟩
theorem l_sz {n : Nat} {p : Prop} (hz : n ≤ sizeLine) (h : p) : n ≤ sizeLine ∧ p := ⟨hz, h⟩
theorem l_lenS {x : List Nat} (hz : x.length ≤ sizeLine) (h : QE (.int x.length) σ) : fLen [.str x] σ QE := ⟨_, rfl, hz, h⟩
theorem l_lenL {a : Addr} {m : List MV} (hl : σ a = some (.list m)) (h : QE (.int m.length) σ) : fLen [.ref a] σ QE := ⟨_, rfl, m, hl, h⟩
theorem l_slcS {x : List Nat} {a b : Nat} {i j : Int} (hz : x.length ≤ sizeLine) (hi : i = (a : Int)) (hj : j = (b : Int)) (hab : a ≤ b) (hb : b ≤ x.length) (h : QE (.str ((x.drop a).take (b - a))) σ) : Slc (.str x) (.int i) (.int j) σ QE := by
 subst hi; subst hj
 exact ⟨.inr ⟨_, rfl⟩, .inr ⟨_, rfl⟩, .inl ⟨x, rfl, hz, by simpa only [partOf, cut_mid x a b hab hb] using h⟩⟩
theorem l_slcF {x : List Nat} {a : Nat} {i : Int} (hz : x.length ≤ sizeLine) (hi : i = (a : Int)) (h : QE (.str (x.drop a)) σ) : Slc (.str x) (.int i) .none σ QE := by
 subst hi
 exact ⟨.inr ⟨_, rfl⟩, .inl rfl, .inl ⟨x, rfl, hz, by simpa only [partOf, cut_from] using h⟩⟩
theorem i_bm (h : V ρ σ (kBmE QE) X) : pBm V ρ σ QE X := h
theorem l_bm {a : Addr} {m : List MV} {p : Addr → Prop} (hl : σ a = some (.list m)) (h : p a) : ∃ b l, MV.ref a = .ref b ∧ σ b = some (.list l) ∧ p b := ⟨a, m, rfl, hl, h⟩
theorem i_swap {W : List MV → Loc → (Loc → Prop) → Prop} (h : V ρ σ (kSwp ρ QS W) X) : sSwap W V ρ σ QS X := h
theorem l_swap2 {a b : MV} {i j : Nat} {k : Loc → Prop} (h : k (upd (upd ρ i b) j a)) : tCons (tV i) (tCons (tV j) tNil) [a, b].reverse ρ k := ⟨_, _, rfl, _, _, rfl, rfl, h⟩
theorem l_exT {a : List MV} {p : List MV → Prop} (h : p a) : ∃ ms, MV.tup a = .tup ms ∧ p ms := ⟨_, rfl, h⟩
theorem i_setT {W : PT} (h : V ρ σ (kStT W ρ QS) X) : sSetT W V ρ σ QS X := h
theorem l_tup2 {a b : MV} {i j : Nat} {k : Loc → Prop} (h : k (upd (upd ρ i a) j b)) : tTup (tCons (tV i) (tCons (tV j) tNil)) (.tup [a, b]) ρ k := ⟨_, rfl, _, _, rfl, _, _, rfl, rfl, h⟩
theorem l_tup3 {a b c : MV} {i j n : Nat} {k : Loc → Prop} (h : k (upd (upd (upd ρ i a) j b) n c)) : tTup (tCons (tV i) (tCons (tV j) (tCons (tV n) tNil))) (.tup [a, b, c]) ρ k := ⟨_, rfl, _, _, rfl, _, _, rfl, _, _, rfl, rfl, h⟩
theorem i_for {W : PT} (h : V ρ σ (kFor1 A W ρ QS) X) : sFor W A V ρ σ QS X := h
theorem l_iterL {a : Addr} {m : List MV} {G : List MV → (Sto → Prop) → Prop} (hl : σ a = some (.list m)) (h : G m fun σ' => σ' a = some (.list m)) : IterOf (.ref a) σ G := .inl ⟨_, _, rfl, hl, h⟩
theorem l_iterS {l : List Nat} {G : List MV → (Sto → Prop) → Prop} (hl : ∀ c ∈ l, c < 128) (h : G (l.map fun c => .str [c]) fun _ => True) : IterOf (.str l) σ G := .inr (.inr (.inl ⟨_, rfl, hl, h⟩))
theorem i_forG {W : PT} (h : V ρ σ (kForG A W ρ QS) X) : sForG W A V ρ σ QS X := h
theorem i_setI (h : V ρ σ (kSI1 O I ρ X QS) X) : sSetI V O I ρ σ QS X := h
theorem l_setL {a : Addr} {l : List MV} {k : Int} {m : MV} {p : Sto → Prop} (t : Nat) (hl : σ a = some (.list l)) (hk : k = (t : Int)) (ht : t < l.length) (h : p (put σ a (.list (l.set t m)))) : setIt (.ref a) (.int k) m σ p := by
 subst hk
 exact ⟨a, t, rfl, rfl, .inl ⟨l, hl, by walk_at "q", by lia, by simpa using h⟩⟩
theorem i_del (h : O ρ σ (fun o σ₁ => I ρ σ₁ (fun i σ₂ => ∃ (a : Addr) (l : List MV) (k : Nat), o = .ref a ∧ i = .int k ∧ σ₂ a = some (.list l) ∧ k < l.length ∧ QS .next ρ (put σ₂ a (.list (l.eraseIdx k)))) X) X) : sDel O I ρ σ QS X := h
theorem l_isNN {n : Bool} (h : QR (true ^^ n)) : cIs n .none .none σ QR := .inr (.inl ⟨rfl, rfl, h⟩)
theorem l_isIN {n : Bool} {a : Int} (h : QR (false ^^ n)) : cIs n (.int a) .none σ QR := .inr (.inr (.inl ⟨_, rfl, rfl, h⟩))
theorem l_isRN {n : Bool} {a : Addr} (h : QR (false ^^ n)) : cIs n (.ref a) .none σ QR := .inr (.inr (.inr (.inl ⟨_, rfl, rfl, h⟩)))
theorem l_isBB {n : Bool} {a b : Bool} (h : QR (decide (a = b) ^^ n)) : cIs n (.bool a) (.bool b) σ QR := .inl ⟨_, _, rfl, rfl, h⟩
theorem i_comp {fr : List Nat} {W : PT} (h : H ρ σ (kCom1 T V W ρ QE fr) X) : pComp fr W T V H ρ σ QE X := h
theorem l_addL {a b : Addr} {x y : List MV} (ha : σ a = some (.list x)) (hb : σ b = some (.list y)) (hz : x.length + y.length ≤ sizeLine) (h : ∀ c, σ c = none → QE (.ref c) (put σ c (.list (x ++ y)))) : oAdd (.ref a) (.ref b) σ QE := .inr (.inr ⟨_, _, rfl, rfl, x, y, ha, hb, hz, h⟩)
theorem l_modI {a b : Int} (hb : b ≠ 0) (h : QE (.int (Int.fmod a b)) σ) : oMod (.int a) (.int b) σ QE := ⟨_, _, rfl, rfl, hb, h⟩
theorem l_mulI {a b : Int} (hb : IntMulOk a b) (h : QE (.int (a * b)) σ) : oMul (.int a) (.int b) σ QE := ⟨_, _, rfl, rfl, hb, h⟩
theorem l_gtI {a b : Int} (h : QR (decide (a > b))) : cGt (.int a) (.int b) σ QR := .inl ⟨_, _, rfl, rfl, h⟩
theorem l_minI {a b : Int} (h : QE (.int (if b < a then b else a)) σ) : fMin [.int a, .int b] σ QE := ⟨a, b, rfl, h⟩
theorem l_rng1 {n : Int} (h : QE (.rng 0 n 1) σ) : fRange [.int n] σ QE := .inl ⟨n, rfl, h⟩
theorem l_itemT {l : List MV} {k : Int} {m : MV} (t : Nat) (hz : l.length ≤ sizeLine) (hk : k = (t : Int)) (hc : l[t]? = some m) (h : QV m) : Item (.tup l) (.int k) σ QV := by
 have hlt := (List.getElem?_eq_some_iff.mp hc).1
 refine ⟨k, rfl, .inr (.inl ⟨l, rfl, hz, t, m, ?_, hc, h⟩)⟩
 subst hk
 have h1 : ¬ ((t : Int) < 0) := by lia
 simp [seqIndex?, hlt, h1]
theorem l_inL {n c : Bool} {a : Addr} {l : List MV} {m : MV} (hl : σ a = some (.list l)) (hk : Kin m l) (hc : c = true ↔ m ∈ l) (h : QR (c ^^ n)) : cIn n m (.ref a) σ QR := by
 refine .inr (.inr ⟨a, l, rfl, hl, hk, fun c' hc' => ?_⟩)
 have e : c' = c := by rw [Bool.eq_iff_iff, hc, hc']
 rw [e]; exact h
theorem rangeL_nat (n : Nat) : rangeL 0 n 1 = (List.range n).map fun (i : Nat) => MV.int i := by
 unfold rangeL
 have : (Builtin.Range.rangeSize 0 n 1).toNat = n := by
  simp [Builtin.Range.rangeSize]
  try grind
 rw [this]
 simp
theorem i_tV {m : MV} {k : Loc → Prop} (h : k (upd ρ i m)) : tV i m ρ k := h
theorem l_slcL {a : Addr} {l : List MV} {x y : Int} (hl : σ a = some (.list l)) (h : ∀ b, σ b = none → QE (.ref b) (put σ b (.list (cut l (some x) (some y))))) : Slc (.ref a) (.int x) (.int y) σ QE := ⟨.inr ⟨_, rfl⟩, .inr ⟨_, rfl⟩, .inr ⟨a, l, rfl, hl, h⟩⟩
theorem l_eqL {n c : Bool} {a b : Addr} {x y : List MV} {dx dy : List PyData} (ha : σ a = some (.list x)) (hb : σ b = some (.list y)) (hx : Dats x dx) (hy : Dats y dy) (hd : (PyData.list dx).depth ≤ 64) (hc : c = true ↔ x = y) (h : QR (c ^^ n)) : cEq n (.ref a) (.ref b) σ QR := by
 refine .inr (.inr ⟨a, b, rfl, rfl, x, y, dx, dy, ha, hb, hx, hy, hd, fun c' hc' => ?_⟩)
 have e : c' = c := by rw [Bool.eq_iff_iff, hc, hc']
 rw [e]; exact h
theorem i_meth0 {t : String} {f : MMeth} (h : V ρ σ (kMeth0 X QE t f) X) : pMeth0 t f V ρ σ QE X := h
theorem l_mul2 {b : Int} (h : QE (.int (2 * b)) σ) : oMul (.int 2) (.int b) σ QE := ⟨_, _, rfl, rfl, IntMulOk.of_left (by decide), h⟩
theorem l_swap3 {a b c : MV} {i j n : Nat} {k : Loc → Prop} (h : k (upd (upd (upd ρ i c) j b) n a)) : tCons (tV i) (tCons (tV j) (tCons (tV n) tNil)) [a, b, c].reverse ρ k := ⟨_, _, rfl, _, _, rfl, _, _, rfl, rfl, h⟩
theorem i_forX {W : PT} (h : V ρ σ (kFoX1 A W ρ X QS) X) : sForX W A V ρ σ QS X := h
theorem l_mulU {a b : Int} (ha : Builtin.Int.intBits a ≤ 64) (h : QE (.int (a * b)) σ) : oMul (.int a) (.int b) σ QE := ⟨_, _, rfl, rfl, IntMulOk.of_left ha, h⟩
theorem i_dict0 (h : ∀ a, σ a = none → a ≠ sysModules → ∀ ep, QE (.ref a) (put σ a (.dict [] ep))) : pDict0b ρ σ QE X := h
theorem i_dict1 (h : ∀ a, σ a = none → a ≠ sysModules → ∀ ep, QE (.ref a) (put σ a (.dict [(0, .int 0)] ep))) : pDict1b ρ σ QE X := h
abbrev kAn2 (P Q : PE) (ρ : Loc) (QE : MV → Sto → Prop) (X : Sto → Prop) : MV → Sto → Prop := fun x σ₁ => ∃ c, x = .bool c ∧ (c = true → Q ρ σ₁ QE X) ∧ (c = false → QE (.bool false) σ₁)
theorem i_and2 (h : V ρ σ (kAn2 V O ρ QE X) X) : pAnd2 V O ρ σ QE X := h
theorem l_an2T {c : Bool} {p : Bool → Prop} {q : Prop} (hc : c = true) (h : q) : ∃ c', MV.bool c = .bool c' ∧ (c' = true → q) ∧ (c' = false → p false) := ⟨c, rfl, fun _ => h, fun e => by rw [hc] at e; cases e⟩
theorem i_lsC {a : Addr → Prop} (h : ∀ b, σ b = none → a b) : ∀ b, σ b = none → a b := h
theorem l_modP {a b : Int} (hb : b ≠ 0) (h : QE (.int (Int.fmod a b)) σ) : oMod (.int a) (.int b) σ QE := ⟨_, _, rfl, rfl, hb, h⟩
theorem l_divP {a b : Int} (hb : b ≠ 0) (hp : Builtin.divisionGoesByPylong a b = false) (h : QE (.int (Int.fdiv a b)) σ) : oDiv (.int a) (.int b) σ QE := ⟨_, _, rfl, rfl, ⟨hb, hp⟩, h⟩
theorem l_powP {a b : Int} (hb : 2 ≤ a ∧ 0 < b ∧ ¬Builtin.Int.intTooBig (((Builtin.Int.intBits a : Nat) : Int) * b) = true) (h : QE (.int (a ^ b.toNat)) σ) : oPow (.int a) (.int b) σ QE := ⟨_, _, rfl, rfl, hb, h⟩
theorem l_iterR {a b c : Int} {G : List MV → (Sto → Prop) → Prop} (hs : Builtin.Range.small a b c = true) (h : G (rangeL a b c) fun _ => True) : IterOf (.rng a b c) σ G := .inr (.inr (.inr ⟨_, _, _, rfl, hs, h⟩))
theorem l_setD {a : Addr} {k : Int} {l : List (Int × MV)} {ep : Nat} {m : MV} {p : Sto → Prop} (hl : σ a = some (.dict l ep)) (hz : l.length ≤ 1000) (h : ∀ ep', p (put σ a (.dict (storedM l k m) ep'))) : setIt (.ref a) (.int k) m σ p := ⟨a, k, rfl, rfl, .inr ⟨l, ep, hl, hz, h⟩⟩
theorem upd_ne {ρ : Loc} {i j : Nat} {m : MV} {v : Option MV} (h : ρ j = v) (hn : j ≠ i) : upd ρ i m j = v := (if_neg hn).trans h
theorem upd_upd (ρ : Loc) (i : Nat) (m m' : MV) : upd (upd ρ i m) i m' = upd ρ i m' := by funext j; unfold upd; split <;> rfl
theorem l_addNew {u c : Addr} {x y : List MV} (hu : σ u = some (.list x)) (hc : σ c = none) (hz : x.length + y.length ≤ sizeLine) (q : ∀ d σ', σ' d = some (.list (x ++ y)) → σ d = none → Ge σ σ' → QE (.ref d) σ') : oAdd (.ref u) (.ref c) (put σ c (.list y)) QE := by
 have g := (Ge.refl σ).put hc (.list y)
 exact l_addL (g _ _ hu) (put_self ..) hz fun d hd => q d _ (put_self ..) (g.new hd) (g.put hd _)
theorem i_sset (h : V ρ σ (kSS B ρ X QS i) X) : sSeq (sSet i V) B ρ σ QS X := h
theorem i_setl (h : V ρ σ (kSet ρ QS i) X) : sSeq (sSet i V) sNil ρ σ QS X := h
theorem i_sexpr (h : V ρ σ (kSX B ρ X QS) X) : sSeq (sExpr V) B ρ σ QS X := h
theorem i_exprl (h : V ρ σ (kExpr ρ QS) X) : sSeq (sExpr V) sNil ρ σ QS X := h
theorem i_sret (h : V ρ σ (kRet ρ QS) X) : sSeq (sRet V) B ρ σ QS X := h
theorem i_sif {C : PS} (h : T ρ σ (kIf P R ρ X (kSeq C X QS)) X) : sSeq (sIf T P R) C ρ σ QS X := h
theorem i_binVV {f : MOp2} {j : Nat} {x y : MV} (hx : ρ i = some x) (hy : ρ j = some y) (h : f x y σ QE) : pBin f (pV i) (pV j) ρ σ QE X := ⟨x, hx, y, hy, h⟩
theorem i_binVK {f : MOp2} {m y : MV} (hx : ρ i = some m) (h : f m y σ QE) : pBin f (pV i) (pK y) ρ σ QE X := ⟨m, hx, h⟩
theorem i_binV {f : MOp2} {m : MV} (hx : ρ i = some m) (h : O ρ σ (kBin2 QE f m) X) : pBin f (pV i) O ρ σ QE X := ⟨m, hx, h⟩
theorem i_cmpVV {f : MV → MV → Sto → (Bool → Prop) → Prop} {j : Nat} {x y : MV} (hx : ρ i = some x) (hy : ρ j = some y) (h : f x y σ (kBv σ QE)) : pCmp f (pV i) (pV j) ρ σ QE X := ⟨x, hx, y, hy, h⟩
theorem i_cmpBVV {f : MV → MV → Sto → (Bool → Prop) → Prop} {j : Nat} {x y : MV} (hx : ρ i = some x) (hy : ρ j = some y) (h : f x y σ (kBl σ QB)) : pCmpB f (pV i) (pV j) ρ σ QB X := ⟨x, hx, y, hy, h⟩
theorem i_cmpBVK {f : MV → MV → Sto → (Bool → Prop) → Prop} {m y : MV} (hx : ρ i = some m) (h : f m y σ (kBl σ QB)) : pCmpB f (pV i) (pK y) ρ σ QB X := ⟨m, hx, h⟩
theorem i_itmVV {j : Nat} {x y : MV} (hx : ρ i = some x) (hy : ρ j = some y) (h : Item x y σ (kAt σ QE)) : pItem (pV i) (pV j) ρ σ QE X := ⟨x, hx, y, hy, h⟩
theorem i_itmVK {m y : MV} (hx : ρ i = some m) (h : Item m y σ (kAt σ QE)) : pItem (pV i) (pK y) ρ σ QE X := ⟨m, hx, h⟩
theorem i_truV {m : MV} (hx : ρ i = some m) (h : Truth m σ (kBl σ QB)) : pTruth (pV i) ρ σ QB X := ⟨m, hx, h⟩
theorem i_con1V {m : MV} (hx : ρ i = some m) (h : QA [m] σ) : pCons (pV i) pNil ρ σ QA X := ⟨m, hx, h⟩
theorem i_conV {m : MV} (hx : ρ i = some m) (h : U ρ σ (kCon2 QA m) X) : pCons (pV i) U ρ σ QA X := ⟨m, hx, h⟩
theorem i_conK {x : MV} (h : U ρ σ (kCon2 QA x) X) : pCons (pK x) U ρ σ QA X := h
theorem i_calBV {f : MFun} {m : MV} (hx : ρ i = some m) (h : f [m] σ QE) : pCallB f (pCons (pV i) pNil) ρ σ QE X := ⟨m, hx, h⟩
theorem i_methV {t : String} {f : MMeth} {m : MV} (hx : ρ i = some m) (h : kMeth1 U ρ X QE t f m σ) : pMeth t f (pV i) U ρ σ QE X := ⟨m, hx, h⟩
theorem i_tryN (h : A ρ σ QS fun σ' => ∀ ρ', QS (.ret .none) ρ' σ') : sTryN A ρ σ QS X := h
end
end Mine
end
local macro_rules | `(tactic| walk_at "l") => `(tactic| (first | exact rfl | assumption | exact Mine.put_self ..))
local macro_rules | `(tactic| walk_at "z") => `(tactic| (first | decide | walk_at "s" | lia | (simp only [Mine.szL]; lia) | (simp [Mine.szL]; done) | (simp [Mine.szL]; lia) | (simp [Mine.szL]; omega)))
local macro_rules | `(tactic| walk_at "d") => `(tactic| (first | rfl | (simp; done) | (simp; walk_at "s") | (simp; lia) | (simp; omega)))
local macro_rules | `(tactic| walk_at "o") => `(tactic| (first | rfl | lia | (push_cast; omega) | omega))
local macro_rules | `(tactic| walk_at "f") => `(tactic| intro i hi; simp at hi; (first | (rcases hi with rfl | rfl <;> first | rfl | assumption) | (subst hi; first | rfl | assumption)))
local macro_rules | `(tactic| walk_at "e") => `(tactic| repeat walk_at "e1")
section
namespace Mine
noncomputable abbrev Pr := Int × Int
def plt (p q : Pr) : Prop := p.1 < q.1 ∨ (p.1 = q.1 ∧ p.2 < q.2)
def ple (p q : Pr) : Prop := ¬ plt q p
theorem ple_refl (p : Pr) : ple p p := by unfold ple plt; lia
theorem ple_trans {p q r : Pr} (a : ple p q) (b : ple q r) : ple p r := by unfold ple plt at *; omega
theorem plt_le {p q : Pr} (a : plt p q) : ple p q := by unfold ple plt at *; omega
theorem ple_antisymm {p q : Pr} (a : ple p q) (b : ple q p) : p = q := by
 obtain ⟨a1, a2⟩ := p; obtain ⟨b1, b2⟩ := q
 unfold ple plt at *; simp only at *
 have : a1 = b1 ∧ a2 = b2 := by omega
 rw [this.1, this.2]
noncomputable abbrev at' (l : List Pr) (i : Nat) : Pr := l.getD i (0, 0)
noncomputable def par (i : Nat) : Nat := (i - 1) / 2
def IsHeap (l : List Pr) : Prop := ∀ i, 0 < i → i < l.length → ple (at' l (par i)) (at' l i)
def InvD (l : List Pr) (pos : Nat) : Prop := (∀ i, 0 < i → i < l.length → i ≠ pos → ple (at' l (par i)) (at' l i)) ∧ ∀ i, 0 < i → i < l.length → par i = pos → 0 < pos → ple (at' l (par pos)) (at' l i)
def InvU (l : List Pr) (pos : Nat) : Prop := (∀ i, 0 < i → i < l.length → i ≠ pos → par i ≠ pos → ple (at' l (par i)) (at' l i)) ∧ ∀ i, 0 < i → i < l.length → par i = pos → 0 < pos → ple (at' l (par pos)) (at' l i)
theorem par_lt {i : Nat} (h : 0 < i) : par i < i := by unfold par; omega
set_option tactic.hygienic true
theorem at_set (l : List Pr) (i j : Nat) (v : Pr) (h : i < l.length) : at' (l.set i v) j = if i = j then v else at' l j := by
 simp only [at', List.getD_eq_getElem?_getD, List.getElem?_set]
 split
 ·rename_i e; subst e; simp [h]
 ·rfl
set_option tactic.hygienic false
set_option tactic.hygienic true
theorem at_self (l : List Pr) (i : Nat) : l.set i (at' l i) = l := by
 apply List.ext_getElem?
 intro k
 rw [List.getElem?_set]
 split
 ·rename_i e; subst e
  split
  ·rename_i h; simp [List.getD_eq_getElem?_getD, List.getElem?_eq_getElem h]
  ·rename_i h; exact (List.getElem?_eq_none (by omega)).symm
 ·rfl
set_option tactic.hygienic false
theorem sd_step {L : List Pr} {new : Pr} {pos : Nat} (hp : pos < L.length) (h0 : 0 < pos) (hlt : plt new (at' L (par pos))) (h : InvD (L.set pos new) pos) :
  InvD ((L.set pos (at' L (par pos))).set (par pos) new) (par pos) ∧ ((L.set pos (at' L (par pos))).set (par pos) new).Perm (L.set pos new) := by
 have hq : par pos < pos := par_lt h0
 obtain ⟨ha, hb⟩ := h
 have e1 : ∀ j, at' (L.set pos new) j = if pos = j then new else at' L j := fun j => at_set _ _ _ _ hp
 have e2 : ∀ j, at' ((L.set pos (at' L (par pos))).set (par pos) new) j = if par pos = j then new else if pos = j then at' L (par pos) else at' L j := fun j => by
  rw [at_set _ _ _ _ (by simp; walk_at "q"), at_set _ _ _ _ hp]
 simp only [List.length_set] at ha hb
 refine ⟨⟨fun i hi hl hne => ?_, fun i hi hl hpi hpp => ?_⟩, ?_⟩
 ·simp only [List.length_set] at hl
  have hpl := par_lt hi
  rw [e2, e2]
  by_cases hip : i = pos
  ·subst hip
   rw [if_pos rfl, if_neg (by walk_at "q"), if_pos rfl]; exact plt_le hlt
  ·have h1 := ha i hi hl hip
   rw [e1, e1] at h1
   rw [if_neg (by omega : ¬ pos = i)] at h1
   rw [if_neg (Ne.symm hne), if_neg (by omega : ¬ pos = i)]
   by_cases hpi : par i = par pos
   ·rw [if_pos hpi.symm]
    rw [if_neg (by lia)] at h1
    rw [hpi] at h1
    exact ple_trans (plt_le hlt) h1
   ·rw [if_neg (Ne.symm hpi)]
    by_cases hpi2 : par i = pos
    ·rw [if_pos hpi2.symm]
     have h2 := hb i hi hl hpi2 h0
     rw [e1, e1, if_neg (by walk_at "q"), if_neg (by lia : ¬ pos = i)] at h2
     exact h2
    ·rw [if_neg (Ne.symm hpi2)]; rw [if_neg (Ne.symm hpi2)] at h1; exact h1
 ·simp only [List.length_set] at hl
  have hpp' := par_lt hpp
  rw [e2, e2]
  have hpl := par_lt hi
  have h3 := ha (par pos) hpp (by walk_at "q") (by walk_at "q")
  rw [e1, e1, if_neg (by (subst_vars; lia)), if_neg (by walk_at "q")] at h3
  rw [if_neg (by walk_at "q"), if_neg (by lia), if_neg (by grind)]
  by_cases hip : i = pos
  ·subst hip; rw [if_pos rfl]; exact h3
  ·rw [if_neg (by omega)]
   have h1 := ha i hi hl hip
   rw [e1, e1, if_neg (by lia), if_neg (by omega), hpi] at h1
   exact ple_trans h3 h1
 ·have hl1 : pos < (L.set pos new).length := by simp; omega
  have hl2 : par pos < (L.set pos new).length := by simp; walk_at "q"
  have := List.set_set_perm (as := L.set pos new) hl1 hl2
  have a1 : (L.set pos new)[par pos] = at' L (par pos) := by
   rw [List.getElem_set_ne (by walk_at "q")]; simp [List.getD_eq_getElem?_getD, List.getElem?_eq_getElem (show par pos < L.length by omega)]
  have a2 : (L.set pos new)[pos] = new := by simp
  rw [a1, a2, List.set_set] at this
  exact this
theorem sd_end {l : List Pr} {pos : Nat} (h : InvD l pos) (he : 0 < pos → ple (at' l (par pos)) (at' l pos)) : IsHeap l := fun i hi hl => by
 by_cases hp : i = pos
 ·subst hp; exact he hi
 ·exact h.1 i hi hl hp
theorem su_step {L : List Pr} {new : Pr} {pos c : Nat} (hp : pos < L.length) (hc : c < L.length) (hpc : par c = pos) (h0 : pos < c) (hmin : ∀ i, 0 < i → i < L.length → par i = pos → ple (at' L c) (at' L i)) (h : InvU (L.set pos new) pos) :
  InvU ((L.set pos (at' L c)).set c new) c ∧ ((L.set pos (at' L c)).set c new).Perm (L.set pos new) := by
 obtain ⟨ha, hb⟩ := h
 have e1 : ∀ j, at' (L.set pos new) j = if pos = j then new else at' L j := fun j => at_set _ _ _ _ hp
 have e2 : ∀ j, at' ((L.set pos (at' L c)).set c new) j = if c = j then new else if pos = j then at' L c else at' L j := fun j => by
  rw [at_set _ _ _ _ (by simp; omega), at_set _ _ _ _ hp]
 simp only [List.length_set] at ha hb
 refine ⟨⟨fun i hi hl hne hpi => ?_, fun i hi hl hpi hcc => ?_⟩, ?_⟩
 ·simp only [List.length_set] at hl
  have hpl := par_lt hi
  rw [e2, e2, if_neg (Ne.symm hpi), if_neg (Ne.symm hne)]
  by_cases hip : i = pos
  ·subst hip
   rw [if_neg (by omega), if_pos rfl]
   have h2 := hb c (by omega) hc hpc hi
   rw [e1, e1, if_neg (by omega), if_neg (by omega)] at h2
   exact h2
  ·rw [if_neg (Ne.symm hip)]
   by_cases hpi2 : par i = pos
   ·rw [if_pos hpi2.symm]; exact hmin i hi hl hpi2
   ·rw [if_neg (Ne.symm hpi2)]
    have h1 := ha i hi hl hip hpi2
    rw [e1, e1, if_neg (Ne.symm hpi2), if_neg (Ne.symm hip)] at h1
    exact h1
 ·simp only [List.length_set] at hl
  have hpl := par_lt hi
  rw [e2, e2, hpc, if_neg (by omega), if_pos rfl, if_neg (by omega), if_neg (by omega)]
  have h1 := ha i hi hl (by omega) (by omega)
  rw [e1, e1, hpi, if_neg (by omega), if_neg (by omega)] at h1
  exact h1
 ·have hl1 : pos < (L.set pos new).length := by simp; omega
  have hl2 : c < (L.set pos new).length := by simp; omega
  have := List.set_set_perm (as := L.set pos new) hl1 hl2
  have a1 : (L.set pos new)[c] = at' L c := by
   rw [List.getElem_set_ne (by omega)]; simp [List.getD_eq_getElem?_getD, List.getElem?_eq_getElem hc]
  have a2 : (L.set pos new)[pos] = new := by simp
  rw [a1, a2, List.set_set] at this
  exact this
theorem su_end {l : List Pr} {pos : Nat} (h : InvU l pos) (hn : l.length ≤ 2 * pos + 1) : InvD l pos :=
 ⟨fun i hi hl hne => h.1 i hi hl hne (fun z => by unfold par at z; omega), h.2⟩
theorem heap_invU {l : List Pr} {v : Pr} (h : IsHeap l) (hl : 0 < l.length) : InvU (l.set 0 v) 0 :=
 ⟨fun i hi hli hne hp => by
  simp only [List.length_set] at hli
  rw [at_set _ _ _ _ hl, at_set _ _ _ _ hl, if_neg (Ne.symm hp), if_neg (by omega)]
  exact h i hi hli, fun i _ _ _ h0 => absurd h0 (Nat.lt_irrefl _)⟩
theorem heap_top {l : List Pr} (h : IsHeap l) : ∀ i, i < l.length → ple (at' l 0) (at' l i) := by
 intro i
 induction i using Nat.strongRecOn with
 | ind i ih =>
  intro hi
  rcases Nat.eq_zero_or_pos i with rfl | h0
  ·exact ple_refl _
  ·exact ple_trans (ih (par i) (par_lt h0) (by have := par_lt h0; omega)) (h i h0 hi)
theorem heap_push {l : List Pr} {p : Pr} (h : IsHeap l) : InvD (l ++ [p]) l.length := by
 have e : ∀ i, i < l.length → at' (l ++ [p]) i = at' l i := fun i hi => by simp [List.getD_eq_getElem?_getD, List.getElem?_append_left hi]
 refine ⟨fun i hi hl hne => ?_, fun i hi hl hp h0 => ?_⟩
 ·simp at hl
  have hil : i < l.length := by omega
  have := par_lt hi
  rw [e _ hil, e _ (by omega)]; exact h i hi hil
 ·simp at hl; have := par_lt hi; omega
theorem heap_init {l : List Pr} {p : Pr} (h : IsHeap (l ++ [p])) : IsHeap l := by
 have e : ∀ i, i < l.length → at' (l ++ [p]) i = at' l i := fun i hi => by simp [List.getD_eq_getElem?_getD, List.getElem?_append_left hi]
 intro i hi hl
 have := h i hi (by simp; omega)
 have hp := par_lt hi
 rwa [e _ hl, e _ (by omega)] at this
end Mine
end
section
namespace Mine
open PySem PySem.Calls PyProof.Rows PySem.W PySem.SeqAt PySem.MeetsSeq PySem.Builtin PySem.Builtin.Str
noncomputable def hpMV (p : Pr) : MV := .tup [.int p.1, .int p.2]
noncomputable abbrev hl (l : List Pr) : MO := .list (l.map hpMV)
def S_sd : FS := fun ms σ Q X => ∃ h l pos, ms = [.ref h, .int 0, .int (pos : Nat)] ∧ σ h = some (hl l) ∧ l.length ≤ 100 ∧ pos < l.length ∧ InvD l pos ∧ ∀ l', l'.Perm l → IsHeap l' → Q .none (put σ h (hl l'))
def S_su : FS := fun ms σ Q X => ∃ h l, ms = [.ref h, .int 0] ∧ σ h = some (hl l) ∧ l.length ≤ 100 ∧ 0 < l.length ∧ InvU l 0 ∧ ∀ l', l'.Perm l → IsHeap l' → Q .none (put σ h (hl l'))
def S_push : FS := fun ms σ Q X => ∃ h l p, ms = [.ref h, hpMV p] ∧ σ h = some (hl l) ∧ l.length ≤ 90 ∧ IsHeap l ∧ ∀ l', l'.Perm (p :: l) → IsHeap l' → Q .none (put σ h (hl l'))
def S_pop : FS := fun ms σ Q X => ∃ h l, ms = [.ref h] ∧ σ h = some (hl l) ∧ l.length ≤ 100 ∧ IsHeap l ∧ (l = [] → X σ) ∧ ∀ m l', (m :: l').Perm l → IsHeap l' → (∀ x ∈ l, ple m x) → Q (hpMV m) (put σ h (hl l'))
set_option tactic.hygienic true
theorem put_id {σ : Sto} {h : Addr} {mo : MO} (e : σ h = some mo) : put σ h mo = σ := by
 funext x
 unfold put
 split
 ·rename_i z; rw [z]; exact e.symm
 ·rfl
set_option tactic.hygienic false
theorem l_shr {i : Int} {σ : Sto} {QE : MV → Sto → Prop} (hi : 0 ≤ i) (h : QE (.int (i / 2)) σ) : oShr (.int i) (.int 1) σ QE := ⟨i, 1, rfl, rfl, hi, rfl, h⟩
theorem l_ltT {p q : Pr} {σ : Sto} {QR : Bool → Prop} (b : Bool) (hb : b = true ↔ plt p q) (h : QR b) : cLt (hpMV p) (hpMV q) σ QR := by
 refine .inr ⟨p.1, p.2, q.1, q.2, rfl, rfl, ?_⟩
 have : decide (p.1 < q.1 ∨ (p.1 = q.1 ∧ p.2 < q.2)) = b := by rw [Bool.eq_iff_iff, decide_eq_true_eq, hb]; rfl
 rw [this]; exact h
theorem hl_at {l : List Pr} {i : Nat} (h : i < l.length) : (l.map hpMV)[i]? = some (hpMV (at' l i)) := by
 rw [List.getElem?_map, List.getElem?_eq_getElem h]; simp [List.getD_eq_getElem?_getD, List.getElem?_eq_getElem h]
theorem hl_set (l : List Pr) (i : Nat) (v : Pr) : (l.map hpMV).set i (hpMV v) = (l.set i v).map hpMV := by rw [List.map_set]
noncomputable def nm_push : List Str := ["heap", "item"]
def P_push : PS := sSeq (sExpr (pMeth "list" mAppend (pV 0) (pCons (pV 1) (pNil)))) (sSeq (sExpr (pCallS S_sd (pCons (pV 0) (pCons (pK (.int 0)) (pCons (pBin oSub (pCallB fLen (pCons (pV 0) (pNil))) (pK (.int 1))) (pNil)))))) (sNil))
noncomputable def nm_pop : List Str := ["heap", "lastelt", "returnitem"]
def P_pop : PS := sSeq (sSet 1 (pMeth0 "list" mPop (pV 0))) (sSeq (sIf (pTruth (pV 0)) (sSeq (sSet 2 (pItem (pV 0) (pK (.int 0)))) (sSeq (sSetI (pV 1) (pV 0) (pK (.int 0))) (sSeq (sExpr (pCallS S_su (pCons (pV 0) (pCons (pK (.int 0)) (pNil))))) (sSeq (sRet (pV 2)) (sNil))))) (sNil)) (sSeq (sRet (pV 1)) (sNil)))
noncomputable def nm_sd : List Str := ["heap", "startpos", "pos", "newitem", "parentpos", "parent"]
def P_sd : PS := sSeq (sSet 3 (pItem (pV 0) (pV 2))) (sSeq (sWhile (pCmpB cGt (pV 2) (pV 1)) (sSeq (sSet 4 (pBin oShr (pBin oSub (pV 2) (pK (.int 1))) (pK (.int 1)))) (sSeq (sSet 5 (pItem (pV 0) (pV 4))) (sSeq (sIf (pCmpB cLt (pV 3) (pV 5)) (sSeq (sSetI (pV 5) (pV 0) (pV 2)) (sSeq (sSet 2 (pV 4)) (sSeq (sCont) (sNil)))) (sNil)) (sSeq (sBrk) (sNil)))))) (sSeq (sSetI (pV 3) (pV 0) (pV 2)) (sNil)))
noncomputable def nm_su : List Str := ["heap", "pos", "endpos", "startpos", "newitem", "childpos", "rightpos"]
def P_su : PS := sSeq (sSet 2 (pCallB fLen (pCons (pV 0) (pNil)))) (sSeq (sSet 3 (pV 1)) (sSeq (sSet 4 (pItem (pV 0) (pV 1))) (sSeq (sSet 5 (pBin oAdd (pBin oMul (pK (.int 2)) (pV 1)) (pK (.int 1)))) (sSeq (sWhile (pCmpB cLt (pV 5) (pV 2)) (sSeq (sSet 6 (pBin oAdd (pV 5) (pK (.int 1)))) (sSeq (sIf (pAndB (pCmpB cLt (pV 6) (pV 2)) (pAndB (pNotB (pCmpB cLt (pItem (pV 0) (pV 5)) (pItem (pV 0) (pV 6)))) (pAndNil))) (sSeq (sSet 5 (pV 6)) (sNil)) (sNil)) (sSeq (sSetI (pItem (pV 0) (pV 5)) (pV 0) (pV 1)) (sSeq (sSet 1 (pV 5)) (sSeq (sSet 5 (pBin oAdd (pBin oMul (pK (.int 2)) (pV 1)) (pK (.int 1)))) (sNil))))))) (sSeq (sSetI (pV 4) (pV 0) (pV 1)) (sSeq (sExpr (pCallS S_sd (pCons (pV 0) (pCons (pV 3) (pCons (pV 1) (pNil)))))) (sNil)))))))
structure IW1 (h : Addr) (l : List Pr) (new : Pr) (σ : Sto) (n : Nat) (ρ : Loc) (σ' : Sto) (L : List Pr) (p : Nat) : Prop where
 f0 : n = p
 f1 : ρ 0 = some (.ref h)
 f2 : ρ 1 = some (.int 0)
 f3 : ρ 2 = some (.int (p : Nat))
 f4 : ρ 3 = some (hpMV new)
 f5 : σ' = put σ h (hl L)
 f6 : p < L.length
 f7 : L.length = l.length
 f8 : InvD (L.set p new) p
 f9 : (L.set p new).Perm l
theorem sp_sd (ms : List MV) (σ : Sto) (Q : MV → Sto → Prop) (X : Sto → Prop) (h : S_sd ms σ Q X) : ms.length = 3 ∧ P_sd (args ms) σ (retQ Q) (fun _ => False) := by
 obtain ⟨h, l, pos, rfl, hh, hz, hpos, hinv, q⟩ := h
 refine ⟨rfl, ?_⟩
 delta P_sd
 walk_at "e"
 refine l_itemL pos hh rfl (hl_at hpos) ?_
 walk_at "e"
 generalize hnew : at' l pos = new
 refine i_while (fun n ρ σ' => ∃ (L : List Pr) (p : Nat), IW1 h l new σ n ρ σ' L p) (pos) ⟨l, pos, rfl, by walk_at "l", by walk_at "l", by walk_at "l", by walk_at "l", (put_id hh).symm, hpos, rfl, by rw [← hnew, at_self]; exact hinv, by rw [← hnew, at_self]⟩ ?_
 rintro n ρ σ' ⟨L, p, rfl, h0, h1, h2, h3, rfl, hpL, hLl, hiv, hperm⟩
 by_cases hn0 : n = 0
 ·subst hn0
  walk_at "e"
  refine l_setL 0 (put_self ..) rfl (by simp; omega) ?_
  walk_at "e"
  rw [put_put, hl_set]
  exact q _ hperm (sd_end hiv (fun z => absurd z (Nat.lt_irrefl _)))
 ·have hpn := par_lt (Nat.pos_of_ne_zero hn0)
  have hpd : ((n : Int) - 1) / 2 = ((par n : Nat) : Int) := by unfold par; lia
  walk_at "e"
  refine l_shr (by lia) ?_
  rw [hpd]
  walk_at "e"
  refine l_itemL (par n) (put_self ..) rfl (hl_at (by walk_at "q")) ?_
  walk_at "e"
  by_cases hlt : plt new (at' L (par n))
  ·refine l_ltT true ⟨fun _ => hlt, fun _ => rfl⟩ ?_
   walk_at "e"
   refine l_setL n (put_self ..) rfl (by simp; omega) ?_
   walk_at "e"
   obtain ⟨i1, i2⟩ := sd_step hpL (Nat.pos_of_ne_zero hn0) hlt hiv
   exact ⟨par n, hpn, L.set n (at' L (par n)), par n, rfl, by walk_at "l", by walk_at "l", by walk_at "l", by walk_at "l", by rw [put_put, hl_set], by simp; walk_at "q", by simp [hLl], i1, i2.trans hperm⟩
  ·refine l_ltT false ⟨fun z => (by cases z), fun z => absurd z hlt⟩ ?_
   walk_at "e"
   refine l_setL n (put_self ..) rfl (by simp; omega) ?_
   walk_at "e"
   rw [put_put, hl_set]
   refine q _ hperm (sd_end hiv fun h0' => ?_)
   rw [at_set _ _ _ _ hpL, at_set _ _ _ _ hpL, if_neg (by walk_at "q"), if_pos rfl]
   exact hlt
theorem sp_push (ms : List MV) (σ : Sto) (Q : MV → Sto → Prop) (X : Sto → Prop) (h : S_push ms σ Q X) : ms.length = 2 ∧ P_push (args ms) σ (retQ Q) (fun _ => False) := by
 obtain ⟨h, l, p, rfl, hh, hz, hheap, q⟩ := h
 refine ⟨rfl, ?_⟩
 delta P_push
 walk_at "e"
 refine l_append hh (by simp [szL]; lia) ?_
 walk_at "e"
 refine ⟨h, l ++ [p], l.length, by simp, by rw [put_self]; simp [hl], by simp; (subst_vars; lia), by simp, heap_push hheap, fun l' hp hh' => ?_⟩
 walk_at "e"
 rw [put_put]
 exact q l' (hp.trans (List.perm_append_comm.trans (List.Perm.refl _))) hh'
theorem sp_pop (ms : List MV) (σ : Sto) (Q : MV → Sto → Prop) (X : Sto → Prop) (h : S_pop ms σ Q X) : ms.length = 1 ∧ P_pop (args ms) σ (retQ Q) X := by
 obtain ⟨h, l, rfl, hh, hz, hheap, q0, q⟩ := h
 refine ⟨rfl, ?_⟩
 delta P_pop
 walk_at "e"
 refine ⟨h, l.map hpMV, rfl, rfl, hh, fun z => q0 (by simpa using z), fun l' m hlm => ?_⟩
 obtain ⟨l0, p, rfl, rfl, rfl⟩ : ∃ l0 p, l = l0 ++ [p] ∧ l' = l0.map hpMV ∧ m = hpMV p := by
  rcases List.eq_nil_or_concat l with rfl | ⟨l0, p, rfl⟩
  ·simp at hlm
  ·rw [List.concat_eq_append, List.map_append] at hlm
   have := List.append_inj' hlm (by simp)
   refine ⟨l0, p, by simp, this.1.symm, ?_⟩
   have h2 := this.2
   simp at h2
   exact h2.symm
 have hheap0 := heap_init hheap
 cases l0 with
 | nil =>
  walk_at "e"
  exact q p [] (by simp) (fun i hi hl => by simp at hl) (fun x hx => by simp at hx; rw [hx]; exact ple_refl _)
 | cons a r =>
  walk_at "e"
  refine l_itemL 0 (put_self ..) rfl rfl ?_
  walk_at "e"
  refine l_setL 0 (put_self ..) rfl (by simp) ?_
  walk_at "e"
  refine ⟨h, (a :: r).set 0 p, rfl, by rw [put_self]; simp [hl], by simp at hz ⊢; walk_at "q", by simp, heap_invU hheap0 (by simp), fun l' hp hh' => ?_⟩
  walk_at "e"
  rw [put_put, put_put]
  refine q a l' ?_ hh' (fun x hx => ?_)
  ·refine (List.Perm.cons a hp).trans ?_
   simp only [List.set_cons_zero]
   refine (List.Perm.swap p a r).trans ?_
   exact (List.perm_append_comm (l₁ := [p]) (l₂ := a :: r))
  ·obtain ⟨i, hi, hxi⟩ := List.mem_iff_getElem.mp hx
   have := heap_top hheap i hi
   have e1 : at' ((a :: r) ++ [p]) i = x := by simp only [at', List.getD_eq_getElem?_getD, List.getElem?_eq_getElem hi, hxi]; rfl
   rw [e1] at this
   exact this
structure IW2 (h : Addr) (l : List Pr) (new : Pr) (σ : Sto) (n : Nat) (ρ : Loc) (σ' : Sto) (L : List Pr) (p : Nat) : Prop where
 f0 : n = l.length - p
 f1 : ρ 0 = some (.ref h)
 f2 : ρ 1 = some (.int (p : Nat))
 f3 : ρ 2 = some (.int (l.length : Nat))
 f4 : ρ 3 = some (.int 0)
 f5 : ρ 4 = some (hpMV new)
 f6 : ρ 5 = some (.int (2 * (p : Nat) + 1))
 f7 : σ' = put σ h (hl L)
 f8 : p < L.length
 f9 : L.length = l.length
 f10 : InvU (L.set p new) p
 f11 : (L.set p new).Perm l
theorem sp_su (ms : List MV) (σ : Sto) (Q : MV → Sto → Prop) (X : Sto → Prop) (h : S_su ms σ Q X) : ms.length = 2 ∧ P_su (args ms) σ (retQ Q) (fun _ => False) := by
 obtain ⟨h, l, rfl, hh, hz, hpos, hinv, q⟩ := h
 refine ⟨rfl, ?_⟩
 delta P_su
 walk_at "e"
 rw [List.length_map]
 refine l_itemL 0 hh rfl (hl_at hpos) ?_
 generalize hnew : at' l 0 = new
 walk_at "e"
 refine i_while (fun n ρ σ' => ∃ (L : List Pr) (p : Nat), IW2 h l new σ n ρ σ' L p) (l.length) ⟨l, 0, rfl, by walk_at "l", by walk_at "l", by walk_at "l", by walk_at "l", by walk_at "l", by walk_at "l", (put_id hh).symm, hpos, rfl, by rw [← hnew, at_self]; exact hinv, by rw [← hnew, at_self]⟩ ?_
 rintro m ρ σ' ⟨L, n, rfl, h0, h1, h2, h3, h4, h5, rfl, hpL, hLl, hiv, hperm⟩
 by_cases hch : 2 * n + 1 < l.length
 ·have fin : ∀ c, c < L.length → par c = n → n < c → (∀ i, 0 < i → i < L.length → par i = n → ple (at' L c) (at' L i)) → ∀ ρ' : Loc, ρ' 0 = some (.ref h) → ρ' 1 = some (.int (c : Nat)) → ρ' 2 = some (.int (l.length : Nat)) → ρ' 3 = some (.int 0) → ρ' 4 = some (hpMV new) → ρ' 5 = some (.int (2 * (c : Nat) + 1)) →
   ∃ k, k < l.length - n ∧ ∃ (L' : List Pr) (p : Nat), IW2 h l new σ k ρ' (put (put σ h (hl L)) h (.list ((L.map hpMV).set n (hpMV (at' L c))))) L' p := by
   intro c hc hpc hnc hmin ρ' a0 a1 a2 a3 a4 a5
   obtain ⟨i1, i2⟩ := su_step (c := c) hpL hc hpc hnc hmin hiv
   exact ⟨l.length - c, by grind, L.set n (at' L c), c, rfl, a0, a1, a2, a3, a4, a5, by rw [put_put, hl_set], by simp; omega, by simp [hLl], i1, i2.trans hperm⟩
  by_cases hr : 2 * n + 2 < l.length
  ·walk_at "e"
   refine l_itemL (2 * n + 1) (put_self ..) (by walk_at "o") (hl_at (by (subst_vars; grind only))) ?_
   walk_at "e"
   refine l_itemL (2 * n + 2) (put_self ..) (by walk_at "o") (hl_at (by (subst_vars; lia))) ?_
   walk_at "e"
   by_cases hlt : plt (at' L (2 * n + 1)) (at' L (2 * n + 2))
   ·refine l_ltT true ⟨fun _ => hlt, fun _ => rfl⟩ ?_
    walk_at "e"
    refine l_itemL (2 * n + 1) (put_self ..) (by walk_at "o") (hl_at (by omega)) ?_
    walk_at "e"
    refine l_setL n (put_self ..) rfl (by simp; omega) ?_
    walk_at "e"
    refine fin (2 * n + 1) (by omega) (by unfold par; (subst_vars; lia)) (by grind) (fun i hi hil hpi => ?_) _ (by walk_at "l") (by first | walk_at "l" | (refine congrArg some (congrArg MV.int ?_); omega)) (by walk_at "l") (by walk_at "l") (by walk_at "l") (by first | walk_at "l" | (refine congrArg some (congrArg MV.int ?_); push_cast; omega))
    have : i = 2 * n + 1 ∨ i = 2 * n + 2 := by unfold par at hpi; (subst_vars; grind only)
    rcases this with rfl | rfl
    ·exact ple_refl _
    ·exact plt_le hlt
   ·refine l_ltT false ⟨fun z => (by cases z), fun z => absurd z hlt⟩ ?_
    walk_at "e"
    refine l_itemL (2 * n + 2) (put_self ..) (by walk_at "o") (hl_at (by omega)) ?_
    walk_at "e"
    refine l_setL n (put_self ..) rfl (by simp; omega) ?_
    walk_at "e"
    refine fin (2 * n + 2) (by omega) (by unfold par; (subst_vars; lia)) (by grind only) (fun i hi hil hpi => ?_) _ (by walk_at "l") (by first | walk_at "l" | (refine congrArg some (congrArg MV.int ?_); push_cast; omega)) (by walk_at "l") (by walk_at "l") (by walk_at "l") (by first | walk_at "l" | (refine congrArg some (congrArg MV.int ?_); push_cast; omega))
    have : i = 2 * n + 1 ∨ i = 2 * n + 2 := by unfold par at hpi; omega
    rcases this with rfl | rfl
    ·exact hlt
    ·exact ple_refl _
  ·walk_at "e"
   refine l_itemL (2 * n + 1) (put_self ..) (by walk_at "o") (hl_at (by grind only)) ?_
   walk_at "e"
   refine l_setL n (put_self ..) rfl (by simp; omega) ?_
   walk_at "e"
   refine fin (2 * n + 1) (by omega) (by unfold par; (subst_vars; lia)) (by lia) (fun i hi hil hpi => ?_) _ (by walk_at "l") (by first | walk_at "l" | (refine congrArg some (congrArg MV.int ?_); omega)) (by walk_at "l") (by walk_at "l") (by walk_at "l") (by first | walk_at "l" | (refine congrArg some (congrArg MV.int ?_); push_cast; omega))
   have : i = 2 * n + 1 := by unfold par at hpi; grind only
   subst this
   exact ple_refl _
 ·walk_at "e"
  refine l_setL n (put_self ..) rfl (by simp; omega) ?_
  walk_at "e"
  refine ⟨h, L.set n new, n, rfl, by rw [put_self, hl_set], by simp; (subst_vars; lia), by simp; omega, su_end hiv (by simp; (subst_vars; omega)), fun l' hp hh' => ?_⟩
  walk_at "e"
  rw [put_put, put_put]
  exact q l' (hp.trans hperm) hh'
end Mine
end
section
namespace Mine
noncomputable def minL : Pr → List Pr → Pr
 | a, [] => a
 | a, b :: r => if b.1 < a.1 ∨ (b.1 = a.1 ∧ b.2 < a.2) then minL b r else minL a r
set_option tactic.hygienic true
theorem minL_spec : ∀ (l : List Pr) (a : Pr), minL a l ∈ a :: l ∧ ∀ x ∈ a :: l, ple (minL a l) x
 | [], a => ⟨by simp [minL], fun x hx => by simp at hx; rw [hx]; exact ple_refl _⟩
 | b :: r, a => by
  unfold minL
  split
  ·rename_i h
   obtain ⟨h1, h2⟩ := minL_spec r b
   refine ⟨List.mem_cons_of_mem _ h1, fun x hx => ?_⟩
   rcases List.mem_cons.mp hx with rfl | hx
   ·exact ple_trans (h2 b List.mem_cons_self) (plt_le h)
   ·exact h2 x hx
  ·rename_i h
   obtain ⟨h1, h2⟩ := minL_spec r a
   refine ⟨?_, fun x hx => ?_⟩
   ·rcases List.mem_cons.mp h1 with e | h1
    ·rw [e]; exact List.mem_cons_self
    ·exact List.mem_cons_of_mem _ (List.mem_cons_of_mem _ h1)
   ·rcases List.mem_cons.mp hx with rfl | hx
    ·exact h2 _ List.mem_cons_self
    ·rcases List.mem_cons.mp hx with rfl | hx
     ·exact ple_trans (h2 a List.mem_cons_self) h
     ·exact h2 x (List.mem_cons_of_mem _ hx)
set_option tactic.hygienic false
theorem min_unique {l : List Pr} {m n : Pr} (hm : m ∈ l) (hn : n ∈ l) (h1 : ∀ x ∈ l, ple m x) (h2 : ∀ x ∈ l, ple n x) : m = n := ple_antisymm (h1 n hn) (h2 m hm)
theorem minL_perm {a b : Pr} {l k : List Pr} (h : (a :: l).Perm (b :: k)) : minL a l = minL b k := by
 obtain ⟨h1, h2⟩ := minL_spec l a
 obtain ⟨h3, h4⟩ := minL_spec k b
 exact min_unique (l := a :: l) h1 (h.mem_iff.mpr h3) h2 fun x hx => h4 x (h.mem_iff.mp hx)
noncomputable def run (c : Int → Int) : List Pr → Int → List (Int × Int) → Option (List Int)
 | _, _, [] => some []
 | pq, d, (s, k) :: r =>
  if d + s < 0 then
   match (if s < 0 ∧ 0 ≤ k then (c k, k) :: pq else pq) with
   | [] => none
   | a :: q => (run c ((a :: q).erase (minL a q)) 0 r).map ((minL a q).2 :: ·)
  else run c (if s < 0 ∧ 0 ≤ k then (c k, k) :: pq else pq) (d + s) r
theorem run_perm (c : Int → Int) : ∀ (r : List (Int × Int)) (pq pq' : List Pr) (d : Int), pq.Perm pq' → run c pq d r = run c pq' d r
 | [], _, _, _, _ => by simp [run]
 | (s, k) :: r, pq, pq', d, h => by
  have h1 : (if s < 0 ∧ 0 ≤ k then (c k, k) :: pq else pq).Perm (if s < 0 ∧ 0 ≤ k then (c k, k) :: pq' else pq') := by
   split
   ·exact h.cons _
   ·exact h
  unfold run
  generalize (if s < 0 ∧ 0 ≤ k then (c k, k) :: pq else pq) = x at *
  generalize (if s < 0 ∧ 0 ≤ k then (c k, k) :: pq' else pq') = y at *
  split
  ·cases x with
   | nil => have := h1.nil_eq; subst this; rfl
   | cons a q =>
    cases y with
    | nil => exact absurd h1.eq_nil (by simp)
    | cons b q' =>
     have hm := minL_perm h1
     simp only
     rw [hm, run_perm c r _ _ 0 (h1.erase (minL b q'))]
  ·exact run_perm c r _ _ _ h1
theorem run_pop (c : Int → Int) {l l' : List Pr} {m : Pr} (h : (m :: l').Perm l) (hmin : ∀ x ∈ l, ple m x) (r : List (Int × Int)) :
  ∃ a q, l = a :: q ∧ minL a q = m ∧ run c ((a :: q).erase m) 0 r = run c l' 0 r := by
 cases l with
 | nil => exact absurd h.eq_nil (by simp)
 | cons a q =>
  obtain ⟨h1, h2⟩ := minL_spec q a
  have e : minL a q = m := min_unique h1 (h.mem_iff.mp List.mem_cons_self) h2 hmin
  refine ⟨a, q, rfl, e, run_perm c r _ _ 0 ?_⟩
  have hm : m ∈ a :: q := h.mem_iff.mp List.mem_cons_self
  exact ((List.perm_cons_erase hm).symm.trans h.symm).cons_inv
noncomputable def flt (way : Int) (outs : List Int) (steps : List (Int × Int)) : List (Int × Int) := (steps.filter fun s => decide (s.2 ∉ outs)).map fun s => (way * s.1, s.2)
noncomputable def hiddenF (c : Int → Int) (steps : List (Int × Int)) (way : Int) (outs : List Int) : Option (List Int) := run c [] 0 (flt way outs (if way = 1 then steps else steps.reverse))
end Mine
end
section
namespace Mine
open PySem PySem.Calls PyProof.Rows PySem.W PySem.SeqAt PySem.MeetsSeq PySem.Builtin PySem.Builtin.Str
noncomputable def costOf (row : List (List Nat × Int × Int)) (k : Int) : Int := (row.getD k.toNat ([], 0, 0)).2.2
def StepsOk (row : List (List Nat × Int × Int)) (steps : List (Int × Int)) : Prop := ∀ s ∈ steps, s.2 < row.length
def S_hidden : FS := fun ms σ Q X => ∃ st r way o steps row outs, ms = [.ref st, .ref r, .int way, .ref o] ∧ (way = 1 ∨ way = -1) ∧ σ st = some (.list (steps.map stepMV)) ∧ σ r = some (.list (row.map itemMV)) ∧ σ o = some (.list (outs.map .int)) ∧ steps.length ≤ 80 ∧ StepsOk row steps ∧
 (hiddenF (costOf row) steps way outs = none → ∀ σ', Ge σ σ' → X σ') ∧ (∀ L, hiddenF (costOf row) steps way outs = some L → NewL σ (L.map .int) Q)
noncomputable def nm_hidden : List Str := ["steps", "row", "way", "out", "heap", "depth", "hidden", "step", "k"]
def P_hidden : PS := sSeq (sSwap (tCons (tV 6) (tCons (tV 5) (tCons (tV 4) (tNil)))) (pTup (pCons (pLst (pNil)) (pCons (pK (.int 0)) (pCons (pLst (pNil)) (pNil)))))) (sSeq (sForX (tTup (tCons (tV 7) (tCons (tV 8) (tNil)))) (sSeq (sIf (pCmpB (cIn true) (pV 8) (pV 3)) (sSeq (sSet 5 (pBin oAdd (pV 5) (pBin oMul (pV 2) (pV 7)))) (sSeq (sIf (pAndB (pCmpB cLt (pBin oMul (pV 2) (pV 7)) (pK (.int 0))) (pAndB (pCmpB (cInt fun i j => decide (i ≥ j)) (pV 8) (pK (.int 0))) (pAndNil))) (sSeq (sExpr (pCallS S_push (pCons (pV 4) (pCons (pTup (pCons (pItem (pItem (pV 1) (pV 8)) (pK (.int 2))) (pCons (pV 8) (pNil)))) (pNil))))) (sNil)) (sNil)) (sSeq (sIf (pCmpB cLt (pV 5) (pK (.int 0))) (sSeq (sExpr (pMeth "list" mAppend (pV 6) (pCons (pItem (pCallS S_pop (pCons (pV 4) (pNil))) (pK (.int 1))) (pNil)))) (sSeq (sSet 5 (pK (.int 0))) (sNil))) (sNil)) (sNil)))) (sNil)) (sNil)) (pRev (pV 0) (pV 2))) (sSeq (sRet (pV 6)) (sNil)))
section
variable {c : Int → Int} {way s k d : Int} {outs : List Int} {l l1 l2 : List Pr} {m : Pr} {rest : List (Int × Int)}
theorem flt_out (h : k ∈ outs) : flt way outs ((s, k) :: rest) = flt way outs rest := by unfold flt; rw [List.filter_cons_of_neg (by rw [decide_eq_true_eq]; exact fun z => z h)]
theorem flt_in (h : k ∉ outs) : flt way outs ((s, k) :: rest) = (way * s, k) :: flt way outs rest := by unfold flt; rw [List.filter_cons_of_pos (by rw [decide_eq_true_eq]; exact h)]; rfl
theorem run_lo (h : k ∉ outs) (hp : l1.Perm (if way * s < 0 ∧ 0 ≤ k then (c k, k) :: l else l)) (hd : ¬ d + way * s < 0) : run c l d (flt way outs ((s, k) :: rest)) = run c l1 (d + way * s) (flt way outs rest) := by
 rw [flt_in h, run, if_neg hd]; exact (run_perm c _ _ _ _ hp).symm
theorem run_no (h : k ∉ outs) (hp : l1.Perm (if way * s < 0 ∧ 0 ≤ k then (c k, k) :: l else l)) (hd : d + way * s < 0) (hn : l1 = []) : run c l d (flt way outs ((s, k) :: rest)) = none := by
 subst hn
 rw [flt_in h, run, if_pos hd, hp.symm.eq_nil]
theorem run_po (h : k ∉ outs) (hp : l1.Perm (if way * s < 0 ∧ 0 ≤ k then (c k, k) :: l else l)) (hd : d + way * s < 0) (hm : (m :: l2).Perm l1) (hmin : ∀ x ∈ l1, ple m x) : run c l d (flt way outs ((s, k) :: rest)) = (run c l2 0 (flt way outs rest)).map (m.2 :: ·) := by
 rw [flt_in h, run, if_pos hd]
 obtain ⟨a, q, e1, e2, e3⟩ := run_pop c (hm.trans hp) (fun x hx => hmin x (hp.mem_iff.mpr hx)) (flt way outs rest)
 rw [e1]
 simp only [e2, e3]
variable {r hp hd : Addr} {row : List Itm} {L : List Int} {ρ : Loc} {σ : Sto} {Q : MF → Loc → Sto → Prop} {X : Sto → Prop}
abbrev hdIf1 : PS := sIf (pAndB (pCmpB cLt (pBin oMul (pV 2) (pV 7)) (pK (.int 0))) (pAndB (pCmpB (cInt fun i j => decide (i ≥ j)) (pV 8) (pK (.int 0))) (pAndNil))) (sSeq (sExpr (pCallS S_push (pCons (pV 4) (pCons (pTup (pCons (pItem (pItem (pV 1) (pV 8)) (pK (.int 2))) (pCons (pV 8) (pNil)))) (pNil))))) (sNil)) (sNil)
theorem hd_push {R : PS} (hb : Builtin.Int.intBits way ≤ 64) (h1 : ρ 1 = some (.ref r)) (h2 : ρ 2 = some (.int way)) (h4 : ρ 4 = some (.ref hp)) (h7 : ρ 7 = some (.int s)) (h8 : ρ 8 = some (.int k)) (hr : σ r = some (.list (row.map itemMV))) (hk : k < row.length) (hlp : σ hp = some (hl l)) (hz : l.length ≤ 90) (hh : IsHeap l)
  (q : ∀ l1 σ', l1.Perm (if way * s < 0 ∧ 0 ≤ k then (costOf row k, k) :: l else l) → IsHeap l1 → σ' hp = some (hl l1) → Up hp σ σ' → R ρ σ' Q X) : sSeq hdIf1 R ρ σ Q X := by
 refine i_sif (i_andB (i_cmpB (i_binVV h2 h7 (l_mulU hb (i_K ?_)))))
 by_cases hc1 : way * s < 0
 ·refine l_ltI (i_t (decide_eq_true hc1) (i_andB (i_cmpBVK h8 (l_cInt ?_))))
  by_cases hc2 : 0 ≤ k
  ·rw [if_pos ⟨hc1, hc2⟩] at q
   obtain ⟨t, ht⟩ : ∃ t, row[k.toNat]? = some t := ⟨_, List.getElem?_eq_getElem (by lia)⟩
   have hcost : costOf row k = t.2.2 := by unfold costOf; rw [List.getD_eq_getElem?_getD, ht]; rfl
   walk_at "e"
   refine l_itemL k.toNat hr (Int.toNat_of_nonneg hc2).symm (m := itemMV t) (by rw [List.getElem?_map, ht]; rfl) ?_
   walk_at "e"
   refine l_itemT 2 (show 3 ≤ sizeLine by decide) rfl rfl ?_
   walk_at "e"
   refine ⟨hp, l, (costOf row k, k), by rw [hcost]; rfl, hlp, hz, hh, fun l1 p1 p2 => ?_⟩
   walk_at "e"
   exact q l1 _ p1 p2 (put_self ..) (Up.put _ _ _)
  ·rw [if_neg fun z => hc2 z.2] at q
   walk_at "e"
   exact q l σ (List.Perm.refl l) hh hlp ((Ge.refl σ).up hp)
 ·rw [if_neg fun z => hc1 z.1] at q
  walk_at "e"
  exact q l σ (List.Perm.refl l) hh hlp ((Ge.refl σ).up hp)
abbrev hdIf2 : PS := sIf (pCmpB cLt (pV 5) (pK (.int 0))) (sSeq (sExpr (pMeth "list" mAppend (pV 6) (pCons (pItem (pCallS S_pop (pCons (pV 4) (pNil))) (pK (.int 1))) (pNil)))) (sSeq (sSet 5 (pK (.int 0))) (sNil))) (sNil)
theorem hd_pop (h4 : ρ 4 = some (.ref hp)) (h5 : ρ 5 = some (.int d)) (h6 : ρ 6 = some (.ref hd)) (hne : hp ≠ hd) (hlp : σ hp = some (hl l)) (hz : l.length ≤ 100) (hh : IsHeap l) (hld : σ hd = some (.list (L.map .int))) (hL : L.length ≤ 100)
  (q0 : ¬ d < 0 → Q .next ρ σ) (qx : d < 0 → l = [] → X σ)
  (q : d < 0 → ∀ m l2 σ', (m :: l2).Perm l → IsHeap l2 → (∀ x ∈ l, ple m x) → σ' hp = some (hl l2) → σ' hd = some (.list ((L ++ [m.2]).map .int)) → (∀ a v, a ≠ hp → a ≠ hd → σ a = some v → σ' a = some v) → Q .next (upd ρ 5 (.int 0)) σ') : hdIf2 ρ σ Q X := by
 by_cases hd0 : d < 0
 ·walk_at "e"
  refine ⟨hp, l, rfl, hlp, hz, hh, qx hd0, fun m l2 p1 p2 p3 => ?_⟩
  have hld2 : put σ hp (hl l2) hd = some (.list (L.map .int)) := put_ne (Ne.symm hne) hld
  refine l_itemT (σ := put σ hp (hl l2)) 1 (show 2 ≤ sizeLine by decide) rfl rfl ?_
  walk_at "e"
  refine l_append hld2 (by rw [List.length_map, szL]; lia) ?_
  walk_at "e"
  exact q hd0 m l2 _ p1 p2 p3 (put_ne hne (put_self ..)) (by rw [put_self, List.map_append]; rfl) fun a v a1 a2 e => put_ne a2 (put_ne a1 e)
 ·walk_at "e"
  exact q0 hd0
inductive IH1 (st r o hp hd b : Addr) (way : Int) (row : List Itm) (ss : List Stp2) (outs : List Int) (F : Option (List Int)) (σ : Sto) (dn : List Stp2) (ρ : Loc) (σ' : Sto) : Prop
 | mk (l : List Pr) (d : Int) (L : List Int) (f1 : l.length ≤ dn.length) (f2 : L.length ≤ dn.length) (f4 : ρ 0 = some (.ref st)) (f5 : ρ 1 = some (.ref r)) (f6 : ρ 2 = some (.int way)) (f7 : ρ 3 = some (.ref o)) (f8 : ρ 4 = some (.ref hp)) (f9 : ρ 5 = some (.int d)) (f10 : ρ 6 = some (.ref hd))
  (f11 : σ' hp = some (hl l)) (f12 : σ' hd = some (.list (L.map .int))) (f13 : σ' b = some (.list (ss.map stepMV))) (f14 : IsHeap l) (f15 : Ge σ σ') (f16 : ∀ rest, ss = dn ++ rest → F = (run (costOf row) l d (flt way outs rest)).map (L ++ ·))
abbrev hdBody : PS := sSeq (sIf (pCmpB (cIn true) (pV 8) (pV 3)) (sSeq (sSet 5 (pBin oAdd (pV 5) (pBin oMul (pV 2) (pV 7)))) (sSeq hdIf1 (sSeq hdIf2 (sNil)))) (sNil)) (sNil)
theorem hd_turn {st o b : Addr} {ss dn : List Stp2} {F : Option (List Int)} {σ₀ : Sto} {G : Loc → Sto → Prop} {QS : MF → Loc → Sto → Prop} (hb : Builtin.Int.intBits way ≤ 64) (hne : hp ≠ hd) (hpn : σ₀ hp = none) (hdn : σ₀ hd = none) (hpb : b ≠ hp) (hdb : b ≠ hd) (hr : σ₀ r = some (.list (row.map itemMV))) (ho : σ₀ o = some (.list (outs.map .int)))
  (hk : k < row.length) (hz : dn.length < 80) (qx : F = none → ∀ σ', Ge σ₀ σ' → X σ') (hs : ∃ rs, ss = dn ++ (s, k) :: rs) (hG : ∀ ρ σ, IH1 st r o hp hd b way row ss outs F σ₀ (dn ++ [(s, k)]) ρ σ → G ρ σ) (H : IH1 st r o hp hd b way row ss outs F σ₀ dn ρ σ) :
  hdBody (upd (upd ρ 7 (.int s)) 8 (.int k)) σ (kFB (fun σ' => σ' b = some (.list (ss.map stepMV))) G QS) X := by
 obtain ⟨l, d, L, hl1, hL1, h0, h1, h2, h3, h4, h5, h6, hlp, hld, hlb, hheap, hge, hrun⟩ := H
 have hn1 : (dn ++ [(s, k)]).length = dn.length + 1 := by rw [List.length_append]; rfl
 refine i_sif (i_cmpBVV rfl h3 (l_inL (c := decide (k ∈ outs)) (hge _ _ ho) (.inl ⟨⟨_, rfl⟩, fun x hx => by obtain ⟨a, _, rfl⟩ := List.mem_map.mp hx; exact ⟨_, rfl⟩⟩) (by simp) ?_))
 have step : ∀ {rest : List Stp2}, ss = dn ++ [(s, k)] ++ rest → F = (run (costOf row) l d (flt way outs ((s, k) :: rest))).map (L ++ ·) := fun e => hrun _ (by rw [e, List.append_assoc]; rfl)
 by_cases hko : k ∈ outs
 ·rw [decide_eq_true hko]
  walk_at "e"
  exact ⟨hlb, hG _ _ ⟨l, d, L, by rw [hn1]; exact Nat.le_succ_of_le hl1, by rw [hn1]; exact Nat.le_succ_of_le hL1, h0, h1, h2, h3, h4, h5, h6, hlp, hld, hlb, hheap, hge, fun rest e => by rw [step e, flt_out hko]⟩⟩
 ·rw [decide_eq_false hko]
  refine i_t rfl (i_sset (i_binV h5 (i_binVV h2 rfl (l_mulU hb (l_addI (hd_push hb h1 h2 h4 rfl rfl (hge _ _ hr) hk hlp (by lia) hheap fun l1 σ1 p1 p2 p3 p4 => i_seq ?_))))))
  have hge1 := p4.ge hge hpn
  have hlen : l1.length ≤ l.length + 1 := by rw [p1.length_eq]; split <;> simp
  refine hd_pop h4 rfl h6 hne p3 (by lia) p2 (p4 _ _ (Ne.symm hne) hld) (by lia) (fun n0 => ?_) (fun n0 e0 => ?_) (fun n0 m l2 σ2 q1 q2 q3 q4 q5 q6 => ?_)
  ·walk_at "e"
   exact ⟨p4 _ _ hpb hlb, hG _ _ ⟨l1, _, L, by lia, by lia, h0, h1, h2, h3, h4, rfl, h6, p3, p4 _ _ (Ne.symm hne) hld, p4 _ _ hpb hlb, p2, hge1, fun rest e => by rw [step e, run_lo hko p1 n0]⟩⟩
  ·obtain ⟨rs, e⟩ := hs
   exact qx (by rw [hrun _ e, run_no hko p1 n0 e0]; rfl) _ hge1
  ·have hl2 := q1.length_eq
   rw [List.length_cons] at hl2
   have hb2 := q6 _ _ hpb hdb (p4 _ _ hpb hlb)
   walk_at "e"
   refine ⟨hb2, hG _ _ ⟨l2, 0, L ++ [m.2], by lia, by rw [List.length_append, hn1]; exact Nat.succ_le_succ hL1, h0, h1, h2, h3, h4, rfl, h6, q4, q5, hb2, q2, fun a v e => q6 a v (fun z => by rw [z, hpn] at e; cases e) (fun z => by rw [z, hdn] at e; cases e) (hge1 _ _ e), fun rest e => ?_⟩⟩
   rw [step e, run_po hko p1 n0 q1 q3, Option.map_map]
   congr 1
   funext x
   rw [List.append_assoc]; rfl
end
theorem sp_hidden (ms : List MV) (σ : Sto) (Q : MV → Sto → Prop) (X : Sto → Prop) (h : S_hidden ms σ Q X) : ms.length = 4 ∧ P_hidden (args ms) σ (retQ Q) X := by
 obtain ⟨st, r, way, o, steps, row, outs, rfl, hway, hst, hr, ho, hz, hok, qx, q⟩ := h
 refine ⟨rfl, ?_⟩
 have hbits : Builtin.Int.intBits way ≤ 64 := by rcases hway with rfl | rfl <;> decide
 delta P_hidden
 walk_at "e"
 intro hp hhp
 walk_at "e"
 intro hd hhd
 walk_at "e"
 have hne : hp ≠ hd := ne_of_none (put_self ..) hhd
 have hg1 := (Ge.refl σ).put hhp (.list [])
 have hge0 := hg1.put hhd (.list [])
 have hdn : σ hd = none := hg1.new hhd
 unfold pRev
 walk_at "e"
 refine ⟨st, steps.map stepMV, way, rfl, hge0 _ _ hst, rfl, hway, fun b hb => ?_⟩
 rw [show (if way = 1 then steps.map stepMV else (steps.map stepMV).reverse) = (if way = 1 then steps else steps.reverse).map stepMV by split <;> simp]
 have hss : ∀ s, s ∈ (if way = 1 then steps else steps.reverse) → s ∈ steps := fun s hs => by split at hs <;> first | exact hs | exact List.mem_reverse.mp hs
 have hsl : (if way = 1 then steps else steps.reverse).length ≤ 80 := by split <;> first | exact hz | (rw [List.length_reverse]; exact hz)
 unfold hiddenF at q qx
 generalize (if way = 1 then steps else steps.reverse) = ss at *
 have hp0 : put (put σ hp (.list [])) hd (.list []) hp = some (hl []) := put_ne hne (put_self ..)
 have hd0 : put (put σ hp (.list [])) hd (.list []) hd = some (.list []) := put_self ..
 have hgb := hge0.put hb (.list (ss.map stepMV))
 have hpb := ne_of_none hp0 hb
 have hdb := ne_of_none hd0 hb
 refine l_iterL (put_self ..) ?_
 refine forGoX_map stepMV ss (IH1 st r o hp hd b way row ss outs (run (costOf row) [] 0 (flt way outs ss)) σ) ?_ ?_ ⟨[], 0, [], Nat.le_refl _, Nat.le_refl _, rfl, rfl, rfl, rfl, rfl, rfl, rfl, put_ne hpb hp0, put_ne hdb hd0, put_self .., fun i _ h => (Nat.not_lt_zero _ h).elim, hgb, fun rest e => by rw [e]; exact Option.map_id'.symm⟩
 ·rintro dn ⟨s, k⟩ rs e hm ρ σ' G hG H
  exact l_tup2 (hd_turn hbits hne hhp hdn (Ne.symm hpb) (Ne.symm hdb) hr ho (hok _ (hss _ hm)) (by have := congrArg List.length e; rw [List.length_append, List.length_cons] at this; lia) qx ⟨rs, e⟩ hG H)
 ·rintro ρ σ' ⟨l, d, L, hl1, hL1, h0, h1, h2, h3, h4, h5, h6, hlp, hld, hlb, hheap, hge, hrun⟩
  walk_at "e"
  refine q L ?_ hd σ' hge hdn hld
  rw [hrun [] (List.append_nil ss).symm]
  exact congrArg some (List.append_nil L)
noncomputable def cheapF (c : Int → Int) (steps : List (Int × Int)) : Option (List Int) := (hiddenF c steps 1 []).bind fun e => (hiddenF c steps (-1) e).map (e ++ ·)
def S_cheap : FS := fun ms σ Q X => ∃ st r steps row, ms = [.ref st, .ref r] ∧ σ st = some (.list (steps.map stepMV)) ∧ σ r = some (.list (row.map itemMV)) ∧ steps.length ≤ 80 ∧ StepsOk row steps ∧
 (cheapF (costOf row) steps = none → Val σ .none Q) ∧ (∀ L, cheapF (costOf row) steps = some L → L.length ≤ 1000 → NewL σ (L.map .int) Q)
noncomputable def nm_cheap : List Str := ["steps", "row", "early"]
def P_cheap : PS := sSeq (sTryN (sSeq (sSet 2 (pCallS S_hidden (pCons (pV 0) (pCons (pV 1) (pCons (pK (.int 1)) (pCons (pLst (pNil)) (pNil))))))) (sSeq (sRet (pBin oAdd (pV 2) (pCallS S_hidden (pCons (pV 0) (pCons (pV 1) (pCons (pNeg (pK (.int 1))) (pCons (pV 2) (pNil)))))))) (sNil)))) (sNil)
theorem run_len (c : Int → Int) : ∀ (r : List (Int × Int)) (pq : List Pr) (d : Int) (L : List Int), run c pq d r = some L → L.length ≤ r.length
 | [], _, _, L, h => by simp [run] at h; subst h; simp
 | (s, k) :: r, pq, d, L, h => by
  unfold run at h
  split at h
  ·split at h
   ·cases h
   ·obtain ⟨L', h1, rfl⟩ := Option.map_eq_some_iff.mp h
    have := run_len c r _ _ _ h1; simp; omega
  ·have := run_len c r _ _ _ h; simp; walk_at "q"
theorem hidden_len {c : Int → Int} {steps : List (Int × Int)} {way : Int} {outs L : List Int} (h : hiddenF c steps way outs = some L) : L.length ≤ steps.length := by
 have h1 := run_len _ _ _ _ _ h
 have h2 : (flt way outs (if way = 1 then steps else steps.reverse)).length ≤ steps.length := by
  unfold flt; rw [List.length_map]
  refine Nat.le_trans (List.length_filter_le _ _) ?_
  split
  ·exact Nat.le_refl _
  ·rw [List.length_reverse]; exact Nat.le_refl _
 walk_at "q"
theorem sp_cheap (ms : List MV) (σ : Sto) (Q : MV → Sto → Prop) (X : Sto → Prop) (h : S_cheap ms σ Q X) : ms.length = 2 ∧ P_cheap (args ms) σ (retQ Q) (fun _ => False) := by
 obtain ⟨st, r, steps, row, rfl, hst, hr, hz, hok, q0, q⟩ := h
 refine ⟨rfl, ?_⟩
 delta P_cheap
 walk_at "e"
 intro a ha
 have hge1 := (Ge.refl σ).put ha (.list [])
 walk_at "e"
 refine ⟨st, r, 1, a, steps, row, [], rfl, .inl rfl, hge1 _ _ hst, hge1 _ _ hr, put_self .., hz, hok, fun hn σ' hg ρ' => ?_, fun L hL b σ' hg hbn hb => ?_⟩
 ·exact q0 (by unfold cheapF; rw [hn]; rfl) _ (hge1.trans hg)
 ·have hg' := hge1.trans hg
  have hl1 := hidden_len hL
  walk_at "e"
  refine ⟨st, r, -1, b, steps, row, L, rfl, .inr rfl, hg' _ _ hst, hg' _ _ hr, hb, hz, hok, fun hn σ2 hg2 ρ' => ?_, fun L2 hL2 b2 σ2 hg2 hb2n hb2 => ?_⟩
  ·exact q0 (by unfold cheapF; rw [hL]; simp [hn]) _ (hg'.trans hg2)
  ·have hl2 := hidden_len hL2
   refine l_addL (hg2 _ _ hb) hb2 (by simp [szL]; grind) fun c hc => ?_
   refine q (L ++ L2) (by unfold cheapF; rw [hL]; simp [hL2]) (by simp; lia) c _ ((hg'.trans hg2).put hc _) ((hg'.trans hg2).new hc) ?_
   rw [put_self]; simp
end Mine
end
section
namespace Mine
noncomputable abbrev Tbl := List (Int × Int)
noncomputable def setT (T : Tbl) (k v : Int) : Tbl := if T.any (fun kv => kv.1 = k) then T.map (fun kv => if kv.1 = k then (kv.1, v) else kv) else T ++ [(k, v)]
noncomputable def insT (T : Tbl) (e : Int × Int) : Tbl := if 0 ≤ e.1 ∧ e.2 ≤ (T.lookup e.1).getD e.2 then setT T e.1 e.2 else T
noncomputable def waysT (c : Int → Int) (T : Tbl) (s : Int × Int) : Tbl := T.map (fun e => (e.1 + s.1, e.2)) ++ (if 0 ≤ s.2 then T.map (fun e => (e.1, e.2 + c s.2)) else [])
noncomputable def stepT (c : Int → Int) (T : Tbl) (s : Int × Int) : Tbl := (waysT c T s).foldl insT []
noncomputable def leastT (c : Int → Int) (steps : List (Int × Int)) : Tbl := steps.foldl (stepT c) [(0, 0)]
theorem setT_keys (T : Tbl) (k v : Int) : (setT T k v).map (·.1) = if k ∈ T.map (·.1) then T.map (·.1) else T.map (·.1) ++ [k] := by
 unfold setT
 have e : T.any (fun kv => decide (kv.1 = k)) = decide (k ∈ T.map (·.1)) := by
  rw [Bool.eq_iff_iff]; simp
 rw [e]
 by_cases h : k ∈ T.map (·.1)
 ·rw [if_pos h, if_pos (by simpa using h), List.map_map]
  refine List.map_congr_left fun a _ => ?_
  simp only [Function.comp]
  split <;> rfl
 ·rw [if_neg h, if_neg (by simpa using h)]; simp
set_option tactic.hygienic true
theorem setT_lookup (k v d : Int) : ∀ (T : Tbl), (setT T k v).lookup d = if d = k then some v else T.lookup d := by
 intro T
 unfold setT
 split
 ·rename_i h
  induction T with
  | nil => simp at h
  | cons a T ih =>
   obtain ⟨a1, a2⟩ := a
   by_cases ha : a1 = k
   ·subst ha
    by_cases hd : d = a1
    ·subst hd; simp
    ·have hb : (d == a1) = false := by simpa using hd
     rw [if_neg hd]
     simp only [List.map_cons, if_true, List.lookup_cons, hb]
     by_cases ht : T.any (fun kv => decide (kv.1 = a1)) = true
     ·rw [ih ht, if_neg hd]
     ·have : T.map (fun kv => if kv.1 = a1 then (kv.1, v) else kv) = T := by
       conv => rhs; rw [← List.map_id T]
       refine List.map_congr_left fun x hx => ?_
       rw [if_neg (fun z => ht (List.any_eq_true.mpr ⟨x, hx, by simpa using z⟩))]; rfl
      rw [this]
   ·have ht : T.any (fun kv => decide (kv.1 = k)) = true := by simpa [ha] using h
    simp only [List.map_cons, if_neg ha, List.lookup_cons]
    rw [ih ht]
    by_cases hd : d = a1
    ·subst hd; simp [ha]
    ·have hb : (d == a1) = false := by simpa using hd
     rw [hb]
 ·rename_i h
  induction T with
  | nil =>
   by_cases hd : d = k
   ·subst hd; simp
   ·have hb : (d == k) = false := by simpa using hd
    simp [List.lookup, hb, hd]
  | cons a T ih =>
   obtain ⟨a1, a2⟩ := a
   simp only [List.any_cons, Bool.or_eq_true, decide_eq_true_eq, not_or] at h
   have ih' := ih h.2
   rw [List.cons_append, List.lookup_cons, List.lookup_cons, ih']
   by_cases hd : d = a1
   ·subst hd; simp [h.1]
   ·have hb : (d == a1) = false := by simpa using hd
    rw [hb]
set_option tactic.hygienic false
def KeysIn (T : Tbl) (n : Nat) : Prop := (T.map (·.1)).Nodup ∧ ∀ e ∈ T, 0 ≤ e.1 ∧ e.1 ≤ n
theorem nodup_len : ∀ (n : Nat) (l : List Int), l.Nodup → (∀ x ∈ l, 0 ≤ x ∧ x < n) → l.length ≤ n
 | 0, l, _, h => by
  cases l with
  | nil => simp
  | cons a r => have := h a List.mem_cons_self; omega
 | n + 1, l, hn, h => by
  have h1 := nodup_len n (l.erase (n : Int)) (hn.erase _) (fun x hx => by
   have hm := (List.Nodup.mem_erase_iff hn).mp hx
   have := h x hm.2
   have := hm.1
   omega)
  have h2 : l.length ≤ (l.erase (n : Int)).length + 1 := by
   rw [List.length_erase]; split <;> omega
  omega
theorem KeysIn.len {T : Tbl} {n : Nat} (h : KeysIn T n) : T.length ≤ n + 1 := by
 have := nodup_len (n + 1) (T.map (·.1)) h.1 (fun x hx => by
  obtain ⟨e, he, rfl⟩ := List.mem_map.mp hx
  have := h.2 e he
  (subst_vars; omega))
 simpa using this
set_option tactic.hygienic true
theorem insT_keys {T : Tbl} {n : Nat} {e : Int × Int} (h : KeysIn T n) (he : e.1 ≤ n) : KeysIn (insT T e) n := by
 unfold insT
 split
 ·rename_i hc
  constructor
  ·rw [setT_keys]
   split
   ·exact h.1
   ·rename_i hk
    exact List.nodup_append.mpr ⟨h.1, by simp, fun a ha b hb => by simp at hb; subst hb; intro z; subst z; exact hk ha⟩
  ·intro x hx
   have hx1 : x.1 ∈ (setT T e.1 e.2).map (·.1) := List.mem_map.mpr ⟨x, hx, rfl⟩
   rw [setT_keys] at hx1
   have : x.1 ∈ T.map (·.1) ∨ x.1 = e.1 := by
    split at hx1
    ·exact .inl hx1
    ·rcases List.mem_append.mp hx1 with h | h
     ·exact .inl h
     ·simp at h; exact .inr h
   rcases this with hm | hm
   ·obtain ⟨y, hy, hyx⟩ := List.mem_map.mp hm
    rw [← hyx]; exact h.2 y hy
   ·rw [hm]; exact ⟨hc.1, he⟩
 ·exact h
set_option tactic.hygienic false
theorem fold_keys {n : Nat} : ∀ (W : Tbl) (T : Tbl), KeysIn T n → (∀ e ∈ W, e.1 ≤ n) → KeysIn (W.foldl insT T) n
 | [], T, h, _ => h
 | e :: W, T, h, hw => fold_keys W _ (insT_keys h (hw e List.mem_cons_self)) fun x hx => hw x (List.mem_cons_of_mem _ hx)
theorem ways_keys {c : Int → Int} {T : Tbl} {n : Nat} {s : Int × Int} (h : KeysIn T n) (hs : s.1 ≤ 1) : ∀ e ∈ waysT c T s, e.1 ≤ (n + 1 : Nat) := by
 intro e he
 unfold waysT at he
 rcases List.mem_append.mp he with he | he
 ·obtain ⟨x, hx, rfl⟩ := List.mem_map.mp he
  have := h.2 x hx; simp; omega
 ·split at he
  ·obtain ⟨x, hx, rfl⟩ := List.mem_map.mp he
   have := h.2 x hx; simp; omega
  ·cases he
theorem stepT_keys {c : Int → Int} {T : Tbl} {n : Nat} {s : Int × Int} (h : KeysIn T n) (hs : s.1 ≤ 1) : KeysIn (stepT c T s) (n + 1) :=
 fold_keys _ _ ⟨by simp, fun e he => by cases he⟩ (ways_keys h hs)
theorem lookup_mem : ∀ {T : Tbl} {e : Int × Int}, (T.map (·.1)).Nodup → e ∈ T → T.lookup e.1 = some e.2
 | [], _, _, h => by cases h
 | a :: T, e, hn, h => by
  rw [List.map_cons, List.nodup_cons] at hn
  obtain ⟨a1, a2⟩ := a
  rcases List.mem_cons.mp h with rfl | h
  ·simp
  ·have hne : e.1 ≠ a1 := fun z => hn.1 (by rw [← z]; exact List.mem_map.mpr ⟨e, h, rfl⟩)
   have hb : (e.1 == a1) = false := by simpa using hne
   rw [List.lookup_cons, hb]; exact lookup_mem hn.2 h
end Mine
end
section
namespace Mine
open PySem PySem.Calls PyProof.Rows PySem.W PySem.SeqAt PySem.MeetsSeq PySem.Builtin PySem.Builtin.Str
noncomputable def tm (T : Tbl) : List (Int × MV) := T.map fun e => (e.1, MV.int e.2)
def S_least : FS := fun ms σ Q X => ∃ st r steps row, ms = [.ref st, .ref r] ∧ σ st = some (.list (steps.map stepMV)) ∧ σ r = some (.list (row.map itemMV)) ∧ steps.length ≤ 80 ∧ StepsOk row steps ∧ (∀ s ∈ steps, s.1 ≤ 1) ∧
 Val σ (match (leastT (costOf row) steps).lookup 0 with | none => .none | some v => .int v) Q
noncomputable def nm_least : List Str := ["steps", "row", "table", "step", "k", "ways", "depth", "cost"]
def P_least : PS := sSeq (sSet 2 (pDict1b)) (sSeq (sFor (tTup (tCons (tV 3) (tCons (tV 4) (tNil)))) (sSeq (sSet 5 (pComp [8] (tV 8) (pAndNil) (pTup (pCons (pBin oAdd (pV 8) (pV 3)) (pCons (pItem (pV 2) (pV 8)) (pNil)))) (pV 2))) (sSeq (sIf (pCmpB (cInt fun i j => decide (i ≥ j)) (pV 4) (pK (.int 0))) (sSeq (sSet 5 (pBin oAdd (pV 5) (pComp [8] (tV 8) (pAndNil) (pTup (pCons (pV 8) (pCons (pBin oAdd (pItem (pV 2) (pV 8)) (pItem (pItem (pV 1) (pV 4)) (pK (.int 2)))) (pNil)))) (pV 2)))) (sNil)) (sNil)) (sSeq (sSet 2 (pDict0b)) (sSeq (sFor (tTup (tCons (tV 6) (tCons (tV 7) (tNil)))) (sSeq (sIf (pAndB (pCmpB (cInt fun i j => decide (i ≥ j)) (pV 6) (pK (.int 0))) (pAndB (pCmpB (cInt fun i j => decide (i ≤ j)) (pV 7) (pMeth "dict" mGet (pV 2) (pCons (pV 6) (pCons (pV 7) (pNil))))) (pAndNil))) (sSeq (sSetI (pV 7) (pV 2) (pV 6)) (sNil)) (sNil)) (sNil)) (pV 5)) (sNil))))) (pV 0)) (sSeq (sRet (pMeth "dict" mGet (pV 2) (pCons (pK (.int 0)) (pNil)))) (sNil)))
theorem tm_set (T : Tbl) (k v : Int) : storedM (tm T) k (.int v) = tm (setT T k v) := by
 unfold storedM setT tm
 have e : (T.map fun e => (e.1, MV.int e.2)).any (fun kv => decide (kv.1 = k)) = T.any (fun kv => decide (kv.1 = k)) := by simp [List.any_map, Function.comp_def]
 rw [e]
 split
 ·rw [List.map_map, List.map_map]
  refine List.map_congr_left fun a _ => ?_
  simp only [Function.comp]
  split <;> rfl
 ·simp
theorem tm_lookup (k : Int) : ∀ (T : Tbl), (tm T).lookup k = (T.lookup k).map MV.int
 | [] => rfl
 | a :: T => by
  obtain ⟨a1, a2⟩ := a
  have ih := tm_lookup k T
  unfold tm at ih ⊢
  rw [List.map_cons, List.lookup_cons, List.lookup_cons]
  cases (k == a1) with
  | true => rfl
  | false => exact ih
theorem l_kindD {σ : Sto} {a : Addr} {l : List (Int × MV)} {ep : Nat} {p : Prop} (hl : σ a = some (.dict l ep)) (h : p) : KindOf "dict" (.ref a) σ ∧ p := ⟨.inr (.inl ⟨a, l, ep, rfl, rfl, hl⟩), h⟩
theorem tm_getD (T : Tbl) (k v : Int) : ((tm T).lookup k).getD (.int v) = .int ((T.lookup k).getD v) := by
 rw [tm_lookup]; cases T.lookup k <;> rfl
theorem l_iterD {σ : Sto} {a : Addr} {l : List (Int × MV)} {ep : Nat} {G : List MV → (Sto → Prop) → Prop} (hl : σ a = some (.dict l ep)) (hm : a ≠ sysModules) (h : G (l.map fun kv => .int kv.1) fun σ' => σ' a = some (.dict l ep)) : IterOf (.ref a) σ G := .inr (.inl ⟨a, l, ep, rfl, hl, hm, h⟩)
theorem l_itemD {σ : Sto} {a : Addr} {l : List (Int × MV)} {ep : Nat} {k : Int} {m : MV} {QV : MV → Prop} (hl : σ a = some (.dict l ep)) (hm : a ≠ sysModules) (hk : l.lookup k = some m) (h : QV m) : Item (.ref a) (.int k) σ QV := ⟨k, rfl, .inr (.inr ⟨a, rfl, .inr ⟨l, ep, m, hl, hm, hk, h⟩⟩)⟩
abbrev leCut : PS := sSeq (sIf (pAndB (pCmpB (cInt fun i j => decide (i ≥ j)) (pV 6) (pK (.int 0))) (pAndB (pCmpB (cInt fun i j => decide (i ≤ j)) (pV 7) (pMeth "dict" mGet (pV 2) (pCons (pV 6) (pCons (pV 7) (pNil))))) (pAndNil))) (sSeq (sSetI (pV 7) (pV 2) (pV 6)) (sNil)) (sNil)) (sNil)
section
variable {T : Tbl} {nb tb wl r : Addr} {ep n : Nat} {ρ : Loc} {σ : Sto} {dp cs s k : Int} {Q : MF → Loc → Sto → Prop} {QE : MV → Sto → Prop} {X : Sto → Prop}
theorem le_turn (h2 : ρ 2 = some (.ref nb)) (h6 : ρ 6 = some (.int dp)) (h7 : ρ 7 = some (.int cs)) (hb : σ nb = some (.dict (tm T) ep)) (hm : nb ≠ sysModules) (hz : T.length ≤ 1000)
  (q : ∀ σ' ep', σ' nb = some (.dict (tm (insT T (dp, cs))) ep') → (∀ a, a ≠ nb → σ' a = σ a) → Q .next ρ σ') : leCut ρ σ Q X := by
 unfold insT at q
 by_cases hdp : 0 ≤ dp
 ·walk_at "e"
  refine l_kindD hb ?_
  walk_at "e"
  refine l_kindD hb ?_
  refine ⟨nb, tm T, ep, dp, rfl, hb, hm, .inr ⟨.int cs, rfl, ?_⟩⟩
  rw [tm_getD]
  walk_at "e"
  by_cases hle : cs ≤ (T.lookup dp).getD cs
  ·walk_at "e"
   refine l_setD hb (by rw [tm, List.length_map]; exact hz) fun ep4 => ?_
   rw [tm_set]
   walk_at "e"
   rw [if_pos ⟨hdp, hle⟩] at q
   exact q _ ep4 (put_self ..) fun a h => put_other _ _ h
  ·rw [if_neg (fun z => hle z.2)] at q
   walk_at "e"
   exact q σ ep hb fun _ _ => rfl
 ·rw [if_neg (fun z => hdp z.1)] at q
  walk_at "e"
  exact q σ ep hb fun _ _ => rfl
inductive LeI (nb : Addr) (ρ : Loc) (σ : Sto) (dn : Tbl) (ρ' : Loc) (σ' : Sto) : Prop
 | mk (ep : Nat) (h1 : ∀ j, j ≠ 6 → j ≠ 7 → ρ' j = ρ j) (h2 : σ' nb = some (.dict (tm (dn.foldl insT [])) ep)) (h3 : ∀ a, a ≠ nb → σ' a = σ a)
theorem le_in {W : Tbl} (hn : n ≤ 900) (hk : ∀ e ∈ W, e.1 ≤ n) (h2 : ρ 2 = some (.ref nb)) (h5 : ρ 5 = some (.ref wl)) (hb : σ nb = some (.dict [] ep)) (hw : σ wl = some (.list (W.map hpMV))) (hm : nb ≠ sysModules)
  (q : ∀ ρ' σ' ep', (∀ j, j ≠ 6 → j ≠ 7 → ρ' j = ρ j) → σ' nb = some (.dict (tm (W.foldl insT [])) ep') → (∀ a, a ≠ nb → σ' a = σ a) → Q .next ρ' σ') :
  sFor (tTup (tCons (tV 6) (tCons (tV 7) (tNil)))) leCut (pV 5) ρ σ Q X := by
 have hne : wl ≠ nb := fun z => by rw [z, hb] at hw; cases hw
 refine i_for (i_V h5 (l_iterL hw ?_))
 refine forGo_map hpMV W (LeI nb ρ σ) ?_ (fun ρ' σ' ⟨ep', g1, g2, g3⟩ => q ρ' σ' ep' g1 g2 g3) ⟨ep, fun _ _ _ => rfl, hb, fun _ _ => rfl⟩
 rintro dn ⟨dp, cs⟩ rs e hmem ρ2 σ2 G hG ⟨ep3, g1, g2, g3⟩
 have hkd : KeysIn (dn.foldl insT []) n := fold_keys _ _ ⟨List.nodup_nil, fun e he => by cases he⟩ fun a ha => hk a (by rw [e]; exact List.mem_append_left _ ha)
 refine l_tup2 (le_turn ((g1 2 (by decide) (by decide)).trans h2) rfl rfl g2 hm (Nat.le_trans hkd.len (by lia)) fun σ' ep' w1 w2 => ⟨(w2 wl hne).trans ((g3 wl hne).trans hw), hG _ _ ⟨ep', fun j a b => ?_, ?_, fun a h => (w2 a h).trans (g3 a h)⟩⟩)
 ·rw [← g1 j a b]; unfold upd; rw [if_neg b, if_neg a]
 ·rw [List.foldl_append]; exact w1
theorem le_cmp {P : PE} {f : Int × Int → Int × Int} (h2 : ρ 2 = some (.ref tb)) (h8 : ρ 8 = none) (hb : σ tb = some (.dict (tm T) ep)) (hm : tb ≠ sysModules) (hz : T.length ≤ 1000) (hu : (T.map (·.1)).Nodup)
  (hP : ∀ a ∈ T, (tm T).lookup a.1 = some (.int a.2) → ∀ G : MV → Sto → Prop, G (hpMV (f a)) σ → P (upd ρ 8 (.int a.1)) σ G fun _ => False) (q : ∀ w, σ w = none → QE (.ref w) (put σ w (.list ((T.map f).map hpMV)))) :
  pComp [8] (tV 8) pAndNil P (pV 2) ρ σ QE X := by
 have e : (tm T).map (fun kv => MV.int kv.1) = T.map fun e => MV.int e.1 := by rw [tm, List.map_map]; rfl
 refine i_comp (i_V h2 ⟨fun i hi => by rw [List.mem_singleton.mp hi]; exact h8, l_iterD hb hm ⟨?_, ?_⟩⟩)
 ·rw [e, List.length_map]; exact Nat.le_trans hz (by decide)
 ·rw [e]
  refine compGo_map _ (fun a => hpMV (f a)) T (fun a ha G N hG => i_tV (i_andNil ⟨hb, fun _ => hP a ha ?_ _ ⟨hb, hG⟩, fun z => by cases z⟩)) ?_
  ·rw [tm_lookup, lookup_mem hu ha]; rfl
  ·intro w hw; rw [← Function.comp_def, ← List.map_map]; exact q w hw
abbrev leP1 : PE := pTup (pCons (pBin oAdd (pV 8) (pV 3)) (pCons (pItem (pV 2) (pV 8)) (pNil)))
abbrev leP2 : PE := pTup (pCons (pV 8) (pCons (pBin oAdd (pItem (pV 2) (pV 8)) (pItem (pItem (pV 1) (pV 4)) (pK (.int 2)))) (pNil)))
abbrev leIf : PS := sIf (pCmpB (cInt fun i j => decide (i ≥ j)) (pV 4) (pK (.int 0))) (sSeq (sSet 5 (pBin oAdd (pV 5) (pComp [8] (tV 8) (pAndNil) leP2 (pV 2)))) (sNil)) (sNil)
theorem le_p1 {a : Int × Int} {G : MV → Sto → Prop} (h2 : ρ 2 = some (.ref tb)) (h3 : ρ 3 = some (.int s)) (h8 : ρ 8 = some (.int a.1)) (hb : σ tb = some (.dict (tm T) ep)) (hm : tb ≠ sysModules) (hl : (tm T).lookup a.1 = some (.int a.2)) (q : G (hpMV (a.1 + s, a.2)) σ) : leP1 ρ σ G X := by
 walk_at "e"
 refine l_itemD hb hm hl ?_
 walk_at "e"
 exact q
theorem le_p2 {a : Int × Int} {row : List Itm} {G : MV → Sto → Prop} (h1 : ρ 1 = some (.ref r)) (h2 : ρ 2 = some (.ref tb)) (h4 : ρ 4 = some (.int k)) (h8 : ρ 8 = some (.int a.1)) (hb : σ tb = some (.dict (tm T) ep)) (hm : tb ≠ sysModules) (hl : (tm T).lookup a.1 = some (.int a.2))
  (hr : σ r = some (.list (row.map itemMV))) (hk0 : 0 ≤ k) (hk : k < row.length) (q : G (hpMV (a.1, a.2 + costOf row k)) σ) : leP2 ρ σ G X := by
 obtain ⟨t, ht⟩ : ∃ t, row[k.toNat]? = some t := ⟨_, List.getElem?_eq_getElem (by lia)⟩
 have htm : (row.map itemMV)[k.toNat]? = some (itemMV t) := by rw [List.getElem?_map, ht]; rfl
 have hc : costOf row k = t.2.2 := by unfold costOf; rw [List.getD_eq_getElem?_getD, ht]; rfl
 rw [hc] at q
 walk_at "e"
 refine l_itemD hb hm hl ?_
 walk_at "e"
 refine l_itemL k.toNat hr (Int.toNat_of_nonneg hk0).symm htm ?_
 walk_at "e"
 refine l_itemT 2 (show 3 ≤ sizeLine by decide) rfl rfl ?_
 walk_at "e"
 exact q
theorem le_ways {row : List Itm} {R : PS} (h1 : ρ 1 = some (.ref r)) (h2 : ρ 2 = some (.ref tb)) (h3 : ρ 3 = some (.int s)) (h4 : ρ 4 = some (.int k)) (h8 : ρ 8 = none) (hb : σ tb = some (.dict (tm T) ep)) (hm : tb ≠ sysModules)
  (hr : σ r = some (.list (row.map itemMV))) (hk : k < row.length) (hz : T.length ≤ 1000) (hu : (T.map (·.1)).Nodup)
  (q : ∀ σ' w, σ' w = some (.list ((waysT (costOf row) T (s, k)).map hpMV)) → Ge σ σ' → R (upd ρ 5 (.ref w)) σ' Q X) : sSeq (sSet 5 (pComp [8] (tV 8) (pAndNil) leP1 (pV 2))) (sSeq leIf R) ρ σ Q X := by
 refine i_sset (le_cmp h2 h8 hb hm hz hu (fun a ha hl G hG => le_p1 h2 h3 rfl hb hm hl hG) fun w hw => ?_)
 have hg := (Ge.refl σ).put hw (.list ((T.map fun e => (e.1 + s, e.2)).map hpMV))
 by_cases hk0 : 0 ≤ k
 ·have e : waysT (costOf row) T (s, k) = T.map (fun e => (e.1 + s, e.2)) ++ T.map (fun e => (e.1, e.2 + costOf row k)) := by unfold waysT; rw [if_pos hk0]
  rw [e, List.map_append] at q
  generalize hσ1 : put σ w (.list ((T.map fun e => (e.1 + s, e.2)).map hpMV)) = σ1 at *
  have hw1 : σ1 w = some (.list ((T.map fun e => (e.1 + s, e.2)).map hpMV)) := by rw [← hσ1]; exact put_self ..
  have hb1 := hg _ _ hb
  refine i_sif (i_cmpBVK h4 (l_cInt (i_t (decide_eq_true hk0) (i_setl (i_binV rfl (le_cmp (ρ := upd ρ 5 (.ref w)) h2 h8 hb1 hm hz hu (fun a ha hl G hG => le_p2 h1 h2 h4 rfl hb1 hm hl (hg _ _ hr) hk0 hk hG) fun w2 hw2 => ?_))))))
  have hww : w ≠ w2 := ne_of_none hw1 hw2
  have hg2 := hg.put hw2 (.list ((T.map fun e => (e.1, e.2 + costOf row k)).map hpMV))
  refine l_addL (put_ne hww hw1) (put_self ..) (by simp only [List.length_map, szL]; lia) fun w3 hw3 => ?_
  have := q _ w3 (put_self ..) (hg2.put hw3 _)
  rw [← upd_upd ρ 5 (.ref w)] at this
  exact this
 ·have e : waysT (costOf row) T (s, k) = T.map (fun e => (e.1 + s, e.2)) := by unfold waysT; rw [if_neg hk0, List.append_nil]
  rw [e] at q
  walk_at "e"
  exact q _ w (put_self ..) hg
abbrev leBody : PS := sSeq (sSet 5 (pComp [8] (tV 8) (pAndNil) leP1 (pV 2))) (sSeq leIf (sSeq (sSet 2 (pDict0b)) (sSeq (sFor (tTup (tCons (tV 6) (tCons (tV 7) (tNil)))) leCut (pV 5)) (sNil))))
theorem le_body {row : List Itm} (h1 : ρ 1 = some (.ref r)) (h2 : ρ 2 = some (.ref tb)) (h3 : ρ 3 = some (.int s)) (h4 : ρ 4 = some (.int k)) (h8 : ρ 8 = none) (hb : σ tb = some (.dict (tm T) ep)) (hm : tb ≠ sysModules)
  (hr : σ r = some (.list (row.map itemMV))) (hk : k < row.length) (hs : s ≤ 1) (hki : KeysIn T n) (hn : n ≤ 90)
  (q : ∀ ρ' σ' nb ep', (∀ j, j ≠ 2 → j ≠ 5 → j ≠ 6 → j ≠ 7 → ρ' j = ρ j) → ρ' 2 = some (.ref nb) → nb ≠ sysModules → σ' nb = some (.dict (tm (stepT (costOf row) T (s, k))) ep') → Ge σ σ' → Q .next ρ' σ') : leBody ρ σ Q X := by
 refine le_ways h1 h2 h3 h4 h8 hb hm hr hk (Nat.le_trans hki.len (by lia)) hki.1 fun σ1 w hw hg => i_sset (i_dict0 fun nb hnb hnm ep2 => i_seq ?_)
 have hwn : w ≠ nb := ne_of_none hw hnb
 refine le_in (n := n + 1) (by lia) (ways_keys hki hs) rfl rfl (put_self ..) (put_ne hwn hw) hnm fun ρ' σ' ep' w1 w2 w3 => i_nil (q ρ' σ' nb ep' (fun j a b c d => ?_) ((w1 2 (by decide) (by decide)).trans rfl) hnm w2 fun p m e => ?_)
 ·rw [w1 j c d]; unfold upd; rw [if_neg a, if_neg b]
 ·rw [w3 p (fun z => by rw [z, hg.new hnb] at e; cases e), put_other _ _ (fun z => by rw [z, hg.new hnb] at e; cases e)]; exact hg p m e
end
inductive IL1 (st r : Addr) (row : List Itm) (σ : Sto) (dn : List Stp2) (ρ : Loc) (σ' : Sto) : Prop
 | mk (tb : Addr) (ep : Nat) (f2 : ρ 0 = some (.ref st)) (f3 : ρ 1 = some (.ref r)) (f4 : ρ 2 = some (.ref tb)) (f5 : ρ 8 = none) (f6 : tb ≠ sysModules) (f7 : σ' tb = some (.dict (tm (leastT (costOf row) dn)) ep)) (f8 : KeysIn (leastT (costOf row) dn) dn.length) (f9 : Ge σ σ')
theorem sp_least (ms : List MV) (σ : Sto) (Q : MV → Sto → Prop) (X : Sto → Prop) (h : S_least ms σ Q X) : ms.length = 2 ∧ P_least (args ms) σ (retQ Q) (fun _ => False) := by
 obtain ⟨st, r, steps, row, rfl, hst, hr, hz, hok, hs1, q⟩ := h
 refine ⟨rfl, ?_⟩
 delta P_least
 refine i_sset (i_dict1 fun t0 ht0 htm ep => ?_)
 have hg0 := (Ge.refl σ).put ht0 (.dict [(0, .int 0)] ep)
 refine i_seq (i_for (i_V rfl (l_iterL (hg0 _ _ hst) ?_)))
 refine forGo_map stepMV steps (IL1 st r row σ) ?_ ?_ ⟨t0, ep, rfl, rfl, rfl, rfl, htm, put_self .., ⟨by simp [leastT], fun e he => by simp [leastT] at he; subst he; simp⟩, hg0⟩
 ·rintro dn ⟨s, k⟩ rs e hm ρ σ' G hG ⟨tb, ep1, h0, h1, h2, h8, hne, htb, hki, hge⟩
  have hl : dn.length ≤ 90 := by have := congrArg List.length e; rw [List.length_append] at this; lia
  refine l_tup2 (le_body h1 h2 rfl rfl h8 htb hne (hge _ _ hr) (hok _ hm) (hs1 _ hm) hki hl fun ρ' σ2 nb ep' w1 w2 w3 w4 w5 => ⟨w5 _ _ (hge _ _ hst), hG _ _ ⟨nb, ep', ?_, ?_, w2, ?_, w3, ?_, ?_, hge.trans w5⟩⟩)
  ·exact (w1 0 (by decide) (by decide) (by decide) (by decide)).trans h0
  ·exact (w1 1 (by decide) (by decide) (by decide) (by decide)).trans h1
  ·exact (w1 8 (by decide) (by decide) (by decide) (by decide)).trans h8
  ·unfold leastT at w4 ⊢; rw [List.foldl_append]; exact w4
  ·unfold leastT at hki ⊢; rw [List.foldl_append, List.length_append]; exact stepT_keys hki (hs1 _ hm)
 ·rintro ρ σ' ⟨tb, ep1, h0, h1, h2, h8, hne, htb, hki, hge⟩
  walk_at "e"
  refine l_kindD htb ?_
  walk_at "e"
  refine l_kindD htb ?_
  refine ⟨tb, _, ep1, 0, rfl, htb, hne, .inl ⟨rfl, ?_⟩⟩
  rw [tm_lookup]
  have := q _ hge
  generalize (leastT (costOf row) steps).lookup 0 = o at *
  cases o with
  | none => exact this
  | some v => exact this
noncomputable def nm_taken : List Str := ["steps", "depth", "low", "step", "k"]
def P_taken : PS := sSeq (sSetT (tTup (tCons (tV 1) (tCons (tV 2) (tNil)))) (pTup (pCons (pK (.int 0)) (pCons (pK (.int 0)) (pNil))))) (sSeq (sFor (tTup (tCons (tV 3) (tCons (tV 4) (tNil)))) (sSeq (sSet 1 (pBin oAdd (pV 1) (pV 3))) (sSeq (sSet 2 (pCallB fMin (pCons (pV 2) (pCons (pV 1) (pNil))))) (sNil))) (pV 0)) (sSeq (sRet (pAnd2 (pCmp (cEq false) (pV 1) (pK (.int 0))) (pCmp (cEq false) (pV 2) (pK (.int 0))))) (sNil)))
theorem taken_low (d s w : Int) : (decide (w = 0) && decide (0 ≤ d + s)) = decide ((if d + s < w then d + s else w) = 0) ∨ 0 < w := by
 by_cases hw : 0 < w
 ·exact .inr hw
 ·left
  rw [Bool.eq_iff_iff, Bool.and_eq_true, decide_eq_true_iff, decide_eq_true_iff, decide_eq_true_iff]
  split <;> grind only
structure ITak (σ : Sto) (l : List Stp2) (items : List MV) (ρ : Loc) (σ' : Sto) (l' : List Stp2) (d w : Int) : Prop where
 hs : σ' = σ
 hi : items = l'.map stepMV
 h1 : ρ 1 = some (.int d)
 h2 : ρ 2 = some (.int w)
 hw : w ≤ 0
 hb : balGo l' d (decide (w = 0)) = balGo l 0 true
theorem sp_taken (ms : List MV) (σ : Sto) (Q : MV → Sto → Prop) (X : Sto → Prop) (h : S_taken ms σ Q X) : ms.length = 1 ∧ P_taken (args ms) σ (retQ Q) (fun _ => False) := by
 obtain ⟨a, l, rfl, ha, q⟩ := h
 refine ⟨rfl, ?_⟩
 delta P_taken
 walk_at "e"
 refine forGo_inv (I := fun items ρ σ' => ∃ l' d w, ITak σ l items ρ σ' l' d w) ?_ ?_ _ _ _ ⟨l, 0, 0, rfl, rfl, rfl, rfl, Int.le_refl 0, rfl⟩
 ·rintro x xs ρ σ' G hG ⟨l', d, w, rfl, e, h1, h2, hw, hb⟩
  cases l' with
  | nil => cases e
  | cons s l' =>
   injection e with e1 e2
   subst e1; subst e2
   obtain ⟨s, k⟩ := s
   show tTup _ (.tup [.int s, .int k]) _ _
   walk_at "e"
   refine ⟨ha, hG _ _ ⟨l', d + s, if d + s < w then d + s else w, rfl, rfl, rfl, rfl, by split <;> omega, ?_⟩⟩
   rw [← hb]
   rcases taken_low d s w with h | h
   ·exact (congrArg (balGo l' (d + s)) h).symm
   ·grind
 ·rintro ρ σ' ⟨l', d, w, rfl, e, h1, h2, hw, hb⟩
  cases l' with
  | cons s l' => cases e
  | nil =>
   have hq := q _ (Ge.refl _)
   rw [← hb] at hq
   have hr : balGo [] d (decide (w = 0)) = (decide (d = 0) && decide (w = 0)) := rfl
   rw [hr] at hq
   walk_at "e"
   refine ⟨_, rfl, fun hd => ?_, fun hd => ?_⟩
   ·walk_at "e"
    rw [Bool.xor_false] at hd ⊢
    rw [hd] at hq
    exact hq
   ·rw [Bool.xor_false] at hd
    rw [hd] at hq
    exact hq
noncomputable def nm_escape : List Str := ["pattern"]
def P_escape : PS := sSeq (sIf (pTruth (pIsStr (pV 0))) (sSeq (sRet (pTrl (pV 0))) (sNil)) (sNever)) (sNil)
noncomputable def nm_tr : List Str := ["pat", "STAR", "QUESTION_MARK", "res", "add", "i", "n", "c", "j", "stuff", "chunks", "k", "chunk"]
abbrev trBr : PS := (sSeq (sSet 8 (pV 5)) (sSeq (sIf (pAndB (pCmpB cLt (pV 8) (pV 6)) (pAndB (pCmpB (cEq false) (pItem (pV 0) (pV 8)) (pK (.str [33]))) (pAndNil))) (sSeq (sSet 8 (pBin oAdd (pV 8) (pK (.int 1)))) (sNil)) (sNil)) (sSeq (sIf (pAndB (pCmpB cLt (pV 8) (pV 6)) (pAndB (pCmpB (cEq false) (pItem (pV 0) (pV 8)) (pK (.str [93]))) (pAndNil))) (sSeq (sSet 8 (pBin oAdd (pV 8) (pK (.int 1)))) (sNil)) (sNil)) (sSeq (sWhile (pAndB (pCmpB cLt (pV 8) (pV 6)) (pAndB (pCmpB (cEq true) (pItem (pV 0) (pV 8)) (pK (.str [93]))) (pAndNil))) (sSeq (sSet 8 (pBin oAdd (pV 8) (pK (.int 1)))) (sNil))) (sSeq (sIf (pCmpB (cInt fun i j => decide (i ≥ j)) (pV 8) (pV 6)) (sSeq (sExpr (pCallBm 4 (pCons (pK (.str [92, 91])) (pNil)))) (sNil)) (sSeq (sSet 9 (pSlc (pV 0) (pV 5) (pV 8))) (sSeq (sDash 9 (sSeq (sSet 10 (pLst (pNil))) (sSeq (sSet 11 (pIf (pCmpB (cEq false) (pItem (pV 0) (pV 5)) (pK (.str [33]))) (pBin oAdd (pV 5) (pK (.int 2))) (pBin oAdd (pV 5) (pK (.int 1))))) (sSeq (sWhile (pTruth (pK (.bool true))) (sSeq (sSet 11 (pMeth "str" mFind (pV 0) (pCons (pK (.str [45])) (pCons (pV 11) (pCons (pV 8) (pNil)))))) (sSeq (sIf (pCmpB cLt (pV 11) (pK (.int 0))) (sSeq (sBrk) (sNil)) (sNil)) (sSeq (sExpr (pMeth "list" mAppend (pV 10) (pCons (pSlc (pV 0) (pV 5) (pV 11)) (pNil)))) (sSeq (sSet 5 (pBin oAdd (pV 11) (pK (.int 1)))) (sSeq (sSet 11 (pBin oAdd (pV 11) (pK (.int 3)))) (sNil))))))) (sSeq (sSet 12 (pSlc (pV 0) (pV 5) (pV 8))) (sSeq (sIf (pTruth (pV 12)) (sSeq (sExpr (pMeth "list" mAppend (pV 10) (pCons (pV 12) (pNil)))) (sNil)) (sSeq (sNever) (sNil))) (sSeq (sFor (tV 11) (sSeq (sIf (pCmpB cGt (pItem (pItem (pV 10) (pBin oSub (pV 11) (pK (.int 1)))) (pNeg (pK (.int 1)))) (pItem (pItem (pV 10) (pV 11)) (pK (.int 0)))) (sSeq (sSetI (pBin oAdd (pSlc (pItem (pV 10) (pBin oSub (pV 11) (pK (.int 1)))) (pK .none) (pNeg (pK (.int 1)))) (pSlc (pItem (pV 10) (pV 11)) (pK (.int 1)) (pK .none))) (pV 10) (pBin oSub (pV 11) (pK (.int 1)))) (sSeq (sDel (pV 10) (pV 11)) (sNil))) (sNil)) (sNil)) (pCallB fRange (pCons (pBin oSub (pCallB fLen (pCons (pV 10) (pNil))) (pK (.int 1))) (pCons (pK (.int 0)) (pCons (pNeg (pK (.int 1))) (pNil)))))) (sSeq (sSet 9 (pJoinGen [45] 10)) (sNil))))))))) (sSeq (sSet 9 (pSub 9)) (sSeq (sSet 5 (pBin oAdd (pV 8) (pK (.int 1)))) (sSeq (sIf (pNotB (pTruth (pV 9))) (sSeq (sExpr (pCallBm 4 (pCons (pK (.str [40, 63, 33, 41])) (pNil)))) (sNil)) (sSeq (sIf (pCmpB (cEq false) (pV 9) (pK (.str [33]))) (sSeq (sExpr (pCallBm 4 (pCons (pK (.str [46])) (pNil)))) (sNil)) (sSeq (sIf (pCmpB (cEq false) (pItem (pV 9) (pK (.int 0))) (pK (.str [33]))) (sSeq (sSet 9 (pBin oAdd (pK (.str [94])) (pSlc (pV 9) (pK (.int 1)) (pK .none)))) (sNil)) (sSeq (sIf (pCmpB (cIn false) (pItem (pV 9) (pK (.int 0))) (pTup (pCons (pK (.str [94])) (pCons (pK (.str [91])) (pNil))))) (sSeq (sSet 9 (pBin oAdd (pK (.str [92])) (pV 9))) (sNil)) (sNil)) (sNil))) (sSeq (sExpr (pCallBm 4 (pCons (pFstr [91] [93] (pV 9)) (pNil)))) (sNil)))) (sNil))) (sNil))))))) (sNil))))))
def trBody : PS := (sSeq (sSet 7 (pItem (pV 0) (pV 5))) (sSeq (sSet 5 (pBin oAdd (pV 5) (pK (.int 1)))) (sSeq (sIf (pCmpB (cEq false) (pV 7) (pK (.str [42]))) (sSeq (sIf (pOrB (pNotB (pTruth (pV 3))) (pOrB (pCmpB (cIs true) (pItem (pV 3) (pNeg (pK (.int 1)))) (pV 1)) (pOrNil))) (sSeq (sExpr (pCallBm 4 (pCons (pV 1) (pNil)))) (sNil)) (sNil)) (sNil)) (sSeq (sIf (pCmpB (cEq false) (pV 7) (pK (.str [63]))) (sSeq (sExpr (pCallBm 4 (pCons (pV 2) (pNil)))) (sNil)) (sSeq (sIf (pCmpB (cEq false) (pV 7) (pK (.str [91]))) trBr (sSeq (sExpr (pCallBm 4 (pCons (pCallS S_escape (pCons (pV 7) (pNil))) (pNil)))) (sNil))) (sNil))) (sNil))) (sNil))))
def P_tr : PS := sSeq (sSet 3 (pLst (pNil))) (sSeq (sSet 4 (pBm (pV 3))) (sSeq (sSwap (tCons (tV 6) (tCons (tV 5) (tNil))) (pTup (pCons (pK (.int 0)) (pCons (pCallB fLen (pCons (pV 0) (pNil))) (pNil))))) (sSeq (sWhile (pCmpB cLt (pV 5) (pV 6)) trBody) (sSeq (sAssert (pCmpB (cEq false) (pV 5) (pV 6))) (sSeq (sRet (pV 3)) (sNil))))))
theorem sp_escape (ms : List MV) (σ : Sto) (Q : MV → Sto → Prop) (X : Sto → Prop) (h : S_escape ms σ Q X) : ms.length = 1 ∧ P_escape (args ms) σ (retQ Q) (fun _ => False) := by
 obtain ⟨c, rfl, hc, q⟩ := h
 refine ⟨rfl, ?_⟩
 exact i_sif (i_truth (i_V (i := 0) rfl ⟨[c], rfl, l_truthB (i_t rfl (i_sret (i_V (i := 0) rfl ⟨c, rfl, hc, q _ (Ge.refl _)⟩)))⟩))
theorem parts_len (star : Addr) (pcs : List Pc) : (partsOf star pcs).length ≤ pcs.length := by
 have : ∀ (pcs : List Pc) (acc : List MV), (pcs.foldl (addPc star) acc).length ≤ acc.length + pcs.length := by
  intro pcs
  induction pcs with
  | nil => intro acc; simp
  | cons p pcs ih =>
   intro acc
   refine Nat.le_trans (ih _) ?_
   have : (addPc star acc p).length ≤ acc.length + 1 := by
    unfold addPc
    split
    ·simp
    ·split <;> simp
   simp; omega
 simpa [partsOf] using this pcs []
theorem seq_nat {k n : Nat} (h : k < n) : seqIndex? (k : Int) n = some k := by
 have h1 : ¬ ((k : Int) < 0) := by grind
 simp [seqIndex?, h, h1]
theorem seq_add {a b n : Nat} (h : a + b < n) : seqIndex? ((a : Int) + (b : Int)) n = some (a + b) := by
 have := seq_nat h
 simpa using this
theorem pc_len : ∀ p ∈ pcTab, 1 ≤ p.1.length ∧ p.1.length ≤ 5 := by decide
theorem pat_len (pcs : List Pc) (h : ∀ p ∈ pcs, p ∈ pcTab) : (patOf pcs).length ≤ 5 * pcs.length := by
 induction pcs with
 | nil => simp [patOf]
 | cons p pcs ih =>
  have h1 := ih fun q hq => h q (List.mem_cons_of_mem _ hq)
  have h2 : p.1.length ≤ 5 := (pc_len p (h p List.mem_cons_self)).2
  simp [patOf] at h1 ⊢; grind
theorem parts_mem (star : Addr) (pcs : List Pc) : ∀ m ∈ partsOf star pcs, (∃ s, m = .str s) ∨ m = .ref star := by
 have : ∀ (pcs : List Pc) (acc : List MV), (∀ m ∈ acc, (∃ s, m = .str s) ∨ m = .ref star) → ∀ m ∈ pcs.foldl (addPc star) acc, (∃ s, m = .str s) ∨ m = .ref star := by
  intro pcs
  induction pcs with
  | nil => intro acc h; exact h
  | cons p pcs ih =>
   intro acc h
   refine ih _ ?_
   unfold addPc
   split
   ·intro m hm
    rcases List.mem_append.mp hm with hm | hm
    ·exact h m hm
    ·simp at hm; exact .inl ⟨_, hm⟩
   ·split
    ·exact h
    ·intro m hm
     rcases List.mem_append.mp hm with hm | hm
     ·exact h m hm
     ·simp at hm; exact .inr hm
 exact this pcs [] (by simp)
theorem scan (pat : List Nat) (hz : pat.length ≤ 1000) (e : Nat) (he : pat[e]? = some 93) (σ : Sto) (Q : MF → Loc → Sto → Prop) (X : Sto → Prop) (j0 : Nat) (h0e : j0 ≤ e) (hno : ∀ t c, j0 ≤ t → t < e → pat[t]? = some c → c ≠ 93) (ρ : Loc)
  (h0 : ρ 0 = some (.str pat)) (h6 : ρ 6 = some (.int pat.length)) (h8 : ρ 8 = some (.int j0)) (q : ∀ ρ', (∀ i, i ≠ 8 → ρ' i = ρ i) → ρ' 8 = some (.int e) → Q .next ρ' σ) :
  sWhile (pAndB (pCmpB cLt (pV 8) (pV 6)) (pAndB (pCmpB (cEq true) (pItem (pV 0) (pV 8)) (pK (.str [93]))) (pAndNil))) (sSeq (sSet 8 (pBin oAdd (pV 8) (pK (.int 1)))) (sNil)) ρ σ Q X := by
 have hlt := (List.getElem?_eq_some_iff.mp he).1
 refine ⟨fun n ρ' σ' => ∃ j, n = e - j ∧ j0 ≤ j ∧ j ≤ e ∧ σ' = σ ∧ (∀ i, i ≠ 8 → ρ' i = ρ i) ∧ ρ' 8 = some (.int j), e - j0, ⟨j0, rfl, Nat.le_refl _, h0e, rfl, fun _ _ => rfl, h8⟩, ?_⟩
 rintro n ρ' σ' ⟨j, rfl, hj0, hje, rfl, hr, h8'⟩
 have g0 : ρ' 0 = some (.str pat) := (hr 0 (by decide)).trans h0
 have g6 : ρ' 6 = some (.int pat.length) := (hr 6 (by decide)).trans h6
 by_cases hjj : j = e
 ·subst hjj
  walk_at "e"
  refine l_itemS j (by walk_at "z") rfl he ?_
  walk_at "e"
  exact q ρ' hr h8'
 ·obtain ⟨c, hc⟩ : ∃ c, pat[j]? = some c := ⟨_, List.getElem?_eq_getElem (by walk_at "q")⟩
  have hne := hno j c hj0 (by omega) hc
  walk_at "e"
  refine l_itemS j (by walk_at "z") rfl hc ?_
  walk_at "e"
  exact ⟨e - (j + 1), by lia, j + 1, rfl, by walk_at "q", by lia, rfl, fun i hi => (if_neg hi).trans (hr i hi), by simp [upd]⟩
theorem find_miss (x y : List Nat) (lo hi : Nat) (h : hi < lo) : findAt x y lo hi = -1 := by
 unfold findAt
 rw [StrLaws.occ_eq, show hi + 1 - lo = 0 by omega]
 rfl
theorem find_hit (x : List Nat) (c lo hi : Nat) (h : lo < hi) (hx : x[lo]? = some c) : findAt x [c] lo hi = lo := by
 unfold findAt
 rw [StrLaws.occ_eq]
 have hat : StrLaws.At (toS x) (toS [c]) hi lo := by
  refine ⟨h, ?_⟩
  rw [StrLaws.subAt_eq]
  have hlt := (List.getElem?_eq_some_iff.mp hx).1
  have : (x.drop lo).take 1 = [c] := by
   rw [List.drop_eq_getElem_cons hlt]; simp [(List.getElem?_eq_some_iff.mp hx).2]
  simpa [Str.length] using this
 obtain ⟨n, hn⟩ : ∃ n, hi + 1 - lo = n + 1 := ⟨hi - lo, by grind⟩
 rw [hn]
 rcases StrLaws.occ_first (toS x) (toS [c]) hi 1 (Nat.le_refl _) (List.range' lo (n + 1)) lo (fun i hi => by simp [List.mem_range'] at hi; grind only) with ⟨h1, h2⟩ | ⟨pre, a, post, h1, h2, h3, h4⟩
 ·exact absurd hat (h2 lo (by simp [List.range'_succ]))
 ·have : pre = [] := by
   cases pre with
   | nil => rfl
   | cons b pre =>
    rw [List.range'_succ] at h1
    injection h1 with h1 _
    subst h1
    exact absurd hat (h4 lo (by simp))
  subst this
  rw [List.range'_succ] at h1
  injection h1 with h1 _
  subst h1
  generalize (forIn (List.range' lo (n + 1)) ((#[] : Array Nat), lo) (StrLaws.occBody (toS x) (toS [c]) hi 1)).run.fst = z at h2 ⊢
  have : z.toList[0]? = some lo := by simpa using h2
  cases hz : z.toList with
  | nil => rw [hz] at this; cases this
  | cons b r => rw [hz] at this; injection this with this; subst this; rfl
set_option tactic.hygienic true
theorem cut_eq (l : List Nat) (a n : Nat) (w : List Nat) (hn : n = w.length) (h : ∀ k, k < w.length → l[a + k]? = w[k]?) : (l.drop a).take n = w := by
 subst hn
 apply List.ext_getElem?
 intro k
 rw [List.getElem?_take]
 split
 ·rename_i hk; rw [List.getElem?_drop, h k hk]
 ·rename_i hk; exact (List.getElem?_eq_none (by walk_at "q")).symm
set_option tactic.hygienic false
theorem l_inT {n : Bool} {a : MV} {l : List MV} {c : Bool} {σ : Sto} {QR : Bool → Prop} (hk : Kin a l) (hc : c = true ↔ a ∈ l) (h : QR (c ^^ n)) : cIn n a (.tup l) σ QR := by
 refine .inr (.inl ⟨l, rfl, hk, fun c' hc' => ?_⟩)
 have e : c' = c := by rw [Bool.eq_iff_iff, hc, hc']
 rw [e]; exact h
structure TrF (pat : List Nat) (star r : Addr) (ρ : Loc) (a : Int) : Prop where
 h0 : ρ 0 = some (.str pat)
 h1 : ρ 1 = some (.ref star)
 h2 : ρ 2 = some (.str [46])
 h3 : ρ 3 = some (.ref r)
 h4 : ρ 4 = some (.bm "list.append" r)
 h5 : ρ 5 = some (.int a)
 h6 : ρ 6 = some (.int pat.length)
theorem TrF.mv {pat : List Nat} {star r : Addr} {ρ ρ' : Loc} {a : Int} (h : ∀ i, i ≠ 8 → ρ' i = ρ i) (F : TrF pat star r ρ a) : TrF pat star r ρ' a := ⟨(h 0 (by decide)).trans F.h0, (h 1 (by decide)).trans F.h1, (h 2 (by decide)).trans F.h2, (h 3 (by decide)).trans F.h3, (h 4 (by decide)).trans F.h4, (h 5 (by decide)).trans F.h5, (h 6 (by decide)).trans F.h6⟩
theorem tr_plain {pat : List Nat} {star r : Addr} {a c : Nat} {acc : List MV} {ρ : Loc} {σ' : Sto} {Q : MF → Loc → Sto → Prop} (F : TrF pat star r ρ (a : Nat)) (hz : pat.length ≤ 1000) (hl : σ' r = some (.list acc)) (hpln : acc.length ≤ 100) (a0 : pat[a]? = some c)
  (n1 : c ≠ 42) (n2 : c ≠ 63) (n3 : c ≠ 91) (n4 : c < 128) (k : ∀ ρ' σ₃, TrF pat star r ρ' ((a : Nat) + 1) → Ge σ' σ₃ → Q .next ρ' (put σ₃ r (.list (acc ++ [.str (if c ∈ specials then [92, c] else [c])])))) : trBody ρ σ' Q (fun _ => False) := by
 obtain ⟨h0, h1, h2, h3, h4, h5, h6⟩ := F
 delta trBody
 walk_at "e"
 refine l_itemS a (by walk_at "z") rfl a0 ?_
 walk_at "e"
 refine ⟨c, rfl, n4, fun σ'' hg => ?_⟩
 walk_at "e"
 refine l_append (hg _ _ hl) (by walk_at "z") ?_
 exact k _ _ ⟨by walk_at "l", by walk_at "l", by walk_at "l", by walk_at "l", by walk_at "l", by first | exact rfl | walk_at "l", by walk_at "l"⟩ hg
theorem tr_br {pat : List Nat} {star r : Addr} {a c : Nat} {acc : List MV} {ρ : Loc} {σ' : Sto} {Q : MF → Loc → Sto → Prop} (F : TrF pat star r ρ (a : Nat)) (hz : pat.length ≤ 1000) (hl : σ' r = some (.list acc)) (hpln : acc.length ≤ 100) (h78' : σ' 78 = some .tab)
  (a0 : pat[a + 0]? = some 91) (a1 : pat[a + 1]? = some c) (a2 : pat[a + 2]? = some 93) (hc : c = 40 ∨ c = 41) (k : ∀ ρ' σ₃, TrF pat star r ρ' ((a : Nat) + 3) → Ge σ' σ₃ → Q .next ρ' (put σ₃ r (.list (acc ++ [.str [91, c, 93]])))) : trBody ρ σ' Q (fun _ => False) := by
 obtain ⟨h0, h1, h2, h3, h4, h5, h6⟩ := F
 have hlt3 : a + 3 ≤ pat.length := (List.getElem?_eq_some_iff.mp a2).1
 have n1 : c ≠ 33 := by lia
 have n2 : c ≠ 93 := by (subst_vars; lia)
 have n3 : c ≠ 94 := by (subst_vars; lia)
 have n4 : c ≠ 91 := by (subst_vars; lia)
 delta trBody
 walk_at "e"
 refine l_itemS a (by walk_at "z") rfl a0 ?_
 walk_at "e"
 refine l_itemS (a + 1) (by walk_at "z") (by walk_at "o") a1 ?_
 walk_at "e"
 refine l_itemS (a + 1) (by walk_at "z") (by walk_at "o") a1 ?_
 walk_at "e"
 refine scan pat hz (a + 2) a2 _ _ _ (a + 1) (by walk_at "q") ?_ _ (by walk_at "l") (by walk_at "l") (by walk_at "l") ?_
 ·intro t c' ht1 ht2 hc'
  have : t = a + 1 := by lia
  rcases this with rfl
  rw [a1] at hc'; cases hc'; exact n2
 intro ρ' hr' h8'
 obtain ⟨b0, b1, b2, b3, b4, b5, b6⟩ : TrF pat star r ρ' ((a : Int) + 1) := TrF.mv hr' ⟨h0, h1, h2, h3, h4, rfl, h6⟩
 have hcut : (pat.drop (a + 1)).take (a + 2 - (a + 1)) = [c] := cut_eq pat (a + 1) _ _ (by simp <;> omega) (by
  intro k hk
  have hk' : k = 0 := by simp at hk; omega
  rcases hk' with rfl
  exact a1)
 walk_at "e"
 refine l_slcS (a := a + 1) (b := a + 2) (by walk_at "z") (by walk_at "o") (by walk_at "o") (by walk_at "q") (by walk_at "q") ?_
 rw [hcut]
 walk_at "e"
 refine ⟨[c], by walk_at "l", (Nat.le_of_ble_eq_true rfl : 1 ≤ 1000), fun hc' => ?_, fun hc' => absurd hc' (by rcases hc with rfl | rfl <;> decide +kernel)⟩
 rw [show StrLaws.dbl 92 [c] = [c] by rcases hc with rfl | rfl <;> rfl]
 walk_at "e"
 refine ⟨[c], by walk_at "l", Nat.le_of_ble_eq_true rfl, by rcases hc with rfl | rfl <;> decide +kernel, h78', ?_⟩
 walk_at "e"
 refine l_itemS 0 (show 1 ≤ sizeLine from Nat.le_of_ble_eq_true rfl) rfl rfl ?_
 walk_at "e"
 refine l_itemS 0 (show 1 ≤ sizeLine from Nat.le_of_ble_eq_true rfl) rfl rfl ?_
 walk_at "e"
 refine l_inT (c := false) (.inr ⟨⟨_, rfl⟩, by simp⟩) (by simp [n3, n4]) ?_
 walk_at "e"
 refine l_append hl (by walk_at "z") ?_
 exact k _ _ ⟨by walk_at "l", by walk_at "l", by walk_at "l", by walk_at "l", by walk_at "l", by refine congrArg some (congrArg MV.int ?_); simp; walk_at "q", by walk_at "l"⟩ (Ge.refl _)
def GeBut (r : Addr) (σ σ' : Sto) : Prop := ∀ x mo, x ≠ r → σ x = some mo → σ' x = some mo
theorem GeBut.put {r : Addr} {σ σ' : Sto} (h : Ge σ σ') (l : MO) : GeBut r σ (put σ' r l) := fun x mo hx e => by rw [put_other _ _ hx]; exact h x mo e
def TrOk (p : Pc) : Prop := ∀ (pat : List Nat) (star r : Addr) (a : Nat) (acc : List MV) (ρ : Loc) (σ' : Sto) (Q : MF → Loc → Sto → Prop), TrF pat star r ρ (a : Nat) → pat.length ≤ 1000 → σ' r = some (.list acc) → acc.length ≤ 100 → (∀ m ∈ acc, (∃ s, m = .str s) ∨ m = .ref star) → σ' 78 = some .tab →
 (∀ k, k < p.1.length → pat[a + k]? = p.1[k]?) → (∀ ρ' σ'', TrF pat star r ρ' ((a : Nat) + p.1.length) → σ'' r = some (.list (addPc star acc p)) → GeBut r σ' σ'' → Q .next ρ' σ'') → trBody ρ σ' Q (fun _ => False)
theorem tok_40 : TrOk ([40], some [92, 40]) := fun pat star r a acc ρ σ' Q F hz hl hpln hmem h78 hat nx =>
 tr_plain (c := 40) F hz hl hpln (hat 0 (by decide)) (by decide) (by decide) (by decide) (by decide) fun ρ' σ₃ F' hg => nx _ _ F' (put_self ..) (GeBut.put hg _)
theorem tok_41 : TrOk ([41], some [92, 41]) := fun pat star r a acc ρ σ' Q F hz hl hpln hmem h78 hat nx =>
 tr_plain (c := 41) F hz hl hpln (hat 0 (by decide)) (by decide) (by decide) (by decide) (by decide) fun ρ' σ₃ F' hg => nx _ _ F' (put_self ..) (GeBut.put hg _)
theorem tok_34 : TrOk ([34], some [34]) := fun pat star r a acc ρ σ' Q F hz hl hpln hmem h78 hat nx =>
 tr_plain (c := 34) F hz hl hpln (hat 0 (by decide)) (by decide) (by decide) (by decide) (by decide) fun ρ' σ₃ F' hg => nx _ _ F' (put_self ..) (GeBut.put hg _)
theorem tok_97 : TrOk ([97], some [97]) := fun pat star r a acc ρ σ' Q F hz hl hpln hmem h78 hat nx =>
 tr_plain (c := 97) F hz hl hpln (hat 0 (by decide)) (by decide) (by decide) (by decide) (by decide) fun ρ' σ₃ F' hg => nx _ _ F' (put_self ..) (GeBut.put hg _)
theorem tok_92 : TrOk ([92], some [92, 92]) := fun pat star r a acc ρ σ' Q F hz hl hpln hmem h78 hat nx =>
 tr_plain (c := 92) F hz hl hpln (hat 0 (by decide)) (by decide) (by decide) (by decide) (by decide) fun ρ' σ₃ F' hg => nx _ _ F' (put_self ..) (GeBut.put hg _)
theorem tok_93 : TrOk ([93], some [92, 93]) := fun pat star r a acc ρ σ' Q F hz hl hpln hmem h78 hat nx =>
 tr_plain (c := 93) F hz hl hpln (hat 0 (by decide)) (by decide) (by decide) (by decide) (by decide) fun ρ' σ₃ F' hg => nx _ _ F' (put_self ..) (GeBut.put hg _)
theorem tok_124 : TrOk ([124], some [92, 124]) := fun pat star r a acc ρ σ' Q F hz hl hpln hmem h78 hat nx =>
 tr_plain (c := 124) F hz hl hpln (hat 0 (by decide)) (by decide) (by decide) (by decide) (by decide) fun ρ' σ₃ F' hg => nx _ _ F' (put_self ..) (GeBut.put hg _)
theorem tok_br40 : TrOk ([91, 40, 93], some [91, 40, 93]) := fun pat star r a acc ρ σ' Q F hz hl hpln hmem h78 hat nx =>
 tr_br (c := 40) F hz hl hpln h78 (hat 0 (by decide)) (hat 1 (by decide)) (hat 2 (by decide)) (by decide) fun ρ' σ₃ F' hg => nx _ _ F' (put_self ..) (GeBut.put hg _)
theorem tok_br41 : TrOk ([91, 41, 93], some [91, 41, 93]) := fun pat star r a acc ρ σ' Q F hz hl hpln hmem h78 hat nx =>
 tr_br (c := 41) F hz hl hpln h78 (hat 0 (by decide)) (hat 1 (by decide)) (hat 2 (by decide)) (by decide) fun ρ' σ₃ F' hg => nx _ _ F' (put_self ..) (GeBut.put hg _)
theorem tok_star : TrOk ([42], none) := by
 rintro pat star r a acc ρ σ' Q ⟨h0, h1, h2, h3, h4, h5, h6⟩ hz hl hpln hmem h78' hat nx
 have a0 : pat[a]? = some 42 := hat 0 (by decide)
 delta trBody
 rcases List.eq_nil_or_concat acc with rfl | ⟨init, x, rfl⟩
 ·walk_at "e"
  refine l_itemS a (by walk_at "z") rfl a0 ?_
  walk_at "e"
  refine l_append hl (by walk_at "z") ?_
  exact nx _ _ ⟨by walk_at "l", by walk_at "l", by walk_at "l", by walk_at "l", by walk_at "l", (by first | exact rfl | (refine congrArg some (congrArg MV.int ?_); simp; omega)), by walk_at "l"⟩ (put_self ..) (GeBut.put (Ge.refl _) _)
 ·have hpln2 : init.length ≤ 99 := by simp at hpln; omega
  rcases hmem x (by simp) with ⟨s, rfl⟩ | rfl
  ·walk_at "e"
   refine l_itemS a (by walk_at "z") rfl a0 ?_
   walk_at "e"
   refine l_itemLast hl (show _ = some (MV.str s) by simp) ?_
   walk_at "e"
   refine l_append hl (by walk_at "z") ?_
   exact nx _ _ ⟨by walk_at "l", by walk_at "l", by walk_at "l", by walk_at "l", by walk_at "l", (by first | exact rfl | (refine congrArg some (congrArg MV.int ?_); simp; omega)), by walk_at "l"⟩ (by rw [put_self]; simp [addPc]) (GeBut.put (Ge.refl _) _)
  ·walk_at "e"
   refine l_itemS a (by walk_at "z") rfl a0 ?_
   walk_at "e"
   refine l_itemLast hl (show _ = some (MV.ref star) by simp) ?_
   walk_at "e"
   exact nx _ _ ⟨by walk_at "l", by walk_at "l", by walk_at "l", by walk_at "l", by walk_at "l", (by first | exact rfl | (refine congrArg some (congrArg MV.int ?_); simp; omega)), by walk_at "l"⟩ (by rw [hl]; simp [addPc]) (fun x mo _ e => e)
theorem tok_q : TrOk ([63], some [46]) := by
 rintro pat star r a acc ρ σ' Q ⟨h0, h1, h2, h3, h4, h5, h6⟩ hz hl hpln hmem h78' hat nx
 have a0 : pat[a]? = some 63 := hat 0 (by decide)
 delta trBody
 walk_at "e"
 refine l_itemS a (by walk_at "z") rfl a0 ?_
 walk_at "e"
 refine l_append hl (by walk_at "z") ?_
 exact nx _ _ ⟨by walk_at "l", by walk_at "l", by walk_at "l", by walk_at "l", by walk_at "l", (by first | exact rfl | (refine congrArg some (congrArg MV.int ?_); simp; omega)), by walk_at "l"⟩ (put_self ..) (GeBut.put (Ge.refl _) _)
theorem tok_na : TrOk ([91, 33, 97, 93], some [91, 94, 97, 93]) := by
 rintro pat star r a acc ρ σ' Q ⟨h0, h1, h2, h3, h4, h5, h6⟩ hz hl hpln hmem h78' hat nx
 have a0 : pat[a + 0]? = some 91 := hat 0 (by decide)
 have a1 : pat[a + 1]? = some 33 := hat 1 (by decide)
 have a2 : pat[a + 2]? = some 97 := hat 2 (by decide)
 have a3 : pat[a + 3]? = some 93 := hat 3 (by decide)
 have hlt3 : a + 4 ≤ pat.length := (List.getElem?_eq_some_iff.mp a3).1
 delta trBody
 walk_at "e"
 refine l_itemS a (by walk_at "z") rfl a0 ?_
 walk_at "e"
 refine l_itemS (a + 1) (by walk_at "z") (by walk_at "o") a1 ?_
 walk_at "e"
 refine l_itemS (a + 2) (by walk_at "z") (by walk_at "o") a2 ?_
 walk_at "e"
 refine scan pat hz (a + 3) a3 _ _ _ (a + 2) (by walk_at "q") ?_ _ (by walk_at "l") (by walk_at "l") (by walk_at "l") ?_
 ·intro t c ht1 ht2 hc
  have : t = a + 2 := by (subst_vars; lia)
  rcases this with rfl
  rw [a2] at hc; cases hc; decide
 intro ρ' hr' h8'
 obtain ⟨b0, b1, b2, b3, b4, b5, b6⟩ : TrF pat star r ρ' ((a : Int) + 1) := TrF.mv hr' ⟨h0, h1, h2, h3, h4, rfl, h6⟩
 have hcut : (pat.drop (a + 1)).take (a + 3 - (a + 1)) = [33, 97] := cut_eq pat (a + 1) _ _ (by simp <;> omega) (by
  intro k hk
  have hk' : k = 0 ∨ k = 1 := by simp at hk; grind
  rcases hk' with rfl | rfl
  ·exact a1
  ·exact a2)
 walk_at "e"
 refine l_slcS (a := a + 1) (b := a + 3) (by walk_at "z") (by walk_at "o") (by walk_at "o") (by (subst_vars; omega)) (by walk_at "q") ?_
 rw [hcut]
 walk_at "e"
 refine ⟨_, by walk_at "l", by decide, fun hc => ?_, fun hc => absurd hc (by decide +kernel)⟩
 walk_at "e"
 refine ⟨_, by walk_at "l", by decide, by decide +kernel, h78', ?_⟩
 walk_at "e"
 refine l_itemS 0 (by decide) rfl rfl ?_
 walk_at "e"
 refine l_slcF (a := 1) (by decide) rfl ?_
 walk_at "e"
 refine l_append hl (by walk_at "z") ?_
 exact nx _ _ ⟨by walk_at "l", by walk_at "l", by walk_at "l", by walk_at "l", by walk_at "l", (by refine congrArg some (congrArg MV.int ?_); simp; walk_at "q"), by walk_at "l"⟩ (put_self ..) (GeBut.put (Ge.refl _) _)
theorem tok_bs : TrOk ([91, 92, 93], some [91, 92, 92, 93]) := by
 rintro pat star r a acc ρ σ' Q ⟨h0, h1, h2, h3, h4, h5, h6⟩ hz hl hpln hmem h78' hat nx
 have a0 : pat[a + 0]? = some 91 := hat 0 (by decide)
 have a1 : pat[a + 1]? = some 92 := hat 1 (by decide)
 have a2 : pat[a + 2]? = some 93 := hat 2 (by decide)
 have hlt3 : a + 3 ≤ pat.length := (List.getElem?_eq_some_iff.mp a2).1
 delta trBody
 walk_at "e"
 refine l_itemS a (by walk_at "z") rfl a0 ?_
 walk_at "e"
 refine l_itemS (a + 1) (by walk_at "z") (by walk_at "o") a1 ?_
 walk_at "e"
 refine l_itemS (a + 1) (by walk_at "z") (by walk_at "o") a1 ?_
 walk_at "e"
 refine scan pat hz (a + 2) a2 _ _ _ (a + 1) (by omega) ?_ _ (by walk_at "l") (by walk_at "l") (by walk_at "l") ?_
 ·intro t c ht1 ht2 hc
  have : t = a + 1 := by omega
  rcases this with rfl
  rw [a1] at hc; cases hc; decide
 intro ρ' hr' h8'
 obtain ⟨b0, b1, b2, b3, b4, b5, b6⟩ : TrF pat star r ρ' ((a : Int) + 1) := TrF.mv hr' ⟨h0, h1, h2, h3, h4, rfl, h6⟩
 have hcut : (pat.drop (a + 1)).take (a + 2 - (a + 1)) = [92] := cut_eq pat (a + 1) _ _ (by simp <;> omega) (by
  intro k hk
  have hk' : k = 0 := by simp at hk; omega
  rcases hk' with rfl
  exact a1)
 walk_at "e"
 refine l_slcS (a := a + 1) (b := a + 2) (by walk_at "z") (by walk_at "o") (by walk_at "o") (by omega) (by walk_at "q") ?_
 rw [hcut]
 walk_at "e"
 refine ⟨_, by walk_at "l", by decide, fun hc => ?_, fun hc => absurd hc (by decide +kernel)⟩
 walk_at "e"
 refine ⟨_, by walk_at "l", by decide, by decide +kernel, h78', ?_⟩
 walk_at "e"
 refine l_itemS 0 (by decide) rfl rfl ?_
 walk_at "e"
 refine l_itemS 0 (by decide) rfl rfl ?_
 walk_at "e"
 refine l_inT (c := false) (.inr ⟨⟨_, rfl⟩, by simp⟩) (by simp) ?_
 walk_at "e"
 refine l_append hl (by walk_at "z") ?_
 exact nx _ _ ⟨by walk_at "l", by walk_at "l", by walk_at "l", by walk_at "l", by walk_at "l", (by refine congrArg some (congrArg MV.int ?_); simp; walk_at "q"), by walk_at "l"⟩ (put_self ..) (GeBut.put (Ge.refl _) _)
inductive TBa (pat : List Nat) (star r ch : Addr) (a : Nat) (σ' : Sto) (n : Nat) (ρ : Loc) (σ : Sto) : Prop
 | one (hn : n = 1) (F : TrF pat star r ρ (a + 1 : Nat)) (c8 : ρ 8 = some (.int (a + 4 : Nat))) (c10 : ρ 10 = some (.ref ch)) (c11 : ρ 11 = some (.int (a + 2 : Nat))) (hc : σ ch = some (.list [])) (up : Ge σ' σ)
 | two (hn : n = 0) (F : TrF pat star r ρ (a + 3 : Nat)) (c8 : ρ 8 = some (.int (a + 4 : Nat))) (c10 : ρ 10 = some (.ref ch)) (c11 : ρ 11 = some (.int (a + 5 : Nat))) (hc : σ ch = some (.list [.str [98]])) (up : Ge σ' σ)
theorem tok_ba : TrOk ([91, 98, 45, 97, 93], some [40, 63, 33, 41]) := by
 rintro pat star r a acc ρ σ' Q ⟨h0, h1, h2, h3, h4, h5, h6⟩ hz hl hpln hmem h78' hat nx
 have a0 : pat[a + 0]? = some 91 := hat 0 (by decide)
 have a1 : pat[a + 1]? = some 98 := hat 1 (by decide)
 have a2 : pat[a + 2]? = some 45 := hat 2 (by decide)
 have a3 : pat[a + 3]? = some 97 := hat 3 (by decide)
 have a4 : pat[a + 4]? = some 93 := hat 4 (by decide)
 have hlt3 : a + 5 ≤ pat.length := (List.getElem?_eq_some_iff.mp a4).1
 delta trBody
 walk_at "e"
 refine l_itemS a (by walk_at "z") rfl a0 ?_
 walk_at "e"
 refine l_itemS (a + 1) (by walk_at "z") (by walk_at "o") a1 ?_
 walk_at "e"
 refine l_itemS (a + 1) (by walk_at "z") (by walk_at "o") a1 ?_
 walk_at "e"
 refine scan pat hz (a + 4) a4 _ _ _ (a + 1) (by (subst_vars; lia)) ?_ _ (by walk_at "l") (by walk_at "l") (by walk_at "l") ?_
 ·intro t c ht1 ht2 hc
  have : t = a + 1 ∨ t = a + 2 ∨ t = a + 3 := by lia
  rcases this with rfl | rfl | rfl
  ·rw [a1] at hc; cases hc; decide
  ·rw [a2] at hc; cases hc; decide
  ·rw [a3] at hc; cases hc; decide
 intro ρ' hr' h8'
 obtain ⟨b0, b1, b2, b3, b4, b5, b6⟩ : TrF pat star r ρ' ((a : Int) + 1) := TrF.mv hr' ⟨h0, h1, h2, h3, h4, rfl, h6⟩
 have hcut : (pat.drop (a + 1)).take (a + 4 - (a + 1)) = [98, 45, 97] := cut_eq pat (a + 1) _ _ (by simp <;> omega) (by
  intro k hk
  have hk' : k = 0 ∨ k = 1 ∨ k = 2 := by simp at hk; lia
  rcases hk' with rfl | rfl | rfl
  ·exact a1
  ·exact a2
  ·exact a3)
 have hcut1 : (pat.drop (a + 1)).take (a + 2 - (a + 1)) = [98] := cut_eq pat (a + 1) _ _ (by simp <;> omega) (by
  intro k hk
  have hk' : k = 0 := by simp at hk; omega
  subst hk'
  exact a1)
 have hcut2 : (pat.drop (a + 3)).take (a + 4 - (a + 3)) = [97] := cut_eq pat (a + 3) _ _ (by simp <;> omega) (by
  intro k hk
  have hk' : k = 0 := by simp at hk; omega
  subst hk'
  exact a3)
 walk_at "e"
 refine l_slcS (a := a + 1) (b := a + 4) (by walk_at "z") (by walk_at "o") (by walk_at "o") (by lia) (by walk_at "q") ?_
 rw [hcut]
 walk_at "e"
 refine ⟨_, by walk_at "l", by decide, fun hc => absurd hc (by decide +kernel), fun hc => ?_⟩
 walk_at "e"
 intro ch hch
 walk_at "e"
 refine l_itemS (a + 1) (by walk_at "z") (by walk_at "o") a1 ?_
 walk_at "e"
 have hchr : ch ≠ r := fun z => by rw [z, hl] at hch; cases hch
 have h78c : (78 : Addr) ≠ ch := ne_of_none h78' hch
 refine ⟨TBa pat star r ch a σ', 1, .one rfl ⟨b0, b1, b2, b3, b4, b5, b6⟩ h8' rfl rfl (put_self ..) ((Ge.refl σ').put hch _), ?_⟩
 clear hr' h8' b0 b1 b2 b3 b4 b5 b6
 rintro n ρ₁ σ₁ (⟨rfl, ⟨c0, c1, c2, c3, c4, c5, c6⟩, c8, c10, c11, hc, up⟩ | ⟨rfl, ⟨c0, c1, c2, c3, c4, c5, c6⟩, c8, c10, c11, hc, up⟩)
 ·walk_at "e"
  refine ⟨pat, [45], a + 2, a + 4, rfl, rfl, ?_⟩
  rw [show findAt pat [45] (a + 2) (min (a + 4) pat.length) = ((a + 2 : Nat) : Int) from find_hit pat 45 _ _ (by (subst_vars; omega)) a2]
  walk_at "e"
  refine l_slcS (a := a + 1) (b := a + 2) (by walk_at "z") (by walk_at "o") (by walk_at "o") (by walk_at "q") (by lia) ?_
  rw [hcut1]
  walk_at "e"
  refine l_append hc (by walk_at "z") ?_
  walk_at "e"
  exact ⟨0, by decide, .two rfl ⟨c0, c1, c2, c3, c4, by refine congrArg some (congrArg MV.int ?_); simp; walk_at "q", c6⟩ c8 c10 (by refine congrArg some (congrArg MV.int ?_); simp; walk_at "q") (put_self ..) fun x m e => put_ne (ne_of_none e hch) (up x m e)⟩
 ·walk_at "e"
  refine ⟨pat, [45], a + 5, a + 4, rfl, rfl, ?_⟩
  rw [show findAt pat [45] (a + 5) (min (a + 4) pat.length) = -1 from find_miss _ _ _ _ (by omega)]
  walk_at "e"
  refine l_slcS (a := a + 3) (b := a + 4) (by walk_at "z") (by walk_at "o") (by walk_at "o") (by walk_at "q") (by walk_at "q") ?_
  rw [hcut2]
  walk_at "e"
  refine l_append hc (by walk_at "z") ?_
  have hc2 : put σ₁ ch (.list ([.str [98]] ++ [.str [97]])) ch = some (.list [.str [98], .str [97]]) := put_self ..
  have up2 : Ge σ' (put σ₁ ch (.list ([.str [98]] ++ [.str [97]]))) := fun x m e => put_ne (ne_of_none e hch) (up x m e)
  generalize put σ₁ ch (.list ([.str [98]] ++ [.str [97]])) = σ₂ at *
  walk_at "e"
  refine .inr ⟨1, 0, rfl, by decide, by decide, rfl, ?_⟩
  refine l_iterR (by decide +kernel) ?_
  rw [show rangeL 1 0 (-1) = [MV.int 1] by unfold rangeL; rw [show (Builtin.Range.rangeSize 1 0 (-1)).toNat = 1 by decide +kernel]; rfl]
  unfold forGo
  show sSeq _ _ _ _ _ _
  walk_at "e"
  refine l_itemL 0 hc2 rfl rfl ?_
  walk_at "e"
  refine ⟨-1, rfl, .inl ⟨_, rfl, by decide, 0, 98, by decide, rfl, ?_⟩⟩
  walk_at "e"
  refine l_itemL 1 hc2 rfl rfl ?_
  walk_at "e"
  refine l_itemS 0 (by decide) rfl rfl ?_
  walk_at "e"
  refine l_itemL 0 hc2 rfl rfl ?_
  walk_at "e"
  refine ⟨.inl rfl, .inr ⟨_, rfl⟩, .inl ⟨_, rfl, by decide, ?_⟩⟩
  rw [show cut [98] (partOf .none) (partOf (.int (-1))) = ([] : List Nat) by rfl]
  walk_at "e"
  refine l_itemL 1 hc2 rfl rfl ?_
  walk_at "e"
  refine l_slcF (a := 1) (by decide) rfl ?_
  walk_at "e"
  refine l_setL 0 hc2 rfl (by decide) ?_
  walk_at "e"
  refine ⟨ch, _, 1, rfl, rfl, put_self .., by decide, ?_⟩
  walk_at "e"
  refine ⟨trivial, ?_⟩
  unfold forGo
  rw [put_put]
  have hc3 : ∀ l, put σ₂ ch l ch = some l := fun l => put_self ..
  have up3 : ∀ l, Ge σ' (put σ₂ ch l) := fun l x m e => put_ne (ne_of_none e hch) (up2 x m e)
  walk_at "e"
  refine ⟨ch, by walk_at "l", (hc3 _).trans rfl, up3 _ _ _ h78', ?_⟩
  walk_at "e"
  refine ⟨_, by walk_at "l", by decide, by decide +kernel, up3 _ _ _ h78', ?_⟩
  walk_at "e"
  refine l_append (l := acc) (up3 _ _ _ hl) (by walk_at "z") ?_
  exact nx _ _ ⟨c0, c1, c2, c3, c4, (by refine congrArg some (congrArg MV.int ?_); simp; walk_at "q"), c6⟩ (put_self ..) fun x mo hx e => put_ne hx (up3 _ _ _ e)
theorem tr_all : ∀ p ∈ pcTab, TrOk p := by
 unfold pcTab
 exact List.forall_mem_cons.mpr ⟨tok_br40, List.forall_mem_cons.mpr ⟨tok_br41, List.forall_mem_cons.mpr ⟨tok_40, List.forall_mem_cons.mpr ⟨tok_41, List.forall_mem_cons.mpr ⟨tok_star, List.forall_mem_cons.mpr ⟨tok_34, List.forall_mem_cons.mpr ⟨tok_97, List.forall_mem_cons.mpr ⟨tok_q, List.forall_mem_cons.mpr ⟨tok_92, List.forall_mem_cons.mpr ⟨tok_93, List.forall_mem_cons.mpr ⟨tok_na, List.forall_mem_cons.mpr ⟨tok_bs, List.forall_mem_cons.mpr ⟨tok_ba, List.forall_mem_cons.mpr ⟨tok_124, fun _ h => nomatch h⟩⟩⟩⟩⟩⟩⟩⟩⟩⟩⟩⟩⟩⟩
structure ITr (pcs : List Pc) (star : Addr) (pat : List Nat) (r : Addr) (σ : Sto) (n : Nat) (ρ : Loc) (σ' : Sto) (done rest : List Pc) : Prop where
 hdr : pcs = done ++ rest
 hn : n = rest.length
 h0 : ρ 0 = some (.str pat)
 h1 : ρ 1 = some (.ref star)
 h2 : ρ 2 = some (.str [46])
 h3 : ρ 3 = some (.ref r)
 h4 : ρ 4 = some (.bm "list.append" r)
 h5 : ρ 5 = some (.int (patOf done).length)
 h6 : ρ 6 = some (.int pat.length)
 hl : σ' r = some (.list (partsOf star done))
 hge : Ge σ σ'
theorem sp_tr (ms : List MV) (σ : Sto) (Q : MV → Sto → Prop) (X : Sto → Prop) (h : S_tr ms σ Q X) : ms.length = 3 ∧ P_tr (args ms) σ (retQ Q) (fun _ => False) := by
 obtain ⟨pcs, star, rfl, hpc, hn, h78, q⟩ := h
 refine ⟨rfl, ?_⟩
 have hpl := pat_len pcs hpc
 generalize hpat : patOf pcs = pat at *
 have hz : pat.length ≤ 1000 := by lia
 delta P_tr
 walk_at "e"
 intro r hr
 walk_at "e"
 refine i_while (fun n ρ σ' => ∃ done rest, ITr pcs star pat r σ n ρ σ' done rest) pcs.length ⟨[], pcs, rfl, rfl, rfl, rfl, rfl, rfl, rfl, rfl, rfl, put_self .., (Ge.refl _).put hr _⟩ ?_
 rintro n ρ σ' ⟨done, rest, hdr, rfl, h0, h1, h2, h3, h4, h5, h6, hl, hge⟩
 have h78' := hge _ _ h78
 cases rest with
 | nil =>
  rw [List.append_nil] at hdr
  subst hdr
  rw [hpat] at h5
  walk_at "e"
  exact q r σ' hge hr hl
 | cons p rest =>
  have hsplit : pat = patOf done ++ (p.1 ++ patOf rest) := by rw [← hpat, hdr]; simp [patOf]
  have hp := hpc p (by rw [hdr]; simp)
  have hlt : (patOf done).length + p.1.length ≤ pat.length := by rw [hsplit]; simp
  have hparts : partsOf star (done ++ [p]) = addPc star (partsOf star done) p := by simp [partsOf]
  have hpl1 : (patOf (done ++ [p])).length = (patOf done).length + p.1.length := by simp [patOf]
  have hpln : (partsOf star done).length ≤ 100 := Nat.le_trans (parts_len _ _) (by rw [hdr] at hn; simp at hn; grind)
  have hat : ∀ k, k < p.1.length → pat[(patOf done).length + k]? = p.1[k]? := fun k hk => by
   rw [hsplit, List.getElem?_append_right (by walk_at "q"), Nat.add_sub_cancel_left, List.getElem?_append_left hk]
  have next : ∀ (ρ' : Loc) (σ'' : Sto), TrF pat star r ρ' ((patOf done).length + p.1.length) → σ'' r = some (.list (addPc star (partsOf star done) p)) → Ge σ σ'' →
   ∃ k, k < (p :: rest).length ∧ ∃ done' rest', ITr pcs star pat r σ k ρ' σ'' done' rest' := by
   rintro ρ' σ'' ⟨a0, a1, a2, a3, a4, a5, a6⟩ a7 a8
   exact ⟨rest.length, Nat.lt_succ_self _, done ++ [p], rest, by rw [hdr, List.append_assoc]; rfl, rfl, a0, a1, a2, a3, a4, by rw [hpl1, Int.natCast_add]; exact a5, a6, by rw [hparts]; exact a7, a8⟩
  have hplen : 1 ≤ p.1.length := (pc_len p hp).1
  have hlt' : (patOf done).length < pat.length := by grind
  walk_at "e"
  refine tr_all p hp pat star r (patOf done).length (partsOf star done) ρ σ' _ ⟨h0, h1, h2, h3, h4, h5, h6⟩ hz hl hpln (parts_mem star done) h78' hat fun ρ' σ'' F h8 h9 => ?_
  exact next _ _ F h8 (fun x mo e => h9 x mo (fun z => by rw [z, hr] at e; cases e) (hge x mo e))
noncomputable def tailIn (star : Addr) (Fs : List (List (List Nat))) : List MV := (Fs.map fun F => MV.ref star :: F.map .str).flatten
noncomputable def tailOut : List (List (List Nat)) → List (List Nat)
 | [] => []
 | [F] => if F = [] then [[46, 42]] else [[46, 42], F.flatten]
 | F :: G :: r => ([40, 63, 62, 46, 42, 63] ++ F.flatten ++ [41]) :: tailOut (G :: r)
noncomputable def SegOk : List (List (List Nat)) → Prop
 | [] => True
 | [_] => True
 | F :: G :: r => F ≠ [] ∧ SegOk (G :: r)
def S_joinp : FS := fun ms σ Q X => ∃ a star F0 Fs, ms = [.ref a, .ref star] ∧ σ a = some (.list (F0.map .str ++ tailIn star Fs)) ∧ SegOk Fs ∧ (F0.map MV.str ++ tailIn star Fs).length ≤ 1000 ∧ (F0 ++ tailOut Fs).flatten.length ≤ 10000 ∧ (∀ F ∈ Fs, F.flatten.length ≤ 10000) ∧ (F0 ++ tailOut Fs).length ≤ 1000 ∧
 Val σ (.str ([40, 63, 115, 58] ++ (F0 ++ tailOut Fs).flatten ++ [41, 92, 90])) Q
noncomputable def nm_joinp : List Str := ["inp", "STAR", "res", "add", "i", "n", "fixed"]
def P_joinp : PS := sSeq (sSet 2 (pLst (pNil))) (sSeq (sSet 3 (pBm (pV 2))) (sSeq (sSwap (tCons (tV 5) (tCons (tV 4) (tNil))) (pTup (pCons (pK (.int 0)) (pCons (pCallB fLen (pCons (pV 0) (pNil))) (pNil))))) (sSeq (sWhile (pAndB (pCmpB cLt (pV 4) (pV 5)) (pAndB (pCmpB (cIs true) (pItem (pV 0) (pV 4)) (pV 1)) (pAndNil))) (sSeq (sExpr (pCallBm 3 (pCons (pItem (pV 0) (pV 4)) (pNil)))) (sSeq (sAug oIAdd 4 (pK (.int 1))) (sNil)))) (sSeq (sWhile (pCmpB cLt (pV 4) (pV 5)) (sSeq (sAssert (pCmpB (cIs false) (pItem (pV 0) (pV 4)) (pV 1))) (sSeq (sAug oIAdd 4 (pK (.int 1))) (sSeq (sIf (pCmpB (cEq false) (pV 4) (pV 5)) (sSeq (sExpr (pCallBm 3 (pCons (pK (.str [46, 42])) (pNil)))) (sSeq (sBrk) (sNil))) (sNil)) (sSeq (sAssert (pCmpB (cIs true) (pItem (pV 0) (pV 4)) (pV 1))) (sSeq (sSet 6 (pLst (pNil))) (sSeq (sWhile (pAndB (pCmpB cLt (pV 4) (pV 5)) (pAndB (pCmpB (cIs true) (pItem (pV 0) (pV 4)) (pV 1)) (pAndNil))) (sSeq (sExpr (pMeth "list" mAppend (pV 6) (pCons (pItem (pV 0) (pV 4)) (pNil)))) (sSeq (sAug oIAdd 4 (pK (.int 1))) (sNil)))) (sSeq (sSet 6 (pMeth "str" mJoin (pK (.str [])) (pCons (pV 6) (pNil)))) (sSeq (sIf (pCmpB (cEq false) (pV 4) (pV 5)) (sSeq (sExpr (pCallBm 3 (pCons (pK (.str [46, 42])) (pNil)))) (sSeq (sExpr (pCallBm 3 (pCons (pV 6) (pNil)))) (sNil))) (sSeq (sExpr (pCallBm 3 (pCons (pFstr [40, 63, 62, 46, 42, 63] [41] (pV 6)) (pNil)))) (sNil))) (sNil)))))))))) (sSeq (sAssert (pCmpB (cEq false) (pV 4) (pV 5))) (sSeq (sSet 2 (pMeth "str" mJoin (pK (.str [])) (pCons (pV 2) (pNil)))) (sSeq (sRet (pFstr [40, 63, 115, 58] [41, 92, 90] (pV 2))) (sNil))))))))
theorem flat_sum (l : List (List Nat)) : (l.map (fun x => x.length)).sum = l.flatten.length := by
 induction l with
 | nil => rfl
 | cons x l ih => simp only [List.map_cons, List.sum_cons, List.flatten_cons, List.length_append]; (subst_vars; grind only)
theorem joinL_nil : ∀ l : List (List Nat), joinL [] l = l.flatten
 | [] => rfl
 | [x] => by simp [joinL]
 | x :: y :: r => by simp only [joinL, joinL_nil (y :: r)]; simp
theorem tailIn_cons (star : Addr) (F : List (List Nat)) (r : List (List (List Nat))) : tailIn star (F :: r) = .ref star :: (F.map .str ++ tailIn star r) := by simp [tailIn]
theorem tailIn_head (star : Addr) (r : List (List (List Nat))) (h : r ≠ []) : ∃ l, tailIn star r = .ref star :: l := by
 cases r with
 | nil => exact absurd rfl h
 | cons F r => exact ⟨_, tailIn_cons star F r⟩
theorem SegOk.tail {F : List (List Nat)} : ∀ {r : List (List (List Nat))}, SegOk (F :: r) → SegOk r
 | [], _ => trivial
 | _ :: _, h => h.2
section
variable {a star r fx : Addr} {inp tl : List MV} {sx acc O : List (List Nat)} {pos n : Nat} {ρ : Loc} {σ : Sto} {Q : MF → Loc → Sto → Prop} {QB : Bool → Sto → Prop} {X : Sto → Prop}
abbrev joT : PB := pAndB (pCmpB cLt (pV 4) (pV 5)) (pAndB (pCmpB (cIs true) (pItem (pV 0) (pV 4)) (pV 1)) (pAndNil))
theorem jo_t1 {x : List Nat} (h0 : ρ 0 = some (.ref a)) (h1 : ρ 1 = some (.ref star)) (h4 : ρ 4 = some (.int pos)) (h5 : ρ 5 = some (.int inp.length)) (ha : σ a = some (.list inp)) (hx : inp[pos]? = some (.str x)) (q : QB true σ) : joT ρ σ QB X :=
 i_andB (i_cmpBVV h4 h5 (l_ltI (i_t (decide_eq_true (Int.ofNat_lt.mpr (List.getElem?_eq_some_iff.mp hx).1)) (i_andB (i_cmpB (i_itmVV h0 h4 (l_itemL pos ha rfl hx (i_V h1 (l_isSR (i_t rfl (i_andNil q)))))))))))
theorem jo_t0 (h0 : ρ 0 = some (.ref a)) (h1 : ρ 1 = some (.ref star)) (h4 : ρ 4 = some (.int pos)) (h5 : ρ 5 = some (.int inp.length)) (ha : σ a = some (.list inp)) (hd : inp.drop pos = tl) (ht : tl = [] ∨ ∃ l, tl = .ref star :: l) (q : QB false σ) : joT ρ σ QB X := by
 refine i_andB (i_cmpBVV h4 h5 (l_ltI ?_))
 rcases ht with rfl | ⟨l, rfl⟩
 ·exact i_f (decide_eq_false fun z => absurd (List.drop_eq_nil_iff.mp hd) (Nat.not_le_of_lt (Int.ofNat_lt.mp z))) q
 ·have hx : inp[pos]? = some (.ref star) := by have := congrArg (·[0]?) hd; simpa using this
  exact i_t (decide_eq_true (Int.ofNat_lt.mpr (List.getElem?_eq_some_iff.mp hx).1)) (i_andB (i_cmpB (i_itmVV h0 h4 (l_itemL pos ha rfl hx (i_V h1 (l_isRR (i_f rfl q)))))))
def JoS (a r : Addr) (inp : List MV) (ρ : Loc) (S1 : PS) : Prop := ∀ (ρ' : Loc) (σ' : Sto) (p : Nat) (x : List Nat) (l : List (List Nat)) (Q : MF → Loc → Sto → Prop) (X : Sto → Prop), (∀ j, j ≠ 4 → ρ' j = ρ j) → ρ' 4 = some (.int p) → inp[p]? = some (.str x) → σ' a = some (.list inp) →
 σ' r = some (.list (l.map .str)) → l.length ≤ 1000 → Q .next ρ' (put σ' r (.list ((l ++ [x]).map .str))) → S1 ρ' σ' Q X
inductive JR (r : Addr) (sx : List (List Nat)) (pos : Nat) (ρ : Loc) (σ : Sto) (n : Nat) (ρ' : Loc) (σ' : Sto) : Prop
 | mk (dn rs : List (List Nat)) (e : sx = dn ++ rs) (hn : n = rs.length) (f1 : ∀ j, j ≠ 4 → ρ' j = ρ j) (f2 : ρ' 4 = some (.int (pos + dn.length : Nat))) (f3 : σ' r = some (.list (dn.map .str))) (f4 : Up r σ σ')
theorem jo_run {S1 : PS} (h0 : ρ 0 = some (.ref a)) (h1 : ρ 1 = some (.ref star)) (h4 : ρ 4 = some (.int pos)) (h5 : ρ 5 = some (.int inp.length)) (ha : σ a = some (.list inp)) (hr : σ r = some (.list [])) (hra : a ≠ r) (hd : inp.drop pos = sx.map .str ++ tl) (ht : tl = [] ∨ ∃ l, tl = .ref star :: l) (hz : inp.length ≤ 1000) (hS : JoS a r inp ρ S1)
  (q : ∀ ρ' σ', (∀ j, j ≠ 4 → ρ' j = ρ j) → ρ' 4 = some (.int (pos + sx.length : Nat)) → σ' r = some (.list (sx.map .str)) → Up r σ σ' → Q .next ρ' σ') : sWhile joT (sSeq S1 (sSeq (sAug oIAdd 4 (pK (.int 1))) (sNil))) ρ σ Q X := by
 refine i_while (JR r sx pos ρ σ) sx.length ⟨[], sx, rfl, rfl, fun _ _ => rfl, h4, hr, (Ge.refl σ).up r⟩ ?_
 rintro n ρ' σ' ⟨dn, rs, e, rfl, f1, f2, f3, f4⟩
 have g0 := (f1 0 (by decide)).trans h0
 have g1 := (f1 1 (by decide)).trans h1
 have g5 := (f1 5 (by decide)).trans h5
 have ga := f4 _ _ hra ha
 have hd1 : inp.drop (pos + dn.length) = rs.map .str ++ tl := by rw [← List.drop_drop, hd, e]; simp
 cases rs with
 | cons x rs =>
  have hx : inp[pos + dn.length]? = some (.str x) := by have := congrArg (·[0]?) hd1; simpa using this
  refine jo_t1 g0 g1 f2 g5 ga hx (i_t rfl (i_seq (hS ρ' σ' _ x dn _ _ f1 f2 hx ga f3 ?_ ?_)))
  ·have := congrArg List.length hd; simp [e] at this; lia
  ·refine i_seq (i_aug f2 (i_K (l_iaddI (i_nil ⟨rs.length, Nat.lt_succ_self _, dn ++ [x], rs, by rw [e, List.append_assoc]; rfl, rfl, fun j h => (if_neg h).trans (f1 j h), congrArg some (congrArg MV.int ?_), put_self .., f4.trans (Up.put _ _ _)⟩))))
   rw [List.length_append]; rfl
 | nil =>
  rw [List.append_nil] at e
  subst e
  exact jo_t0 g0 g1 f2 g5 ga hd1 ht (i_f rfl (q ρ' σ' f1 f2 f3 f4))
theorem jo_s1 (h0 : ρ 0 = some (.ref a)) (h3 : ρ 3 = some (.bm "list.append" r)) : JoS a r inp ρ (sExpr (pCallBm 3 (pCons (pItem (pV 0) (pV 4)) (pNil)))) := fun ρ' σ' p x l Q X f1 f2 hx ga f3 hl q =>
 i_expr (i_callBm ((f1 3 (by decide)).trans h3) (i_pcons (i_itmVV ((f1 0 (by decide)).trans h0) f2 (l_itemL p ga rfl hx (i_pnil (l_append f3 (by rw [List.length_map, szL]; lia) (by rw [List.map_append] at q; exact q)))))))
theorem jo_s2 (h0 : ρ 0 = some (.ref a)) (h6 : ρ 6 = some (.ref r)) : JoS a r inp ρ (sExpr (pMeth "list" mAppend (pV 6) (pCons (pItem (pV 0) (pV 4)) (pNil)))) := fun ρ' σ' p x l Q X f1 f2 hx ga f3 hl q =>
 i_expr (i_methV ((f1 6 (by decide)).trans h6) (l_kindL f3 (i_pcons (i_itmVV ((f1 0 (by decide)).trans h0) f2 (l_itemL p ga rfl hx (i_pnil (l_kindL f3 (l_append f3 (by rw [List.length_map, szL]; lia) (by rw [List.map_append] at q; exact q)))))))))
theorem jo_join {V : PE} {l : List (List Nat)} {QE : MV → Sto → Prop} (hl : σ r = some (.list (l.map .str))) (hz : l.length ≤ 100000) (hs : l.flatten.length ≤ 10000) (q : QE (.str l.flatten) σ) (hV : ∀ QE : MV → Sto → Prop, QE (.ref r) σ → V ρ σ QE X) : pMeth "str" mJoin (pK (.str [])) (pCons V (pNil)) ρ σ QE X := by
 refine i_meth (i_K (l_kindS (i_pcons (hV _ (i_pnil (l_kindS ⟨[], r, l, rfl, rfl, hl, ?_, ?_⟩))))))
 ·have := flat_sum l; simp only [List.length_nil, Nat.mul_zero, Nat.add_zero]; lia
 ·rw [joinL_nil]; exact q
inductive JI2 (star r : Addr) (O : List (List Nat)) (inp : List MV) (ρ : Loc) (σ : Sto) (n : Nat) (ρ' : Loc) (σ' : Sto) : Prop
 | mk (acc : List (List Nat)) (Gs : List (List (List Nat))) (pos : Nat) (hn : n = Gs.length) (f1 : SegOk Gs) (f2 : ∀ F ∈ Gs, F.flatten.length ≤ 10000) (f3 : inp.drop pos = tailIn star Gs) (f4 : pos ≤ inp.length) (f5 : acc ++ tailOut Gs = O) (f6 : ∀ j, j ≠ 4 → j ≠ 6 → ρ' j = ρ j) (f10 : ρ' 4 = some (.int pos)) (f12 : σ' r = some (.list (acc.map .str))) (f13 : Ge σ σ')
abbrev joIf : PS := sIf (pCmpB (cEq false) (pV 4) (pV 5)) (sSeq (sExpr (pCallBm 3 (pCons (pK (.str [46, 42])) (pNil)))) (sSeq (sExpr (pCallBm 3 (pCons (pV 6) (pNil)))) (sNil))) (sSeq (sExpr (pCallBm 3 (pCons (pFstr [40, 63, 62, 46, 42, 63] [41] (pV 6)) (pNil)))) (sNil))
theorem jo_add {x : List Nat} {V : PE} (h3 : ρ 3 = some (.bm "list.append" r)) (hl : σ r = some (.list (acc.map .str))) (hz : acc.length ≤ 1001) (hV : ∀ QE : MV → Sto → Prop, QE (.str x) σ → V ρ σ QE X) (q : Q .next ρ (put σ r (.list ((acc ++ [x]).map .str)))) : sExpr (pCallBm 3 (pCons V (pNil))) ρ σ Q X :=
 i_expr (i_callBm h3 (i_pcons (hV _ (i_pnil (l_append hl (by rw [List.length_map, szL]; lia) (by rw [List.map_append] at q; exact q))))))
theorem jo_if {F : List (List Nat)} {Gr : List (List (List Nat))} (hF : F ≠ []) (h3 : ρ 3 = some (.bm "list.append" r)) (h4 : ρ 4 = some (.int pos)) (h5 : ρ 5 = some (.int inp.length)) (h6 : ρ 6 = some (.str F.flatten)) (hd : inp.drop pos = tailIn star Gr) (hp : pos ≤ inp.length) (hl : σ r = some (.list (acc.map .str))) (hz : acc.length ≤ 999) (hs : F.flatten.length ≤ 10000)
  (q : ∀ acc' σ', acc ++ tailOut (F :: Gr) = acc' ++ tailOut Gr → σ' r = some (.list (acc'.map .str)) → Up r σ σ' → Q .next ρ σ') : joIf ρ σ Q X := by
 have hlen := congrArg List.length hd
 rw [List.length_drop] at hlen
 refine i_if (i_cmpBVV h4 h5 (l_eqI ?_))
 cases Gr with
 | nil =>
  have hp : pos = inp.length := by simp [tailIn] at hlen; lia
  subst hp
  refine i_t (by rw [decide_eq_true rfl]; rfl) (i_seq (jo_add h3 hl (by lia) (fun QE h => h) (i_seq (jo_add h3 (put_self ..) (by rw [List.length_append]; exact Nat.le_succ_of_le (Nat.add_le_add_right hz 1)) (fun QE h => i_V h6 h) (i_nil (q _ _ ?_ (put_self ..) ((Up.put _ _ _).trans (Up.put _ _ _))))))))
  simp [tailOut, hF]
 | cons G r' =>
  have hp : pos < inp.length := by rw [tailIn_cons, List.length_cons] at hlen; lia
  refine i_f (by rw [decide_eq_false (by lia)]; rfl) (i_seq (jo_add (x := [40, 63, 62, 46, 42, 63] ++ F.flatten ++ [41]) h3 hl (by lia) (fun QE h => i_fstr (i_V h6 (i_fstrS (by lia) h))) (i_nil (q _ _ ?_ (put_self ..) (Up.put _ _ _)))))
  simp [tailOut]
abbrev joB : PS := sSeq (sAssert (pCmpB (cIs false) (pItem (pV 0) (pV 4)) (pV 1))) (sSeq (sAug oIAdd 4 (pK (.int 1))) (sSeq (sIf (pCmpB (cEq false) (pV 4) (pV 5)) (sSeq (sExpr (pCallBm 3 (pCons (pK (.str [46, 42])) (pNil)))) (sSeq (sBrk) (sNil))) (sNil)) (sSeq (sAssert (pCmpB (cIs true) (pItem (pV 0) (pV 4)) (pV 1))) (sSeq (sSet 6 (pLst (pNil))) (sSeq (sWhile joT (sSeq (sExpr (pMeth "list" mAppend (pV 6) (pCons (pItem (pV 0) (pV 4)) (pNil)))) (sSeq (sAug oIAdd 4 (pK (.int 1))) (sNil)))) (sSeq (sSet 6 (pMeth "str" mJoin (pK (.str [])) (pCons (pV 6) (pNil)))) (sSeq joIf (sNil))))))))
theorem jo_turn {F : List (List Nat)} {Gr : List (List (List Nat))} {ρ₀ : Loc} {σ₀ : Sto} (h0 : ρ₀ 0 = some (.ref a)) (h1 : ρ₀ 1 = some (.ref star)) (h3 : ρ₀ 3 = some (.bm "list.append" r)) (h5 : ρ₀ 5 = some (.int inp.length)) (ha : σ₀ a = some (.list inp)) (hn : σ₀ r = none) (hz : inp.length ≤ 1000) (hO : O.length ≤ 1000)
  (f1 : SegOk (F :: Gr)) (f2 : ∀ G ∈ F :: Gr, G.flatten.length ≤ 10000) (f3 : inp.drop pos = tailIn star (F :: Gr)) (f5 : acc ++ tailOut (F :: Gr) = O) (f6 : ∀ j, j ≠ 4 → j ≠ 6 → ρ j = ρ₀ j) (f10 : ρ 4 = some (.int pos)) (f12 : σ r = some (.list (acc.map .str))) (f13 : Ge σ₀ σ)
  (qb : ∀ ρ' σ', (∀ j, j ≠ 4 → j ≠ 6 → ρ' j = ρ₀ j) → ρ' 4 = some (.int inp.length) → σ' r = some (.list (O.map .str)) → Ge σ₀ σ' → Q .brk ρ' σ')
  (qn : ∀ n' ρ' σ', n' < Gr.length + 1 → JI2 star r O inp ρ₀ σ₀ n' ρ' σ' → Q .next ρ' σ') : joB ρ σ Q X := by
 have g0 := (f6 0 (by decide) (by decide)).trans h0
 have g1 := (f6 1 (by decide) (by decide)).trans h1
 have g3 := (f6 3 (by decide) (by decide)).trans h3
 have g5 := (f6 5 (by decide) (by decide)).trans h5
 have ga := f13 _ _ ha
 have hx : inp[pos]? = some (.ref star) := by rw [tailIn_cons] at f3; have := congrArg (·[0]?) f3; simpa using this
 have hlt := (List.getElem?_eq_some_iff.mp hx).1
 have hd1 : inp.drop (pos + 1) = F.map .str ++ tailIn star Gr := by rw [← List.drop_drop, f3, tailIn_cons]; rfl
 have hacc : acc.length ≤ 999 := by
  have hto1 : 1 ≤ (tailOut (F :: Gr)).length := by cases Gr <;> simp [tailOut]; split <;> simp
  have := congrArg List.length f5
  rw [List.length_append] at this; lia
 refine i_seq (i_assert (i_cmpB (i_itmVV g0 f10 (l_itemL pos ga rfl hx (i_V g1 (l_isRR (l_ass rfl (i_seq (i_aug f10 (i_K (l_iaddI (i_sif (i_cmpBVV rfl g5 (l_eqI ?_))))))))))))))
 by_cases hend : F = [] ∧ Gr = []
 ·obtain ⟨rfl, rfl⟩ := hend
  have hp : inp.length = pos + 1 := by have := congrArg List.length hd1; simp [tailIn] at this; lia
  rw [hp] at g5 qb ⊢
  refine i_t (by simp) (i_seq (jo_add g3 f12 (by lia) (fun QE h => h) (i_seq (i_brk (qb _ _ (fun j b c => (if_neg b).trans (f6 j b c)) rfl ?_ (fun p m e => put_ne (fun z => by rw [z, hn] at e; cases e) (f13 p m e)))))))
  rw [put_self, ← f5]; rfl
 have hFne : F ≠ [] := by
  intro z; subst z
  cases Gr with
  | nil => exact hend ⟨rfl, rfl⟩
  | cons _ _ => exact f1.1 rfl
 have hp1 : pos + 1 + F.length ≤ inp.length := by have := congrArg List.length hd1; simp at this; lia
 have hd2 : inp.drop (pos + 1 + F.length) = tailIn star Gr := by rw [← List.drop_drop, hd1]; simp
 have hFp := List.length_pos_iff.mpr hFne
 have hy : ∃ y, inp[pos + 1]? = some (.str y) := by
  obtain ⟨y, F', rfl⟩ := List.exists_cons_of_ne_nil hFne
  exact ⟨y, by have := congrArg (·[0]?) hd1; simpa using this⟩
 obtain ⟨y, hy⟩ := hy
 refine i_f (by rw [decide_eq_false (by lia)]; rfl) (i_nil (i_seq (i_assert (i_cmpB (i_itmVV g0 rfl (l_itemL (pos + 1) ga rfl hy (i_V g1 (l_isSR (l_ass rfl (i_sset (i_lst (i_pnil (l_sz (by decide) fun fx hfx => ?_)))))))))))))
 have hrf : r ≠ fx := ne_of_none f12 hfx
 have haf : a ≠ fx := ne_of_none ga hfx
 have hfn := f13.new hfx
 refine i_seq (jo_run (sx := F) (pos := pos + 1) (r := fx) g0 g1 rfl g5 (put_ne haf ga) (put_self ..) haf hd1 (by cases Gr with | nil => exact .inl rfl | cons G r' => exact .inr ⟨_, tailIn_cons ..⟩) hz (jo_s2 g0 rfl) fun ρ1 σ1 w1 w2 w3 w4 => i_sset (jo_join w3 (by lia) (f2 F List.mem_cons_self) ?_ fun QE h => i_V ((w1 6 (by decide)).trans rfl) h))
 have u1 : Ge σ₀ σ1 := w4.ge (f13.put hfx _) hfn
 refine i_seq (jo_if (star := star) (Gr := Gr) hFne ((w1 3 (by decide)).trans g3) w2 ((w1 5 (by decide)).trans g5) rfl hd2 hp1 (w4 _ _ hrf (put_ne hrf f12)) hacc (f2 F List.mem_cons_self) fun acc' σ2 e2 l2 u2 => i_nil (qn Gr.length _ σ2 (Nat.lt_succ_self _) ⟨acc', Gr, _, rfl, f1.tail, fun G hG => f2 G (List.mem_cons_of_mem _ hG), hd2, hp1, by rw [← f5, e2], fun j b c => ?_, w2, l2, u2.ge u1 hn⟩))
 refine (if_neg c).trans ((w1 j b).trans ((if_neg c).trans ((if_neg b).trans (f6 j b c))))
end
theorem sp_joinp (ms : List MV) (σ : Sto) (Q : MV → Sto → Prop) (X : Sto → Prop) (h : S_joinp ms σ Q X) : ms.length = 2 ∧ P_joinp (args ms) σ (retQ Q) (fun _ => False) := by
 obtain ⟨a, star, F0, Fs, rfl, ha, hok, hn, hB, hF, hO, q⟩ := h
 refine ⟨rfl, ?_⟩
 delta P_joinp
 walk_at "e"
 intro r hr
 have hra : a ≠ r := ne_of_none ha hr
 have ha1 := put_ne (mo := .list []) hra ha
 have hg := (Ge.refl σ).put hr (.list [])
 refine i_sset (i_bm (i_V rfl (l_bm (put_self ..) (i_seq (i_swap (i_tup (i_conK (i_pcons (i_calBV rfl (l_lenL ha1 (i_pnil (l_sz (show 2 ≤ sizeLine by decide) (l_exT (l_swap2 (i_seq ?_)))))))))))))))
 generalize hinp : F0.map MV.str ++ tailIn star Fs = inp at *
 refine jo_run (sx := F0) (tl := tailIn star Fs) (pos := 0) (r := r) rfl rfl rfl rfl ha1 (put_self ..) hra hinp.symm (by cases Fs with | nil => exact .inl rfl | cons F r' => exact .inr ⟨_, tailIn_cons ..⟩) hn (jo_s1 rfl rfl) fun ρ1 σ1 w1 w2 w3 w4 => i_seq ?_
 have hg1 : Ge σ σ1 := w4.ge hg hr
 have fin : ∀ ρ' σ', (∀ j, j ≠ 4 → j ≠ 6 → ρ' j = ρ1 j) → ρ' 4 = some (.int inp.length) → σ' r = some (.list ((F0 ++ tailOut Fs).map .str)) → Ge σ σ' → sSeq (sAssert (pCmpB (cEq false) (pV 4) (pV 5))) (sSeq (sSet 2 (pMeth "str" mJoin (pK (.str [])) (pCons (pV 2) (pNil)))) (sSeq (sRet (pFstr [40, 63, 115, 58] [41, 92, 90] (pV 2))) (sNil))) ρ' σ' (retQ Q) fun _ => False := fun ρ' σ' x1 x2 x3 x4 =>
  i_seq (i_assert (i_cmpBVV x2 ((x1 5 (by decide) (by decide)).trans ((w1 5 (by decide)).trans rfl)) (l_eqI (l_ass (by rw [decide_eq_true rfl]; rfl) (i_sset (jo_join x3 (Nat.le_trans hO (by decide)) hB (i_sret (i_fstr (i_V rfl (i_fstrS (by lia) (q σ' x4))))) fun QE h => i_V ((x1 2 (by decide) (by decide)).trans ((w1 2 (by decide)).trans rfl)) h))))))
 refine i_while (JI2 star r (F0 ++ tailOut Fs) inp ρ1 σ) Fs.length ⟨F0, Fs, F0.length, rfl, hok, hF, by rw [← hinp]; simp, by rw [← hinp]; simp, rfl, fun _ _ _ => rfl, w2.trans (by rw [Nat.zero_add]), w3, hg1⟩ ?_
 rintro n ρ' σ' ⟨acc, Gs, pos, rfl, f1, f2, f3, f4, f5, f6, f10, f12, f13⟩
 have g5 := (f6 5 (by decide) (by decide)).trans ((w1 5 (by decide)).trans rfl)
 cases Gs with
 | nil =>
  have hpe : pos = inp.length := Nat.le_antisymm f4 (List.drop_eq_nil_iff.mp f3)
  subst hpe
  refine i_cmpBVV f10 g5 (l_ltI (i_f (decide_eq_false (Int.lt_irrefl _)) (fin ρ' σ' f6 f10 ?_ f13)))
  rw [f12, ← f5]; simp [tailOut]
 | cons F Gr =>
  have hlt : pos < inp.length := by have := congrArg List.length f3; rw [tailIn_cons, List.length_drop, List.length_cons] at this; lia
  refine i_cmpBVV f10 g5 (l_ltI (i_t (decide_eq_true (Int.ofNat_lt.mpr hlt)) (jo_turn (ρ₀ := ρ1) (a := a) ((w1 0 (by decide)).trans rfl) ((w1 1 (by decide)).trans rfl) ((w1 3 (by decide)).trans rfl) ((w1 5 (by decide)).trans rfl) ha hr hn hO f1 f2 f3 f5 f6 f10 f12 f13 (fun ρ2 σ2 x1 x2 x3 x4 => fin ρ2 σ2 x1 x2 x3 x4) fun n' ρ2 σ2 hn' J => ⟨n', hn', J⟩)))
noncomputable def segs : List Pc → List (List Nat) × List (List (List Nat))
 | [] => ([], [])
 | (_, some s) :: r => (s :: (segs r).1, (segs r).2)
 | (_, none) :: r => if (segs r).1 = [] ∧ (segs r).2 ≠ [] then ([], (segs r).2) else ([], (segs r).1 :: (segs r).2)
theorem segs_none (p : List Nat) (r : List Pc) : segs ((p, none) :: r) = if (segs r).1 = [] ∧ (segs r).2 ≠ [] then ([], (segs r).2) else ([], (segs r).1 :: (segs r).2) := rfl
noncomputable def textOf (pcs : List Pc) : List Nat := [40, 63, 115, 58] ++ ((segs pcs).1 ++ tailOut (segs pcs).2).flatten ++ [41, 92, 90]
set_option tactic.hygienic true
theorem segs_ok : ∀ pcs : List Pc, SegOk (segs pcs).2
 | [] => trivial
 | (_, some s) :: r => segs_ok r
 | (_, none) :: r => by
  have ih := segs_ok r
  rw [segs_none]
  split
  ·exact ih
  ·rename_i h
   generalize segs r = z at *
   obtain ⟨F, Fs⟩ := z
   cases Fs with
   | nil => trivial
   | cons G Fs => exact ⟨fun e => h ⟨e, by simp⟩, ih⟩
set_option tactic.hygienic false
set_option tactic.hygienic true
theorem parts_segs (star : Addr) : ∀ (pcs : List Pc) (acc : List MV), (∀ m ∈ acc, (∃ s, m = .str s) ∨ m = .ref star) →
  ((∀ b, acc.getLast? ≠ some (.ref b)) → pcs.foldl (addPc star) acc = acc ++ ((segs pcs).1.map MV.str ++ tailIn star (segs pcs).2)) ∧
  (acc.getLast? = some (.ref star) → pcs.foldl (addPc star) acc = acc ++ (if (segs pcs).1 = [] ∧ (segs pcs).2 ≠ [] then (tailIn star (segs pcs).2).tail else ((segs pcs).1.map MV.str ++ tailIn star (segs pcs).2)))
 | [], acc, hm => by simp [segs, tailIn]
 | (p, some s) :: r, acc, hm => by
  have hm' : ∀ m ∈ acc ++ [MV.str s], (∃ s, m = .str s) ∨ m = .ref star := by
   intro m h
   rcases List.mem_append.mp h with h | h
   ·exact hm m h
   ·simp at h; exact .inl ⟨_, h⟩
  have ih := (parts_segs star r (acc ++ [.str s]) hm').1 (by simp)
  have e : ((p, some s) :: r).foldl (addPc star) acc = acc ++ ((segs ((p, some s) :: r)).1.map MV.str ++ tailIn star (segs ((p, some s) :: r)).2) := by
   rw [List.foldl_cons]
   show r.foldl (addPc star) (acc ++ [.str s]) = _
   rw [ih]; simp [segs]
  refine ⟨fun _ => e, fun _ => ?_⟩
  rw [e, if_neg (by simp [segs])]
 | (p, none) :: r, acc, hm => by
  have hm' : ∀ m ∈ acc ++ [MV.ref star], (∃ s, m = .str s) ∨ m = .ref star := by
   intro m h
   rcases List.mem_append.mp h with h | h
   ·exact hm m h
   ·simp at h; exact .inr h
  constructor
  ·intro hl
   have e0 : addPc star acc (p, none) = acc ++ [.ref star] := by
    unfold addPc; dsimp only
    split
    ·rename_i b hb; exact absurd hb (hl b)
    ·rfl
   rw [List.foldl_cons, e0, (parts_segs star r _ hm').2 (by simp)]
   rw [segs_none]
   split
   ·rename_i h
    obtain ⟨G, Fs, hG⟩ := List.exists_cons_of_ne_nil h.2
    rw [hG]; simp [tailIn]
   ·simp [tailIn]
  ·intro hl
   have e0 : addPc star acc (p, none) = acc := by unfold addPc; simp [hl]
   rw [List.foldl_cons, e0, (parts_segs star r acc hm).2 hl]
   rw [segs_none]
   split
   ·rename_i h; simp [h.2]
   ·rename_i h; simp [tailIn]
set_option tactic.hygienic false
theorem parts_eq (star : Addr) (pcs : List Pc) : partsOf star pcs = (segs pcs).1.map MV.str ++ tailIn star (segs pcs).2 := by
 have := (parts_segs star pcs [] (by simp)).1 (by simp)
 simpa [partsOf] using this
noncomputable def mass (Fs : List (List (List Nat))) : Nat := (Fs.map fun F => F.flatten.length + 8).sum
theorem out_len : ∀ Fs : List (List (List Nat)), (tailOut Fs).flatten.length ≤ mass Fs ∧ (tailOut Fs).length ≤ 2 * Fs.length
 | [] => by simp [tailOut, mass]
 | [F] => by
  unfold tailOut; split
  ·simp [mass] <;> omega
  ·simp [mass] <;> omega
 | F :: G :: r => by have := out_len (G :: r); simp [tailOut, mass] at this ⊢; (subst_vars; omega)
set_option tactic.hygienic true
theorem segs_mass : ∀ pcs : List Pc, (∀ p ∈ pcs, p ∈ pcTab) → (segs pcs).1.flatten.length + mass (segs pcs).2 ≤ 13 * pcs.length ∧ (segs pcs).1.length + (segs pcs).2.length ≤ pcs.length ∧ ((segs pcs).1.map MV.str ++ tailIn 0 (segs pcs).2).length ≤ pcs.length
 | [], _ => by simp [segs, mass, tailIn]
 | (p, some s) :: r, h => by
  have ih := segs_mass r fun q hq => h q (List.mem_cons_of_mem _ hq)
  have hs : s.length ≤ 5 := by
   have : ∀ q ∈ pcTab, ∀ s, q.2 = some s → s.length ≤ 5 := by decide
   exact this _ (h _ List.mem_cons_self) s rfl
  simp [segs] at ih ⊢; lia
 | (p, none) :: r, h => by
  have ih := segs_mass r fun q hq => h q (List.mem_cons_of_mem _ hq)
  rw [segs_none]
  split
  ·rename_i hh; rw [hh.1] at ih; simp at ih ⊢; lia
  ·simp [mass, tailIn] at ih ⊢; grind
set_option tactic.hygienic false
def S_translate : FS := fun ms σ Q X => ∃ pcs, ms = [.str (patOf pcs)] ∧ (∀ p ∈ pcs, p ∈ pcTab) ∧ pcs.length ≤ 50 ∧ σ 78 = some .tab ∧ Val σ (.str (textOf pcs)) Q
noncomputable def nm_translate : List Str := ["pat", "STAR", "parts"]
def P_translate : PS := sSeq (sSet 1 (pObj)) (sSeq (sSet 2 (pCallS S_tr (pCons (pV 0) (pCons (pV 1) (pCons (pK (.str [46])) (pNil)))))) (sSeq (sRet (pCallS S_joinp (pCons (pV 2) (pCons (pV 1) (pNil))))) (sNil)))
theorem tailIn_len (a b : Addr) (Fs : List (List (List Nat))) : (tailIn a Fs).length = (tailIn b Fs).length := by
 unfold tailIn; simp [List.length_flatten, Function.comp_def]
theorem mass_mem {Fs : List (List (List Nat))} {F : List (List Nat)} (h : F ∈ Fs) : F.flatten.length ≤ mass Fs := by
 induction Fs with
 | nil => cases h
 | cons G r ih =>
  rcases List.mem_cons.mp h with rfl | h
  ·simp [mass]; lia
  ·have := ih h; simp [mass] at this ⊢; omega
theorem sp_translate (ms : List MV) (σ : Sto) (Q : MV → Sto → Prop) (X : Sto → Prop) (h : S_translate ms σ Q X) : ms.length = 1 ∧ P_translate (args ms) σ (retQ Q) (fun _ => False) := by
 obtain ⟨pcs, rfl, hpc, hn, h78, q⟩ := h
 refine ⟨rfl, ?_⟩
 delta P_translate
 walk_at "e"
 intro star hstar
 walk_at "e"
 refine ⟨pcs, star, rfl, hpc, by lia, h78, fun b σ' hge hb hl => ?_⟩
 walk_at "e"
 obtain ⟨m1, m2, m3⟩ := segs_mass pcs hpc
 obtain ⟨o1, o2⟩ := out_len (segs pcs).2
 have htl := tailIn_len 0 star (segs pcs).2
 refine ⟨b, star, (segs pcs).1, (segs pcs).2, rfl, by rw [hl, parts_eq], segs_ok pcs, ?_, ?_, ?_, ?_, fun σ'' hge' => ?_⟩
 ·simp only [List.length_append, List.length_map] at m3 ⊢; grind
 ·simp only [List.flatten_append, List.length_append]; lia
 ·intro F hF; have := mass_mem hF; (subst_vars; lia)
 ·simp only [List.length_append]; (subst_vars; grind only)
 ·exact q _ (hge.trans hge')
def WF (u : List Nat) : Prop := ∃ c, c < 128 ∧ ((u = [c] ∧ c ≠ 92) ∨ (u = [92, c] ∧ c ≠ 34))
noncomputable def placesGo : Nat → List (List Nat) → List MV
 | _, [] => []
 | i, u :: r => .tup [.int ((i + (u.length - 1) : Nat) : Int), .str u] :: placesGo (i + u.length) r
theorem esc_places : ∀ (us : List (List Nat)) (i : Nat), (∀ u ∈ us, WF u) → escGo us.flatten i false = placesGo i us
 | [], i, _ => rfl
 | u :: r, i, h => by
  have ih := fun j => esc_places r j fun v hv => h v (List.mem_cons_of_mem _ hv)
  obtain ⟨c, hc, ⟨rfl, h92⟩ | ⟨rfl, h34⟩⟩ := h u List.mem_cons_self
  ·simp [escGo, placesGo, h92, ih]
  ·simp [escGo, placesGo, ih]
theorem esc_end : ∀ (us : List (List Nat)), (∀ u ∈ us, WF u) → escEnd us.flatten false = false
 | [], _ => rfl
 | u :: r, h => by
  have ih := esc_end r fun v hv => h v (List.mem_cons_of_mem _ hv)
  obtain ⟨c, hc, ⟨rfl, h92⟩ | ⟨rfl, h34⟩⟩ := h u List.mem_cons_self
  ·simp [escEnd, h92, ih]
  ·simp [escEnd, ih]
theorem flat_ascii (us : List (List Nat)) (h : ∀ u ∈ us, WF u) : ∀ c ∈ us.flatten, c < 128 := by
 intro c hc
 obtain ⟨u, hu, hcu⟩ := List.mem_flatten.mp hc
 obtain ⟨d, hd, ⟨rfl, _⟩ | ⟨rfl, _⟩⟩ := h u hu
 ·simp at hcu; (subst_vars; omega)
 ·simp at hcu; (subst_vars; lia)
theorem flat_quote (us : List (List Nat)) (h : ∀ u ∈ us, WF u) : 34 ∈ us.flatten ↔ [34] ∈ us := by
 constructor
 ·intro hc
  obtain ⟨u, hu, hcu⟩ := List.mem_flatten.mp hc
  obtain ⟨d, hd, ⟨rfl, _⟩ | ⟨rfl, h34⟩⟩ := h u hu
  ·simp at hcu; subst hcu; exact hu
  ·simp at hcu; (subst_vars; omega)
 ·intro hu; exact List.mem_flatten.mpr ⟨_, hu, by simp⟩
mutual
noncomputable def keepU : List (List Nat) → List (List Nat)
 | [] => []
 | u :: r => if u = [34] then (if [34] ∈ r then inU r else u :: r) else u :: keepU r
noncomputable def inU : List (List Nat) → List (List Nat)
 | [] => []
 | u :: r => if u = [34] then keepU r else inU r
end
theorem keep_cons {u : List Nat} {r : List (List Nat)} (h : u ≠ [34]) : keepU (u :: r) = u :: keepU r := by rw [keepU, if_neg h]
theorem keep_q1 {r : List (List Nat)} (h : [34] ∈ r) : keepU ([34] :: r) = inU r := by rw [keepU, if_pos rfl, if_pos h]
theorem keep_q0 {r : List (List Nat)} (h : [34] ∉ r) : keepU ([34] :: r) = [34] :: r := by rw [keepU, if_pos rfl, if_neg h]
theorem in_cons {u : List Nat} {r : List (List Nat)} (h : u ≠ [34]) : inU (u :: r) = inU r := by rw [inU, if_neg h]
theorem in_q (r : List (List Nat)) : inU ([34] :: r) = keepU r := by rw [inU, if_pos rfl]
theorem keep_none : ∀ us : List (List Nat), [34] ∉ us → keepU us = us
 | [], _ => by unfold keepU; rfl
 | u :: r, h => by
  have h1 : u ≠ [34] := fun e => h (by simp [e])
  unfold keepU
  rw [if_neg h1, keep_none r fun e => h (List.mem_cons_of_mem _ e)]
theorem keep_len : ∀ us : List (List Nat), (keepU us).flatten.length ≤ us.flatten.length ∧ (inU us).flatten.length ≤ us.flatten.length
 | [] => by unfold keepU inU; simp
 | u :: r => by
  have ih := keep_len r
  constructor
  ·unfold keepU
   split
   ·split <;> simp only [List.flatten_cons, List.length_append] <;> lia
   ·simp only [List.flatten_cons, List.length_append]; (subst_vars; lia)
  ·unfold inU
   split <;> simp only [List.flatten_cons, List.length_append] <;> lia
theorem contains_one (x : List Nat) (c : Nat) : Txt.contains (toS x) (toS [c]) = decide (c ∈ x) := by
 have := StrLaws.found_one (toS x) c
 simpa [Txt.contains] using this
theorem take_more (l : List Nat) (st i : Nat) (u rest : List Nat) (h : l.drop i = u ++ rest) (hst : st ≤ i) : (l.drop st).take (i + u.length - st) = (l.drop st).take (i - st) ++ u := by
 rw [show i + u.length - st = (i - st) + u.length by omega, List.take_add, List.drop_drop, show st + (i - st) = i by grind, h]
 simp
def S_strip : FS := fun ms σ Q X => ∃ us, ms = [.str us.flatten] ∧ (∀ u ∈ us, WF u) ∧ us.flatten.length ≤ 10000 ∧ Val σ (.str (keepU us).flatten) Q
noncomputable def nm_strip : List Str := ["addr", "start", "open_pos", "result", "pos", "ch"]
def P_strip : PS := sSeq (sIf (pCmpB (cIn true) (pK (.str [34])) (pV 0)) (sSeq (sRet (pV 0)) (sNil)) (sNil)) (sSeq (sSet 1 (pK (.int 0))) (sSeq (sSet 2 (pK .none)) (sSeq (sSet 3 (pLst (pNil))) (sSeq (sForG (tTup (tCons (tV 4) (tCons (tV 5) (tNil)))) (sSeq (sIf (pCmpB (cEq false) (pV 5) (pK (.str [34]))) (sSeq (sIf (pCmpB (cIs false) (pV 2) (pK .none)) (sSeq (sSet 2 (pV 4)) (sNil)) (sSeq (sIf (pCmpB (cEq true) (pV 1) (pV 2)) (sSeq (sExpr (pMeth "list" mAppend (pV 3) (pCons (pSlc (pV 0) (pV 1) (pV 2)) (pNil)))) (sNil)) (sNil)) (sSeq (sSet 1 (pBin oAdd (pV 4) (pK (.int 1)))) (sSeq (sSet 2 (pK .none)) (sNil))))) (sNil)) (sNil)) (sNil)) (pV 0)) (sSeq (sIf (pCmpB cLt (pV 1) (pCallB fLen (pCons (pV 0) (pNil)))) (sSeq (sExpr (pMeth "list" mAppend (pV 3) (pCons (pSlc (pV 0) (pV 1) (pK .none)) (pNil)))) (sNil)) (sNil)) (sSeq (sRet (pMeth "str" mJoin (pK (.str [])) (pCons (pV 3) (pNil)))) (sNil)))))))
theorem forGo_pl {T : PT} {B : PS} {ok : Sto → Prop} {Q : MF → Loc → Sto → Prop} (I : List (List Nat) → Nat → Loc → Sto → Prop)
  (step : ∀ u r i ρ σ (G : Loc → Sto → Prop), (∀ ρ σ, I r (i + u.length) ρ σ → G ρ σ) → I (u :: r) i ρ σ → T (.tup [.int ((i + (u.length - 1) : Nat) : Int), .str u]) ρ fun ρ₁ => B ρ₁ σ (kFB ok G Q) fun _ => False)
  (hend : ∀ i ρ σ, I [] i ρ σ → Q .next ρ σ) (us : List (List Nat)) : ∀ (i : Nat) (ρ : Loc) (σ : Sto), I us i ρ σ → forGo T B ok (placesGo i us) ρ σ Q := by
 induction us with
 | nil => exact fun i ρ σ h => hend i ρ σ h
 | cons u r ih => exact fun i ρ σ h => step u r i ρ σ (fun ρ σ => forGo T B ok (placesGo (i + u.length) r) ρ σ Q) (fun ρ σ h => ih _ ρ σ h) h
section
variable {x tg u : List Nat} {us L : List (List Nat)} {r : Addr} {i st o : Nat} {ρ : Loc} {σ σ₀ : Sto} {Q : MF → Loc → Sto → Prop} {QE : MV → Sto → Prop} {X : Sto → Prop}
inductive StO (x tg : List Nat) (us : List (List Nat)) (i st : Nat) (L : List (List Nat)) (v : Option MV) : Prop
 | out (h : v = some .none) (e : L.flatten ++ ((x.drop st).take (i - st) ++ (keepU us).flatten) = tg)
 | within (o : Nat) (h : v = some (.int (o : Nat))) (ho : st ≤ o) (ho' : o < i) (e1 : [34] ∈ us → L.flatten ++ ((x.drop st).take (o - st) ++ (inU us).flatten) = tg) (e0 : [34] ∉ us → L.flatten ++ x.drop st = tg)
inductive IP1 (x tg : List Nat) (r : Addr) (σ₀ : Sto) (us : List (List Nat)) (i : Nat) (ρ : Loc) (σ : Sto) : Prop
 | mk (st : Nat) (L : List (List Nat)) (f1 : x.drop i = us.flatten) (f2 : i ≤ x.length) (f3 : ∀ u ∈ us, WF u) (f4 : st ≤ i) (f5 : L.length ≤ i) (f6 : ρ 0 = some (.str x)) (f7 : ρ 1 = some (.int st)) (f8 : ρ 3 = some (.ref r)) (f9 : σ r = some (.list (L.map .str))) (f10 : Ge σ₀ σ) (f11 : StO x tg us i st L (ρ 2))
theorem st_same (h : u ≠ [34]) (hd : x.drop i = u ++ us.flatten) (hst : st ≤ i) {v : Option MV} (H : StO x tg (u :: us) i st L v) : StO x tg us (i + u.length) st L v := by
 have hk3 : [34] ∈ u :: us ↔ [34] ∈ us := by rw [List.mem_cons]; exact ⟨fun z => z.resolve_left (Ne.symm h), .inr⟩
 rcases H with ⟨h2, e⟩ | ⟨o, h2, a, b, e1, e0⟩
 ·refine .out h2 ?_
  rw [take_more x st i u _ hd hst, ← e, keep_cons h]; simp
 ·refine .within o h2 a (Nat.lt_of_lt_of_le b (Nat.le_add_right _ _)) (fun hm => ?_) fun hm => e0 fun hm' => hm (hk3.mp hm')
  rw [← e1 (hk3.mpr hm), in_cons h]
abbrev stIf : PS := sIf (pCmpB (cEq true) (pV 1) (pV 2)) (sSeq (sExpr (pMeth "list" mAppend (pV 3) (pCons (pSlc (pV 0) (pV 1) (pV 2)) (pNil)))) (sNil)) (sNil)
theorem st_cut {R : PS} (h0 : ρ 0 = some (.str x)) (h1 : ρ 1 = some (.int st)) (h2 : ρ 2 = some (.int o)) (h3 : ρ 3 = some (.ref r)) (hl : σ r = some (.list (L.map .str))) (hz : x.length ≤ 10000) (hL : L.length ≤ 10000) (ho : st ≤ o) (hx : o ≤ x.length)
  (q : ∀ (L' : List (List Nat)) σ', L'.length ≤ L.length + 1 → L'.flatten = L.flatten ++ (x.drop st).take (o - st) → σ' r = some (.list (L'.map .str)) → Up r σ σ' → R ρ σ' Q X) : sSeq stIf R ρ σ Q X := by
 refine i_sif (i_cmpBVV h1 h2 (l_eqI ?_))
 by_cases hso : st = o
 ·subst hso
  exact i_f (by rw [decide_eq_true rfl]; rfl) (i_nil (q L σ (Nat.le_succ _) (by simp) hl ((Ge.refl σ).up r)))
 ·refine i_t (by rw [decide_eq_false (by lia)]; rfl) (i_exprl (i_methV h3 (l_kindL hl (i_pcons (i_slc (i_V h0 (i_V h1 (i_V h2 (l_slcS (a := st) (b := o) (by rw [szL]; lia) rfl rfl ho hx (i_pnil (l_kindL hl (l_append hl (by rw [List.length_map, szL]; lia) ?_))))))))))))
  exact q (L ++ [(x.drop st).take (o - st)]) _ (by rw [List.length_append]; exact Nat.le_refl _) (by simp) (by rw [put_self, List.map_append]; rfl) (Up.put _ _ _)
abbrev stB : PS := sSeq (sIf (pCmpB (cEq false) (pV 5) (pK (.str [34]))) (sSeq (sIf (pCmpB (cIs false) (pV 2) (pK .none)) (sSeq (sSet 2 (pV 4)) (sNil)) (sSeq stIf (sSeq (sSet 1 (pBin oAdd (pV 4) (pK (.int 1)))) (sSeq (sSet 2 (pK .none)) (sNil))))) (sNil)) (sNil)) (sNil)
theorem st_turn {G : Loc → Sto → Prop} (hr : σ₀ r = none) (hz : x.length ≤ 10000) (hG : ∀ ρ σ, IP1 x tg r σ₀ us (i + u.length) ρ σ → G ρ σ) (H : IP1 x tg r σ₀ (u :: us) i ρ σ) : stB (upd (upd ρ 4 (.int ((i + (u.length - 1) : Nat) : Int))) 5 (.str u)) σ (kFB (fun _ => True) G Q) X := by
 obtain ⟨st, L, hdr, hi, hwf, hst, hL, h0, h1, h3, hl, hge, hop⟩ := H
 have hu := hwf u List.mem_cons_self
 have hul : 1 ≤ u.length := by obtain ⟨c, _, ⟨rfl, _⟩ | ⟨rfl, _⟩⟩ := hu <;> simp
 rw [List.flatten_cons] at hdr
 have hi2 : i + u.length ≤ x.length := by have := congrArg List.length hdr; simp at this; grind only
 have hdr2 : x.drop (i + u.length) = us.flatten := by rw [← List.drop_drop, hdr]; simp
 have hw2 : ∀ v ∈ us, WF v := fun v hv => hwf v (List.mem_cons_of_mem _ hv)
 refine i_sif (i_cmpBVK rfl (l_eqS ?_))
 by_cases h34 : u = [34]
 ·subst h34
  refine i_t (by rw [decide_eq_true rfl]; rfl) ?_
  rcases hop with ⟨h2, e⟩ | ⟨o, h2, ho1, ho2, e1, e0⟩
  ·refine i_sif (i_cmpBVK h2 (l_isNN (i_t rfl (i_setl (i_V rfl (i_nil (i_nil ⟨trivial, hG _ _ ⟨st, L, hdr2, hi2, hw2, Nat.le_succ_of_le hst, Nat.le_succ_of_le hL, h0, h1, h3, hl, hge, .within i rfl hst (Nat.lt_succ_self i) (fun hm => by rw [← e, keep_q1 hm]) fun hm => ?_⟩⟩)))))))
   rw [← e, keep_q0 hm]
   congr 1
   have e2 : x.drop st = (x.drop st).take (i - st) ++ x.drop i := by
    conv => lhs; rw [← List.take_append_drop (i - st) (x.drop st)]
    rw [List.drop_drop, Nat.add_sub_cancel' hst]
   rw [List.flatten_cons, ← hdr]; exact e2
  ·have e1' := e1 List.mem_cons_self
   rw [in_q] at e1'
   refine i_sif (i_cmpBVK h2 (l_isIN (i_f rfl (st_cut h0 h1 h2 h3 hl hz (Nat.le_trans hL (Nat.le_trans hi hz)) ho1 (Nat.le_of_lt (Nat.lt_of_lt_of_le ho2 hi)) fun L' σ' w1 w2 w3 w4 => i_sset (i_binVK rfl (l_addI (i_setl (i_K (i_nil (i_nil ⟨trivial, hG _ _ ⟨i + 1, L', hdr2, hi2, hw2, Nat.le_refl _, Nat.le_trans w1 (Nat.succ_le_succ hL), h0, rfl, h3, w3, w4.ge hge hr, .out rfl ?_⟩⟩))))))))))
   rw [w2, ← e1', List.append_assoc, show i + [34].length - (i + 1) = 0 from Nat.sub_self (i + 1)]; rfl
 ·exact i_f (by rw [decide_eq_false h34]; rfl) (i_nil (i_nil ⟨trivial, hG _ _ ⟨st, L, hdr2, hi2, hw2, Nat.le_trans hst (Nat.le_add_right _ _), Nat.le_trans hL (Nat.le_add_right _ _), h0, h1, h3, hl, hge, st_same h34 hdr hst hop⟩⟩))
end
theorem sp_strip (ms : List MV) (σ : Sto) (Q : MV → Sto → Prop) (X : Sto → Prop) (h : S_strip ms σ Q X) : ms.length = 1 ∧ P_strip (args ms) σ (retQ Q) (fun _ => False) := by
 obtain ⟨us, rfl, hwf, hz, q⟩ := h
 refine ⟨rfl, ?_⟩
 delta P_strip
 walk_at "e"
 refine .inl ⟨[34], us.flatten, rfl, rfl, ?_⟩
 rw [show Txt.contains ⟨us.flatten.toArray⟩ ⟨#[34]⟩ = decide (34 ∈ us.flatten) from contains_one _ _]
 by_cases hq : [34] ∈ us
 ·rw [decide_eq_true ((flat_quote us hwf).mpr hq)]
  walk_at "e"
  intro r hr
  refine i_seq (i_forG (i_V rfl ⟨_, rfl, flat_ascii us hwf, by rw [szL]; lia, esc_end us hwf, ?_⟩))
  rw [esc_places us 0 hwf]
  have hkl := (keep_len us).1
  refine forGo_pl (IP1 us.flatten (keepU us).flatten r σ) ?_ ?_ us 0 _ _ ⟨0, [], rfl, Nat.zero_le _, hwf, Nat.le_refl _, Nat.le_refl _, rfl, rfl, rfl, put_self .., (Ge.refl σ).put hr _, .out rfl rfl⟩
  ·exact fun u rs i ρ σ' G hG H => l_tup2 (st_turn hr hz hG H)
  ·rintro i ρ σ' ⟨st, L, hdr, hi, hwf', hst, hL, h0, h1, h3, hl, hge, hop⟩
   generalize us.flatten = x at *
   generalize htg : (keepU us).flatten = tg at *
   have hil : i = x.length := Nat.le_antisymm hi (List.drop_eq_nil_iff.mp hdr)
   subst hil
   have hfin : L.flatten ++ x.drop st = tg := by
    rcases hop with ⟨h2, e⟩ | ⟨o, h2, ho1, ho2, e1, e0⟩
    ·rw [← e, List.take_of_length_le (by rw [List.length_drop]; exact Nat.le_refl _)]; unfold keepU; simp
    ·exact e0 (by simp)
   have hlz : x.length ≤ sizeLine := by rw [szL]; lia
   have hLz : (L.map MV.str).length < sizeLine := by rw [List.length_map, szL]; lia
   refine i_sif (i_cmpB (i_V h1 (i_calBV h0 (l_lenS hlz (l_ltI ?_)))))
   by_cases hs : st < x.length
   ·have e2 : (L ++ [x.drop st]).flatten = tg := by rw [← hfin]; simp
    refine i_t (decide_eq_true (Int.ofNat_lt.mpr hs)) (i_exprl (i_methV h3 (l_kindL hl (i_pcons (i_slc (i_V h0 (i_V h1 (i_K (l_slcF (a := st) hlz rfl (i_pnil (l_kindL hl (l_append hl hLz (i_sret (jo_join (l := L ++ [x.drop st]) ?_ ?_ ?_ ?_ fun QE h => i_V h3 h))))))))))))))
    ·rw [put_self, List.map_append]; rfl
    ·rw [List.length_append]; simp; lia
    ·rw [e2]; lia
    ·rw [e2]; exact q _ (fun p m e => put_ne (ne_of_none e hr) (hge p m e))
   ·rw [List.drop_of_length_le (Nat.le_of_not_lt hs), List.append_nil] at hfin
    refine i_f (decide_eq_false fun z => hs (Int.ofNat_lt.mp z)) (i_nil (i_sret (jo_join hl (by lia) (by rw [hfin]; lia) (by rw [hfin]; exact q _ hge) fun QE h => i_V h3 h)))
 ·rw [decide_eq_false fun h => hq ((flat_quote us hwf).mp h)]
  rw [keep_none us hq] at q
  walk_at "e"
  exact q _ (Ge.refl _)
theorem keep_mem : ∀ (us : List (List Nat)) (u : List Nat), (u ∈ keepU us → u ∈ us) ∧ (u ∈ inU us → u ∈ us)
 | [], u => by rw [keepU, inU]; simp
 | v :: r, u => by
  have ih := keep_mem r u
  by_cases hv : v = [34]
  ·subst hv
   rw [in_q]
   by_cases hm : [34] ∈ r
   ·rw [keep_q1 hm]; exact ⟨fun h => List.mem_cons_of_mem _ (ih.2 h), fun h => List.mem_cons_of_mem _ (ih.1 h)⟩
   ·rw [keep_q0 hm]; exact ⟨id, fun h => List.mem_cons_of_mem _ (ih.1 h)⟩
  ·rw [keep_cons hv, in_cons hv]
   refine ⟨fun h => ?_, fun h => List.mem_cons_of_mem _ (ih.2 h)⟩
   rcases List.mem_cons.mp h with rfl | h
   ·exact List.mem_cons_self
   ·exact List.mem_cons_of_mem _ (ih.1 h)
noncomputable def cntU : List (List Nat) → Int → Bool
 | [], d => decide (d = 0)
 | u :: r, d => if u = [40] then cntU r (d + 1) else if u = [41] then (if d - 1 < 0 then false else cntU r (d - 1)) else cntU r d
def S_paren : FS := fun ms σ Q X => ∃ us, ms = [.str us.flatten] ∧ (∀ u ∈ us, WF u) ∧ us.flatten.length ≤ 10000 ∧ Val σ (.bool (cntU (keepU us) 0)) Q
noncomputable def nm_paren : List Str := ["addr", "opens", "pos", "ch"]
def P_paren : PS := sSeq (sSet 0 (pCallS S_strip (pCons (pV 0) (pNil)))) (sSeq (sSet 1 (pK (.int 0))) (sSeq (sForG (tTup (tCons (tV 2) (tCons (tV 3) (tNil)))) (sSeq (sIf (pCmpB (cEq false) (pV 3) (pK (.str [40]))) (sSeq (sAug oIAdd 1 (pK (.int 1))) (sNil)) (sSeq (sIf (pCmpB (cEq false) (pV 3) (pK (.str [41]))) (sSeq (sAug oISub 1 (pK (.int 1))) (sSeq (sIf (pCmpB cLt (pV 1) (pK (.int 0))) (sSeq (sRet (pK (.bool false))) (sNil)) (sNil)) (sNil))) (sNil)) (sNil))) (sNil)) (pV 0)) (sSeq (sRet (pCmp (cEq false) (pV 1) (pK (.int 0)))) (sNil))))
inductive IQ1 (b : Bool) (σ0 : Sto) (ks : List (List Nat)) (i : Nat) (ρ : Loc) (σ : Sto) : Prop
 | mk (d : Int) (e : σ = σ0) (hd : 0 ≤ d) (h1 : ρ 1 = some (.int d)) (hc : cntU ks d = b)
theorem sp_paren (ms : List MV) (σ : Sto) (Q : MV → Sto → Prop) (X : Sto → Prop) (h : S_paren ms σ Q X) : ms.length = 1 ∧ P_paren (args ms) σ (retQ Q) (fun _ => False) := by
 obtain ⟨us, rfl, hwf, hz, q⟩ := h
 refine ⟨rfl, ?_⟩
 have hkl := (keep_len us).1
 have hkw : ∀ u ∈ keepU us, WF u := fun u hu => hwf u ((keep_mem us u).1 hu)
 delta P_paren
 walk_at "e"
 refine ⟨us, rfl, hwf, hz, fun σ0 hge0 => ?_⟩
 have q := q _ hge0
 generalize keepU us = ks at *
 walk_at "e"
 refine ⟨_, rfl, flat_ascii ks hkw, by walk_at "z", esc_end ks hkw, ?_⟩
 rw [esc_places ks 0 hkw]
 refine forGo_pl (IQ1 (cntU ks 0) σ0) ?_ ?_ ks 0 _ _ ⟨0, rfl, by decide, rfl, rfl⟩
 ·rintro u r i ρ σ' G hG ⟨d, rfl, hd, h1, hc⟩
  generalize cntU ks 0 = b at *
  rw [cntU] at hc
  by_cases h40 : u = [40]
  ·subst h40
   rw [if_pos rfl] at hc
   walk_at "e"
   exact ⟨trivial, hG _ _ ⟨d + 1, rfl, by lia, rfl, hc⟩⟩
  ·rw [if_neg h40] at hc
   by_cases h41 : u = [41]
   ·subst h41
    by_cases hn : d - 1 < 0
    ·rw [if_pos rfl, if_pos hn] at hc
     walk_at "e"
     rw [← hc] at q
     exact q
    ·rw [if_pos rfl, if_neg hn] at hc
     walk_at "e"
     exact ⟨trivial, hG _ _ ⟨d - 1, rfl, by walk_at "q", rfl, hc⟩⟩
   ·rw [if_neg h41] at hc
    walk_at "e"
    exact ⟨trivial, hG _ _ ⟨d, rfl, hd, h1, hc⟩⟩
 ·rintro i ρ σ' ⟨d, rfl, hd, h1, hc⟩
  rw [← hc] at q
  exact i_sret (i_cmp (i_V h1 (i_K (l_eqI (by rw [Bool.xor_false]; exact q)))))
noncomputable def stGo (marks : Nat) : Nat → List Unt → List Stp2
 | _, [] => []
 | h, (u, k) :: r => if u = [34] then stGo marks (h + 1) r else if (u = [40] ∨ u = [41]) ∧ (h % 2 = 0 ∨ h = marks) then (if u = [40] then 1 else -1, k) :: stGo marks h r else stGo marks h r
noncomputable def marksOf (us : List Unt) : Nat := (us.filter fun u => u.1 = [34]).length
noncomputable def stepsOf (us : List Unt) : List Stp2 := stGo (marksOf us) 0 us
def S_steps : FS := fun ms σ Q X => ∃ a us, ms = [.ref a] ∧ σ a = some (.list (us.map unitMV)) ∧ us.length ≤ 1000 ∧ NewL σ ((stepsOf us).map stepMV) Q
noncomputable def nm_steps : List Str := ["units", "marks", "steps", "ahead", "unit", "k"]
def P_steps : PS := sSeq (sSet 1 (pCallB fLen (pCons (pComp [6, 7] (tTup (tCons (tV 6) (tCons (tV 7) (tNil)))) (pCmpB (cEq false) (pV 6) (pK (.str [34]))) (pK (.int 1)) (pV 0)) (pNil)))) (sSeq (sSwap (tCons (tV 3) (tCons (tV 2) (tNil))) (pTup (pCons (pLst (pNil)) (pCons (pK (.int 0)) (pNil))))) (sSeq (sFor (tTup (tCons (tV 4) (tCons (tV 5) (tNil)))) (sSeq (sIf (pCmpB (cEq false) (pV 4) (pK (.str [34]))) (sSeq (sSet 3 (pBin oAdd (pV 3) (pK (.int 1)))) (sNil)) (sSeq (sIf (pAndB (pCmpB (cIn false) (pV 4) (pLst (pCons (pK (.str [40])) (pCons (pK (.str [41])) (pNil))))) (pAndB (pOrB (pCmpB (cEq false) (pBin oMod (pV 3) (pK (.int 2))) (pK (.int 0))) (pOrB (pCmpB (cEq false) (pV 3) (pV 1)) (pOrNil))) (pAndNil))) (sSeq (sExpr (pMeth "list" mAppend (pV 2) (pCons (pTup (pCons (pIf (pCmpB (cEq false) (pV 4) (pK (.str [40]))) (pK (.int 1)) (pNeg (pK (.int 1)))) (pCons (pV 5) (pNil)))) (pNil)))) (sNil)) (sNil)) (sNil))) (sNil)) (pV 0)) (sSeq (sRet (pV 2)) (sNil))))
theorem stGo_len (m : Nat) : ∀ (us : List Unt) (h : Nat), (stGo m h us).length ≤ us.length
 | [], h => by simp [stGo]
 | (u, k) :: r, h => by
  have a := stGo_len m r h; have b := stGo_len m r (h + 1)
  unfold stGo; repeat' split
  all_goals simp only [List.length_cons]; walk_at "q"
section
variable {a st : Addr} {m hd : Nat} {u : List Nat} {k : Int} {us : List Unt} {L : List Stp2} {ρ : Loc} {σ : Sto} {Q : MF → Loc → Sto → Prop} {QE : MV → Sto → Prop} {QB : Bool → Sto → Prop} {X : Sto → Prop}
theorem fmod2 (hd : Nat) : Int.fmod (hd : Int) 2 = ((hd % 2 : Nat) : Int) := by rw [Int.fmod_eq_emod_of_nonneg _ (by decide)]; rfl
abbrev stTst : PB := pAndB (pCmpB (cIn false) (pV 4) (pLst (pCons (pK (.str [40])) (pCons (pK (.str [41])) (pNil))))) (pAndB (pOrB (pCmpB (cEq false) (pBin oMod (pV 3) (pK (.int 2))) (pK (.int 0))) (pOrB (pCmpB (cEq false) (pV 3) (pV 1)) (pOrNil))) (pAndNil))
theorem steps_tst (h1 : ρ 1 = some (.int m)) (h3 : ρ 3 = some (.int hd)) (h4 : ρ 4 = some (.str u)) (q : ∀ σ', Ge σ σ' → QB (decide ((u = [40] ∨ u = [41]) ∧ (hd % 2 = 0 ∨ hd = m))) σ') : stTst ρ σ QB X := by
 refine i_andB (i_cmpB (i_V h4 (i_lst (i_conK (i_conK (i_pnil (l_sz (show 2 ≤ sizeLine by decide) fun c hc => l_inL (c := decide (u = [40] ∨ u = [41])) (put_self ..) (.inr ⟨⟨_, rfl⟩, by simp⟩) (by simp) ?_)))))))
 have q := q _ ((Ge.refl σ).put hc (.list [MV.str [40], MV.str [41]]))
 by_cases hu : u = [40] ∨ u = [41]
 ·rw [decide_eq_true hu]
  refine i_t rfl (i_andB (i_orB (i_cmpB (i_binVK h3 (l_modI (by decide) (i_K (l_eqI ?_)))))))
  rw [fmod2]
  by_cases hev : hd % 2 = 0
  ·rw [decide_eq_true ⟨hu, .inl hev⟩] at q
   exact i_t (by rw [hev]; rfl) (i_t rfl (i_andNil q))
  ·refine i_f (by rw [decide_eq_false (by lia)]; rfl) (i_orB (i_cmpBVV h3 h1 (l_eqI ?_)))
   by_cases hm : hd = m
   ·rw [decide_eq_true ⟨hu, .inr hm⟩] at q
    exact i_t (by rw [hm, decide_eq_true rfl]; rfl) (i_t rfl (i_andNil q))
   ·rw [decide_eq_false fun z => z.2.elim hev hm] at q
    exact i_f (by rw [decide_eq_false (by lia)]; rfl) (i_orNil (i_f rfl q))
 ·rw [decide_eq_false fun z => hu z.1] at q
  rw [decide_eq_false hu]
  exact i_f rfl q
abbrev stApp : PS := sExpr (pMeth "list" mAppend (pV 2) (pCons (pTup (pCons (pIf (pCmpB (cEq false) (pV 4) (pK (.str [40]))) (pK (.int 1)) (pNeg (pK (.int 1)))) (pCons (pV 5) (pNil)))) (pNil)))
theorem steps_app (h2 : ρ 2 = some (.ref st)) (h4 : ρ 4 = some (.str u)) (h5 : ρ 5 = some (.int k)) (hl : σ st = some (.list (L.map stepMV))) (hz : L.length ≤ 1000) (q : Q .next ρ (put σ st (.list ((L ++ [(if u = [40] then 1 else -1, k)]).map stepMV)))) : stApp ρ σ Q X := by
 have app : ∀ v : Int, v = (if u = [40] then 1 else -1) → pTup (pCons (pIf (pCmpB (cEq false) (pV 4) (pK (.str [40]))) (pK (.int 1)) (pNeg (pK (.int 1)))) (pCons (pV 5) (pNil))) ρ σ (kCon1 pNil ρ X (kMeth2 X (kExpr ρ Q) "list" mAppend (.ref st))) X := fun v hv => by
  have fin : kTup (kCon1 pNil ρ X (kMeth2 X (kExpr ρ Q) "list" mAppend (.ref st))) [.int v, .int k] σ := l_sz (show 2 ≤ sizeLine by decide) (i_pnil (l_kindL hl (l_append hl (by rw [List.length_map, szL]; lia) (by rw [List.map_append, ← hv] at q; exact q))))
  by_cases h : u = [40]
  ·rw [if_pos h] at hv
   subst hv
   exact i_tup (i_pcons (i_ifE (i_cmpBVK h4 (l_eqS (i_t (by rw [decide_eq_true h]; rfl) (i_K (i_con1V h5 fin)))))))
  ·rw [if_neg h] at hv
   subst hv
   exact i_tup (i_pcons (i_ifE (i_cmpBVK h4 (l_eqS (i_f (by rw [decide_eq_false h]; rfl) (i_neg (i_K (i_negI (i_con1V h5 fin)))))))))
 exact i_expr (i_methV h2 (l_kindL hl (i_pcons (app _ rfl))))
inductive IS1 (us : List Unt) (st : Addr) (σ₀ : Sto) (dn : List Unt) (ρ : Loc) (σ : Sto) : Prop
 | mk (hd : Nat) (L : List Stp2) (f1 : ∀ rs, us = dn ++ rs → L ++ stGo (marksOf us) hd rs = stepsOf us) (f2 : ρ 1 = some (.int (marksOf us))) (f3 : ρ 2 = some (.ref st)) (f4 : ρ 3 = some (.int hd)) (f5 : σ st = some (.list (L.map stepMV))) (f6 : Ge σ₀ σ) (f7 : L.length ≤ dn.length)
abbrev stBody : PS := sSeq (sIf (pCmpB (cEq false) (pV 4) (pK (.str [34]))) (sSeq (sSet 3 (pBin oAdd (pV 3) (pK (.int 1)))) (sNil)) (sSeq (sIf stTst (sSeq stApp (sNil)) (sNil)) (sNil))) (sNil)
theorem steps_turn {σ₀ : Sto} {dn : List Unt} {v : MO} {G : Loc → Sto → Prop} (ha : σ₀ a = some v) (hn : σ₀ st = none) (hz : dn.length ≤ 1000) (hG : ∀ ρ σ, IS1 us st σ₀ (dn ++ [(u, k)]) ρ σ → G ρ σ) (H : IS1 us st σ₀ dn ρ σ) : stBody (upd (upd ρ 4 (.str u)) 5 (.int k)) σ (kFB (fun σ' => σ' a = some v) G Q) X := by
 obtain ⟨hd, L, hL, h1, h2, h3, hl, hge, hle⟩ := H
 have hn1 : (dn ++ [(u, k)]).length = dn.length + 1 := by rw [List.length_append]; rfl
 have hL1 : ∀ rs, us = (dn ++ [(u, k)]) ++ rs → L ++ stGo (marksOf us) hd ((u, k) :: rs) = stepsOf us := fun rs e => hL _ (by rw [e, List.append_assoc]; rfl)
 refine i_sif (i_cmpBVK rfl (l_eqS ?_))
 by_cases h34 : u = [34]
 ·refine i_t (by rw [decide_eq_true h34]; rfl) (i_setl (i_binVK h3 (l_addI (i_nil ⟨hge _ _ ha, hG _ _ ⟨hd + 1, L, fun rs e => ?_, h1, h2, rfl, hl, hge, by rw [hn1]; exact Nat.le_succ_of_le hle⟩⟩))))
  rw [← hL1 rs e, stGo, if_pos h34]
 ·refine i_f (by rw [decide_eq_false h34]; rfl) (i_sif (steps_tst h1 h3 rfl fun σ1 g1 => ?_))
  have hl1 := g1 _ _ hl
  have hg1 := hge.trans g1
  by_cases hc : (u = [40] ∨ u = [41]) ∧ (hd % 2 = 0 ∨ hd = marksOf us)
  ·refine i_t (decide_eq_true hc) (i_seq (steps_app h2 rfl rfl hl1 (Nat.le_trans hle hz) (i_nil (i_nil (i_nil ⟨put_ne (ne_of_none ha hn) (hg1 _ _ ha), hG _ _ ⟨hd, L ++ [_], fun rs e => ?_, h1, h2, h3, put_self .., (Up.put st σ1 _).ge hg1 hn, by rw [List.length_append, hn1]; exact Nat.succ_le_succ hle⟩⟩)))))
   rw [← hL1 rs e, stGo, if_neg h34, if_pos hc, List.append_assoc]; rfl
  ·refine i_f (decide_eq_false hc) (i_nil (i_nil (i_nil ⟨hg1 _ _ ha, hG _ _ ⟨hd, L, fun rs e => ?_, h1, h2, h3, hl1, hg1, by rw [hn1]; exact Nat.le_succ_of_le hle⟩⟩)))
   rw [← hL1 rs e, stGo, if_neg h34, if_neg hc]
theorem steps_marks (h0 : ρ 0 = some (.ref a)) (h6 : ρ 6 = none) (h7 : ρ 7 = none) (ha : σ a = some (.list (us.map unitMV))) (hz : us.length ≤ 1000) (q : ∀ σ', Ge σ σ' → QE (.int (marksOf us)) σ') :
  pCallB fLen (pCons (pComp [6, 7] (tTup (tCons (tV 6) (tCons (tV 7) (tNil)))) (pCmpB (cEq false) (pV 6) (pK (.str [34]))) (pK (.int 1)) (pV 0)) (pNil)) ρ σ QE X := by
 refine i_callB (i_pcons (i_comp (i_V h0 ⟨fun i hi => ?_, l_iterL ha ⟨by rw [List.length_map, szL]; lia, compGo_filt _ (fun _ => MV.int 1) (fun u => decide (u.1 = [34])) us (fun u _ G N hT hF => l_tup2 (i_cmpBVK rfl (l_eqS ⟨ha, fun e => i_K ⟨ha, hT (by rw [← e, Bool.xor_false])⟩, fun e => hF (by rw [← e, Bool.xor_false])⟩))) fun b hb => i_pnil (l_lenL (put_self ..) ?_)⟩⟩)))
 ·rcases List.mem_cons.mp hi with rfl | hi
  ·exact h6
  ·rw [List.mem_singleton.mp hi]; exact h7
 ·rw [List.length_map]; exact q _ ((Ge.refl σ).put hb _)
end
theorem sp_steps (ms : List MV) (σ : Sto) (Q : MV → Sto → Prop) (X : Sto → Prop) (h : S_steps ms σ Q X) : ms.length = 1 ∧ P_steps (args ms) σ (retQ Q) (fun _ => False) := by
 obtain ⟨a, us, rfl, ha, hz, q⟩ := h
 refine ⟨rfl, ?_⟩
 delta P_steps
 refine i_sset (steps_marks rfl rfl rfl ha hz fun σ1 hg1 => i_seq (i_swap (i_tup (i_pcons (i_lst (i_pnil (l_sz (Nat.zero_le _) fun st hst => i_conK (i_pnil (l_sz (show 2 ≤ sizeLine by decide) (l_exT (l_swap2 (i_seq (i_for (i_V rfl (l_iterL ((hg1.put hst _) _ _ ha) (forGo_map unitMV us (IS1 us st σ) ?_ ?_ ⟨0, [], fun rs e => by rw [e]; rfl, rfl, rfl, rfl, put_self .., hg1.put hst _, Nat.le_refl _⟩))))))))))))))))
 ·rintro dn ⟨u, k⟩ rs e hm ρ σ' G hG H
  exact l_tup2 (steps_turn ha (hg1.new hst) (by have := congrArg List.length e; rw [List.length_append] at this; lia) hG H)
 ·rintro ρ σ' ⟨hd, L, hL, h1, h2, h3, hl, hge, hle⟩
  have e := hL [] (List.append_nil us).symm
  rw [stGo, List.append_nil] at e
  exact i_sret (i_V h2 (q st σ' hge (hg1.new hst) (by rw [← e]; exact hl)))
noncomputable def starAt (row : List Itm) (k : Nat) : Bool := decide ((row[k]?.map (·.1)) = some [42]) && (decide (k = 0) || decide (row[k - 1]? ≠ row[k]?))
noncomputable def starsOf (row : List Itm) : List Nat := (List.range row.length).filter (starAt row)
noncomputable def neg1 (us : List (List Nat)) : List Unt := us.map fun u => (u, -1)
noncomputable def pieceA (S : List Nat) (k : Nat) : List Unt := if k ∈ S ∧ S.getD 0 0 < k then [([41], -1)] else []
noncomputable def pieceB (S : List Nat) (out : List Int) (k : Nat) (t : Itm) : List Unt :=
 if k ∈ S then (if k < S.getLast?.getD 0 then neg1 [[40], [63], [62], [46], [42], [63]] else neg1 [[46], [42]])
 else if t.2.1 ≠ 0 ∧ (k : Int) ∈ out then [([92] ++ t.1, (k : Int))]
 else if t.2.1 ≠ 0 then [([91], -1), (t.1, (k : Int)), ([93], -1)]
 else if t.1 ≠ [42] then neg1 (signs signTab t.1) else []
noncomputable def piece (S : List Nat) (row : List Itm) (out : List Int) (k : Nat) : List Unt := match row[k]? with
 | some t => pieceA S k ++ pieceB S out k t
 | none => []
noncomputable def unitsOf (row : List Itm) (out : List Int) : List Unt := neg1 [[40], [63], [115], [58]] ++ (List.range row.length).flatMap (piece (starsOf row) row out) ++ neg1 [[41], [92, 90]]
def ItmOk (t : Itm) : Prop := (∀ c ∈ t.1, c < 128) ∧ t.1.length ≤ 10
def S_units : FS := fun ms σ Q X => ∃ r o row out, ms = [.ref r, .ref o] ∧ σ r = some (.list (row.map itemMV)) ∧ σ o = some (.list (out.map .int)) ∧ row.length ≤ 20 ∧ (∀ t ∈ row, ItmOk t) ∧ NewL σ ((unitsOf row out).map unitMV) Q
noncomputable def nm_units : List Str := ["row", "out", "stars", "units", "k", "text", "step", "cost"]
def P_units : PS := sSeq (sSet 2 (pComp [8] (tV 8) (pAndB (pCmpB (cEq false) (pItem (pItem (pV 0) (pV 8)) (pK (.int 0))) (pK (.str [42]))) (pAndB (pCmpB (cEq true) (pSlc (pV 0) (pBin oSub (pV 8) (pK (.int 1))) (pV 8)) (pLst (pCons (pItem (pV 0) (pV 8)) (pNil)))) (pAndNil))) (pV 8) (pCallB fRange (pCons (pCallB fLen (pCons (pV 0) (pNil))) (pNil))))) (sSeq (sSet 3 (pComp [8] (tV 8) (pAndNil) (pTup (pCons (pV 8) (pCons (pNeg (pK (.int 1))) (pNil)))) (pK (.str [40, 63, 115, 58])))) (sSeq (sFor (tV 4) (sSeq (sSetT (tTup (tCons (tV 5) (tCons (tV 6) (tCons (tV 7) (tNil))))) (pItem (pV 0) (pV 4))) (sSeq (sIf (pAndB (pCmpB (cIn false) (pV 4) (pV 2)) (pAndB (pCmpB cGt (pV 4) (pItem (pV 2) (pK (.int 0)))) (pAndNil))) (sSeq (sExpr (pMeth "list" mAppend (pV 3) (pCons (pTup (pCons (pK (.str [41])) (pCons (pNeg (pK (.int 1))) (pNil)))) (pNil)))) (sNil)) (sNil)) (sSeq (sIf (pCmpB (cIn false) (pV 4) (pV 2)) (sSeq (sSet 3 (pBin oAdd (pV 3) (pComp [8] (tV 8) (pAndNil) (pTup (pCons (pV 8) (pCons (pNeg (pK (.int 1))) (pNil)))) (pIf (pCmpB cLt (pV 4) (pItem (pV 2) (pNeg (pK (.int 1))))) (pK (.str [40, 63, 62, 46, 42, 63])) (pK (.str [46, 42])))))) (sNil)) (sSeq (sIf (pAndB (pCmpB (cEq true) (pV 6) (pK (.int 0))) (pAndB (pCmpB (cIn false) (pV 4) (pV 1)) (pAndNil))) (sSeq (sExpr (pMeth "list" mAppend (pV 3) (pCons (pTup (pCons (pBin oAdd (pK (.str [92])) (pV 5)) (pCons (pV 4) (pNil)))) (pNil)))) (sNil)) (sSeq (sIf (pCmpB (cEq true) (pV 6) (pK (.int 0))) (sSeq (sSet 3 (pBin oAdd (pV 3) (pLst (pCons (pTup (pCons (pK (.str [91])) (pCons (pNeg (pK (.int 1))) (pNil)))) (pCons (pTup (pCons (pV 5) (pCons (pV 4) (pNil)))) (pCons (pTup (pCons (pK (.str [93])) (pCons (pNeg (pK (.int 1))) (pNil)))) (pNil))))))) (sNil)) (sSeq (sIf (pCmpB (cEq true) (pV 5) (pK (.str [42]))) (sSeq (sSet 3 (pBin oAdd (pV 3) (pComp [8] (tV 8) (pAndNil) (pTup (pCons (pV 8) (pCons (pNeg (pK (.int 1))) (pNil)))) (pCallS S_sign (pCons (pV 5) (pNil)))))) (sNil)) (sNil)) (sNil))) (sNil))) (sNil))) (sNil)))) (pCallB fRange (pCons (pCallB fLen (pCons (pV 0) (pNil))) (pNil)))) (sSeq (sRet (pBin oAdd (pV 3) (pLst (pCons (pTup (pCons (pK (.str [41])) (pCons (pNeg (pK (.int 1))) (pNil)))) (pCons (pTup (pCons (pK (.str [92, 90])) (pCons (pNeg (pK (.int 1))) (pNil)))) (pNil)))))) (sNil))))
abbrev unE : PE := pTup (pCons (pV 8) (pCons (pNeg (pK (.int 1))) (pNil)))
theorem comp_go (us : List (List Nat)) (ok : Sto → Prop) (ρ : Loc) (σ : Sto) (hok : ok σ) (Q : List MV → Sto → Prop) (q : Q ((neg1 us).map unitMV) σ) :
  compGo (tV 8) (pAndNil) unE ok ρ (us.map .str) σ [] Q := by
 refine compGo_map _ (fun u => unitMV (u, -1)) us (fun u _ G N hG => i_tV (i_andNil ⟨hok, fun _ => ?_, fun z => by cases z⟩)) (by rw [neg1, List.map_map] at q; exact q)
 walk_at "e"
 exact ⟨hok, hG⟩
theorem dats_items (row : List Itm) (h : ∀ t ∈ row, ItmOk t) : Dats (row.map itemMV) (row.map fun t => PyData.tuple [.str (toS t.1), .int t.2.1, .int t.2.2]) := by
 induction row with
 | nil => exact .nil
 | cons t r ih => exact .cons (.cons (.str (h t List.mem_cons_self).1) (.cons (.int _) (.cons (.int _) .nil))) (ih fun u hu => h u (List.mem_cons_of_mem _ hu))
theorem itemMV_inj {a b : Itm} (h : itemMV a = itemMV b) : a = b := by
 obtain ⟨a1, a2, a3⟩ := a; obtain ⟨b1, b2, b3⟩ := b
 simp [itemMV] at h; simp [h]
theorem depth_items (l : List Itm) : (PyData.list (l.map fun t => PyData.tuple [.str (toS t.1), .int t.2.1, .int t.2.2])).depth ≤ 64 := by
 have : PyData.depthAll (l.map fun t => PyData.tuple [.str (toS t.1), .int t.2.1, .int t.2.2]) ≤ 1 := by
  induction l with
  | nil => simp [PyData.depthAll]
  | cons t r ih => simp [PyData.depthAll, PyData.depth] at ih ⊢; exact Nat.max_le.mpr ⟨Nat.le_refl _, ih⟩
 simp [PyData.depth]; lia
theorem signs_len (t : List Nat) : (signs signTab t).length ≤ 4 := by
 unfold signs
 cases h : signTab.lookup t with
 | none => simp
 | some us =>
  have : ∀ p ∈ signTab, p.2.length ≤ 4 := by decide
  have hm : ∃ k, (k, us) ∈ signTab := by
   clear this
   revert h
   generalize signTab = l
   intro h
   induction l with
   | nil => cases h
   | cons p l ih =>
    obtain ⟨a, b⟩ := p
    rw [List.lookup_cons] at h
    split at h
    ·injection h with h; subst h; exact ⟨a, List.mem_cons_self⟩
    ·obtain ⟨k, hk⟩ := ih h; exact ⟨k, List.mem_cons_of_mem _ hk⟩
  obtain ⟨k, hk⟩ := hm
  exact this _ hk
theorem small_rng : ∀ n, n < 100 → Builtin.Range.small 0 (n : Nat) 1 = true := by decide +kernel
noncomputable def prevL (row : List Itm) (k : Nat) : List Itm := if k = 0 then [] else (row[k - 1]?).toList
theorem prevL_mem {row : List Itm} {k : Nat} {u : Itm} (h : u ∈ prevL row k) : u ∈ row := by
 unfold prevL at h
 split at h
 ·cases h
 ·rw [Option.mem_toList] at h; exact List.mem_of_getElem? h
theorem prev_cut (row : List Itm) (k : Nat) (h : k < row.length) : cut (row.map itemMV) (some ((k : Int) - 1)) (some (k : Int)) = (prevL row k).map itemMV := by
 unfold prevL
 by_cases hk : k = 0
 ·subst hk
  unfold cut
  simp only [Option.elim, clipAt_nat]
  simp
 ·rw [if_neg hk, show ((k : Int) - 1) = ((k - 1 : Nat) : Int) by lia, cut_mid _ _ _ (by walk_at "q") (by simp; walk_at "q"), show k - (k - 1) = 1 by grind]
  have hl : k - 1 < (row.map itemMV).length := by simp; (subst_vars; omega)
  rw [List.drop_eq_getElem_cons hl, List.getElem?_eq_getElem (show k - 1 < row.length by omega)]
  simp
section
variable {r o b u : Addr} {k : Nat} {t : Itm} {S : List Nat} {out : List Int} {row : List Itm} {L : List Unt} {ρ : Loc} {σ : Sto} {Q : MF → Loc → Sto → Prop} {QE : MV → Sto → Prop} {X : Sto → Prop}
theorem in_iff (l : List Nat) : decide (k ∈ l) = true ↔ MV.int k ∈ l.map fun (i : Nat) => MV.int i := by
 rw [decide_eq_true_eq, List.mem_map]
 exact ⟨fun h => ⟨k, h, rfl⟩, fun ⟨a, ha, e⟩ => by injection e with e; rwa [← Int.ofNat.inj e]⟩
theorem kin_nat (l : List Nat) : Kin (MV.int k) (l.map fun (i : Nat) => MV.int i) := .inl ⟨⟨_, rfl⟩, fun x hx => by obtain ⟨a, _, rfl⟩ := List.mem_map.mp hx; exact ⟨_, rfl⟩⟩
theorem row_at (h : row[k]? = some t) : (row.map itemMV)[k]? = some (itemMV t) := by rw [List.getElem?_map, h]; rfl
theorem star_at (ht : row[k]? = some t) : starAt row k = (decide (t.1 = [42]) && !decide (prevL row k = [t])) := by
 unfold starAt prevL
 rw [ht]
 by_cases hst : t.1 = [42]
 ·by_cases hk0 : k = 0
  ·simp [hst, hk0]
  ·obtain ⟨u, hu⟩ : ∃ u, row[k - 1]? = some u := ⟨_, List.getElem?_eq_getElem (by have := (List.getElem?_eq_some_iff.mp ht).1; omega)⟩
   simp [hst, hk0, hu]
 ·simp [hst]
abbrev unT : PB := pAndB (pCmpB (cEq false) (pItem (pItem (pV 0) (pV 8)) (pK (.int 0))) (pK (.str [42]))) (pAndB (pCmpB (cEq true) (pSlc (pV 0) (pBin oSub (pV 8) (pK (.int 1))) (pV 8)) (pLst (pCons (pItem (pV 0) (pV 8)) (pNil)))) (pAndNil))
theorem un_test {QB : Bool → Sto → Prop} (h0 : ρ 0 = some (.ref r)) (h8 : ρ 8 = some (.int k)) (hr : σ r = some (.list (row.map itemMV))) (hk : k < row.length) (hok : ∀ t ∈ row, ItmOk t) (q : ∀ σ', Ge σ σ' → QB (starAt row k) σ') : unT ρ σ QB X := by
 obtain ⟨t, ht⟩ : ∃ t, row[k]? = some t := ⟨_, List.getElem?_eq_getElem hk⟩
 rw [star_at ht] at q
 walk_at "e"
 refine l_itemL k hr rfl (row_at ht) ?_
 walk_at "e"
 refine l_itemT 0 (show 3 ≤ sizeLine by decide) rfl rfl ?_
 walk_at "e"
 by_cases hst : t.1 = [42]
 ·rw [decide_eq_true hst] at q
  walk_at "e"
  refine l_slcL hr fun b hb => ?_
  have hg := (Ge.refl σ).put hb (.list (cut (row.map itemMV) (some ((k : Int) - 1)) (some (k : Int))))
  rw [prev_cut row k hk] at hg ⊢
  have hp : put σ b (.list ((prevL row k).map itemMV)) b = some (.list ((prevL row k).map itemMV)) := put_self ..
  have hrow2 := hg _ _ hr
  generalize put σ b (.list ((prevL row k).map itemMV)) = σ1 at *
  walk_at "e"
  refine l_itemL k hrow2 rfl (row_at ht) ?_
  walk_at "e"
  intro c hc
  have hg2 := hg.put hc (.list [itemMV t])
  refine l_eqL (c := decide (prevL row k = [t])) (put_ne (ne_of_none hp hc) hp) (put_self ..) (dats_items _ fun u hu => hok u (prevL_mem hu)) (dats_items [t] fun u hu => by rw [List.mem_singleton.mp hu]; exact hok t (List.mem_of_getElem? ht)) (depth_items _) ?_ ?_
  ·rw [decide_eq_true_eq]
   exact ⟨fun e => by rw [e]; rfl, fun e => (List.map_inj_right fun a b h => itemMV_inj h).mp (e.trans (show [itemMV t] = [t].map itemMV from rfl))⟩
  ·cases hpt : decide (prevL row k = [t]) with
   | true => rw [hpt] at q; walk_at "e"; exact q _ hg2
   | false => rw [hpt] at q; walk_at "e"; exact q _ hg2
 ·rw [decide_eq_false hst] at q
  walk_at "e"
  exact q _ (Ge.refl σ)
theorem un_str {x : List Nat} (h8 : ρ 8 = none) (ha : ∀ c ∈ x, c < 128) (hz : x.length ≤ sizeLine) (q : ∀ c, σ c = none → QE (.ref c) (put σ c (.list ((neg1 (x.map fun c => [c])).map unitMV)))) : kCom1 pAndNil unE (tV 8) ρ QE [8] (.str x) σ := by
 refine ⟨fun i hi => by rw [List.mem_singleton.mp hi]; exact h8, l_iterS ha ⟨by rw [List.length_map]; exact hz, ?_⟩⟩
 have e : x.map (fun c => MV.str [c]) = (x.map fun c => [c]).map .str := by rw [List.map_map]; rfl
 rw [e]
 exact comp_go _ _ _ _ trivial _ q
abbrev unB : PS := sIf (pAndB (pCmpB (cIn false) (pV 4) (pV 2)) (pAndB (pCmpB cGt (pV 4) (pItem (pV 2) (pK (.int 0)))) (pAndNil))) (sSeq (sExpr (pMeth "list" mAppend (pV 3) (pCons (pTup (pCons (pK (.str [41])) (pCons (pNeg (pK (.int 1))) (pNil)))) (pNil)))) (sNil)) (sNil)
theorem un_b {R : PS} (h2 : ρ 2 = some (.ref b)) (h3 : ρ 3 = some (.ref u)) (h4 : ρ 4 = some (.int k)) (hb : σ b = some (.list (S.map fun (i : Nat) => MV.int i))) (hl : σ u = some (.list (L.map unitMV))) (hL : L.length ≤ 1000)
  (q : ∀ σ', σ' u = some (.list ((L ++ pieceA S k).map unitMV)) → Up u σ σ' → R ρ σ' Q X) : sSeq unB R ρ σ Q X := by
 unfold pieceA at q
 walk_at "e"
 refine l_inL (c := decide (k ∈ S)) hb (kin_nat S) (in_iff S) ?_
 by_cases hkS : k ∈ S
 ·rw [decide_eq_true hkS]
  obtain ⟨s0, hs0⟩ : ∃ s0, S[0]? = some s0 := ⟨_, List.getElem?_eq_getElem (List.length_pos_iff.mpr fun z => by rw [z] at hkS; cases hkS)⟩
  rw [List.getD_eq_getElem?_getD, hs0] at q
  walk_at "e"
  refine l_itemL 0 hb rfl (by rw [List.getElem?_map, hs0]; rfl) ?_
  by_cases hgt : s0 < k
  ·rw [if_pos ⟨hkS, hgt⟩] at q
   walk_at "e"
   refine l_append hl (by rw [List.length_map, szL]; lia) ?_
   walk_at "e"
   exact q _ (by rw [put_self, List.map_append]; rfl) (Up.put _ _ _)
  ·rw [if_neg fun z => hgt z.2, List.append_nil] at q
   walk_at "e"
   walk_at "e"
   exact q _ hl ((Ge.refl σ).up u)
 ·rw [if_neg fun z => hkS z.1, List.append_nil] at q
  rw [decide_eq_false hkS]
  walk_at "e"
  exact q _ hl ((Ge.refl σ).up u)
structure UH (o b u : Addr) (k : Nat) (t : Itm) (S : List Nat) (out : List Int) (L : List Unt) (ρ : Loc) (σ : Sto) : Prop where
 h1 : ρ 1 = some (.ref o)
 h2 : ρ 2 = some (.ref b)
 h3 : ρ 3 = some (.ref u)
 h4 : ρ 4 = some (.int k)
 h5 : ρ 5 = some (.str t.1)
 h6 : ρ 6 = some (.int t.2.1)
 h8 : ρ 8 = none
 ho : σ o = some (.list (out.map .int))
 hb : σ b = some (.list (S.map fun (i : Nat) => MV.int i))
 hl : σ u = some (.list (L.map unitMV))
 hL : L.length ≤ 1000
def UQ (u : Addr) (L A : List Unt) (ρ : Loc) (σ : Sto) (Q : MF → Loc → Sto → Prop) : Prop := ∀ m ρ' σ' d, ρ' = upd ρ 3 m ∨ ρ' = ρ → ρ' 3 = some (.ref d) → σ' d = some (.list ((L ++ A).map unitMV)) → (d = u ∨ σ d = none) → Up u σ σ' → Q .next ρ' σ'
theorem UQ.new {A : List Unt} (q : UQ u L A ρ σ Q) {d : Addr} {σ' : Sto} (h : σ' d = some (.list (L.map unitMV ++ A.map unitMV))) (hn : σ d = none) (g : Ge σ σ') : Q .next (upd ρ 3 (.ref d)) σ' := q (.ref d) _ _ d (.inl rfl) rfl (by rw [List.map_append]; exact h) (.inr hn) (g.up u)
theorem UQ.old {A : List Unt} (q : UQ u L A ρ σ Q) {σ' : Sto} (h3 : ρ 3 = some (.ref u)) (h : σ' u = some (.list (L.map unitMV ++ A.map unitMV))) (g : Up u σ σ') : Q .next ρ σ' := q .none _ _ u (.inr rfl) h3 (by rw [List.map_append]; exact h) (.inl rfl) g
theorem UH.sz (H : UH o b u k t S out L ρ σ) {A : List Unt} (h : A.length ≤ 100) : (L.map unitMV).length + (A.map unitMV).length ≤ sizeLine := by have := H.hL; rw [List.length_map, List.length_map, szL]; lia
theorem neg1_len (x : List (List Nat)) : (neg1 x).length = x.length := List.length_map ..
abbrev unC1 : PS := sSeq (sSet 3 (pBin oAdd (pV 3) (pComp [8] (tV 8) (pAndNil) unE (pIf (pCmpB cLt (pV 4) (pItem (pV 2) (pNeg (pK (.int 1))))) (pK (.str [40, 63, 62, 46, 42, 63])) (pK (.str [46, 42])))))) (sNil)
theorem un_c1 (H : UH o b u k t S out L ρ σ) (hkS : k ∈ S) (q : UQ u L (pieceB S out k t) ρ σ Q) : unC1 ρ σ Q X := by
 unfold pieceB at q
 rw [if_pos hkS] at q
 obtain ⟨sl, hsl⟩ : ∃ sl, S.getLast? = some sl := ⟨_, List.getLast?_eq_some_getLast fun z => by rw [z] at hkS; cases hkS⟩
 rw [hsl] at q
 refine i_setl (i_binV H.h3 (i_comp (i_ifE (i_cmpB (i_V H.h4 (i_item (i_V H.h2 (i_neg (i_K (i_negI (l_itemLast H.hb (m := .int sl) (by rw [List.getLast?_map, hsl]; rfl) ?_)))))))))))
 by_cases hkl : k < sl
 ·simp only [Option.getD_some, if_pos hkl] at q
  refine l_ltI (i_t (decide_eq_true (Int.ofNat_lt.mpr hkl)) (i_K (un_str H.h8 (by decide) (by decide) fun c hc => l_addNew H.hl hc (H.sz (by decide)) fun d σ' w1 w2 w3 => q.new w1 w2 w3)))
 ·simp only [Option.getD_some, if_neg hkl] at q
  refine l_ltI (i_f (decide_eq_false fun z => hkl (Int.ofNat_lt.mp z)) (i_K (un_str H.h8 (by decide) (by decide) fun c hc => l_addNew H.hl hc (H.sz (by decide)) fun d σ' w1 w2 w3 => q.new w1 w2 w3)))
abbrev unC4 : PS := sIf (pCmpB (cEq true) (pV 5) (pK (.str [42]))) (sSeq (sSet 3 (pBin oAdd (pV 3) (pComp [8] (tV 8) (pAndNil) unE (pCallS S_sign (pCons (pV 5) (pNil)))))) (sNil)) (sNil)
theorem un_c4 (H : UH o b u k t S out L ρ σ) (q : UQ u L (if t.1 ≠ [42] then neg1 (signs signTab t.1) else []) ρ σ Q) : unC4 ρ σ Q X := by
 by_cases h42 : t.1 = [42]
 ·rw [if_neg fun z => z h42] at q
  refine i_if (i_cmpBVK H.h5 (l_eqS (i_f (by rw [h42]; rfl) (i_nil (q.old H.h3 (by rw [List.map_nil, List.append_nil]; exact H.hl) ((Ge.refl σ).up u))))))
 ·rw [if_pos h42] at q
  refine i_if (i_cmpBVK H.h5 (l_eqS (i_t (by rw [decide_eq_false h42]; rfl) (i_setl (i_binV H.h3 (i_comp (i_callS (i_con1V H.h5 ⟨t.1, rfl, fun z σ4 hg4 hzn hz => ?_⟩))))))))
  have hs := signs_len t.1
  refine ⟨fun i hi => by rw [List.mem_singleton.mp hi]; exact H.h8, l_iterL hz ⟨by rw [List.length_map]; exact Nat.le_trans hs (by decide), comp_go _ _ _ _ hz _ fun c hc => l_addNew (hg4 _ _ H.hl) hc (H.sz (by rw [neg1_len]; exact Nat.le_trans hs (by decide))) fun d σ' w1 w2 w3 => q.new w1 (hg4.new w2) (hg4.trans w3)⟩⟩
abbrev unC3 : PS := sIf (pCmpB (cEq true) (pV 6) (pK (.int 0))) (sSeq (sSet 3 (pBin oAdd (pV 3) (pLst (pCons (pTup (pCons (pK (.str [91])) (pCons (pNeg (pK (.int 1))) (pNil)))) (pCons (pTup (pCons (pV 5) (pCons (pV 4) (pNil)))) (pCons (pTup (pCons (pK (.str [93])) (pCons (pNeg (pK (.int 1))) (pNil)))) (pNil))))))) (sNil)) (sSeq unC4 (sNil))
theorem un_c3 (H : UH o b u k t S out L ρ σ) (q : UQ u L (if t.2.1 ≠ 0 then [([91], -1), (t.1, (k : Int)), ([93], -1)] else if t.1 ≠ [42] then neg1 (signs signTab t.1) else []) ρ σ Q) : unC3 ρ σ Q X := by
 have h4 := H.h4
 have h5 := H.h5
 by_cases hs : t.2.1 = 0
 ·rw [if_neg fun z => z hs] at q
  refine i_if (i_cmpBVK H.h6 (l_eqI (i_f (by rw [hs]; rfl) (i_seq (un_c4 H fun m ρ' σ' d w1 w2 w3 w4 w5 => i_nil (q m ρ' σ' d w1 w2 w3 w4 w5))))))
 ·rw [if_pos hs] at q
  refine i_if (i_cmpBVK H.h6 (l_eqI (i_t (by rw [decide_eq_false hs]; rfl) (i_setl (i_binV H.h3 ?_)))))
  walk_at "e"
  exact fun c hc => l_addNew H.hl hc (H.sz (A := [([91], -1), (t.1, (k : Int)), ([93], -1)]) (by show 3 ≤ 100; decide)) fun d σ' w1 w2 w3 => q.new w1 w2 w3
abbrev unC2 : PS := sIf (pAndB (pCmpB (cEq true) (pV 6) (pK (.int 0))) (pAndB (pCmpB (cIn false) (pV 4) (pV 1)) (pAndNil))) (sSeq (sExpr (pMeth "list" mAppend (pV 3) (pCons (pTup (pCons (pBin oAdd (pK (.str [92])) (pV 5)) (pCons (pV 4) (pNil)))) (pNil)))) (sNil)) (sSeq unC3 (sNil))
theorem un_c2 (H : UH o b u k t S out L ρ σ) (ht : t.1.length ≤ 10) (q : UQ u L (if t.2.1 ≠ 0 ∧ (k : Int) ∈ out then [([92] ++ t.1, (k : Int))] else if t.2.1 ≠ 0 then [([91], -1), (t.1, (k : Int)), ([93], -1)] else if t.1 ≠ [42] then neg1 (signs signTab t.1) else []) ρ σ Q) : unC2 ρ σ Q X := by
 have h3 := H.h3
 have h4 := H.h4
 have h5 := H.h5
 have hl := H.hl
 by_cases hs : t.2.1 = 0
 ·rw [if_neg fun z => z.1 hs] at q
  refine i_if (i_andB (i_cmpBVK H.h6 (l_eqI (i_f (by rw [hs]; rfl) (i_f rfl (i_seq (un_c3 H fun m ρ' σ' d w1 w2 w3 w4 w5 => i_nil (q m ρ' σ' d w1 w2 w3 w4 w5))))))))
 ·refine i_if (i_andB (i_cmpBVK H.h6 (l_eqI (i_t (by rw [decide_eq_false hs]; rfl) (i_andB (i_cmpBVV h4 H.h1 (l_inL (c := decide ((k : Int) ∈ out)) H.ho (.inl ⟨⟨_, rfl⟩, fun x hx => by obtain ⟨a, _, rfl⟩ := List.mem_map.mp hx; exact ⟨_, rfl⟩⟩) (by simp) ?_)))))))
  by_cases ho' : (k : Int) ∈ out
  ·rw [if_pos ⟨hs, ho'⟩] at q
   rw [decide_eq_true ho']
   walk_at "e"
   refine l_append H.hl (Nat.lt_of_lt_of_le (Nat.lt_succ_self _) (H.sz (A := [([], 0)]) (by decide))) ?_
   exact q.old h3 (put_self ..) (Up.put _ _ _)
  ·rw [if_neg fun z => ho' z.2] at q
   rw [decide_eq_false ho']
   refine i_f rfl (i_f rfl (i_seq (un_c3 H fun m ρ' σ' d w1 w2 w3 w4 w5 => i_nil (q m ρ' σ' d w1 w2 w3 w4 w5))))
abbrev unC : PS := sIf (pCmpB (cIn false) (pV 4) (pV 2)) unC1 (sSeq unC2 (sNil))
theorem un_c (H : UH o b u k t S out L ρ σ) (ht : t.1.length ≤ 10) (q : UQ u L (pieceB S out k t) ρ σ Q) : unC ρ σ Q X := by
 refine i_if (i_cmpBVV H.h4 H.h2 (l_inL (c := decide (k ∈ S)) H.hb (kin_nat S) (in_iff S) ?_))
 by_cases hkS : k ∈ S
 ·rw [decide_eq_true hkS]
  exact i_t rfl (un_c1 H hkS q)
 ·unfold pieceB at q
  rw [if_neg hkS] at q
  rw [decide_eq_false hkS]
  exact i_f rfl (i_seq (un_c2 H ht fun m ρ' σ' d w1 w2 w3 w4 w5 => i_nil (q m ρ' σ' d w1 w2 w3 w4 w5)))
end
inductive IU1 (r o b : Addr) (row : List Itm) (out : List Int) (S : List Nat) (σ : Sto) (k : Nat) (ρ : Loc) (σ'' : Sto) : Prop
 | mk (u : Addr) (f2 : ρ 0 = some (.ref r)) (f3 : ρ 1 = some (.ref o)) (f4 : ρ 2 = some (.ref b)) (f5 : ρ 3 = some (.ref u)) (f6 : ρ 8 = none) (f7 : u ≠ b) (f8 : σ u = none) (f9 : σ'' u = some (.list ((neg1 [[40], [63], [115], [58]] ++ (List.range k).flatMap (piece S row out)).map unitMV)))
  (f10 : σ'' b = some (.list (S.map fun (i : Nat) => MV.int i))) (f11 : Ge σ σ'') (f13 : (neg1 [[40], [63], [115], [58]] ++ (List.range k).flatMap (piece S row out)).length ≤ 4 + 20 * k)
theorem pieceB_len (S : List Nat) (out : List Int) (k : Nat) (t : Itm) : (pieceB S out k t).length ≤ 19 := by
 have := signs_len t.1
 unfold pieceB
 split
 ·split <;> simp [neg1]
 ·split
  ·simp
  ·split
   ·simp
   ·split
    ·rw [neg1_len]; lia
    ·simp
theorem pieceA_len (S : List Nat) (k : Nat) : (pieceA S k).length ≤ 1 := by unfold pieceA; split <;> simp
theorem sp_units (ms : List MV) (σ : Sto) (Q : MV → Sto → Prop) (X : Sto → Prop) (h : S_units ms σ Q X) : ms.length = 2 ∧ P_units (args ms) σ (retQ Q) (fun _ => False) := by
 obtain ⟨r, o, row, out, rfl, hr, ho, hn, hok, q⟩ := h
 refine ⟨rfl, ?_⟩
 delta P_units
 have hrng : Builtin.Range.small 0 ((row.map itemMV).length : Nat) 1 = true := by rw [List.length_map]; exact small_rng _ (Nat.lt_of_le_of_lt hn (by decide))
 have eI : rangeL 0 ((row.map itemMV).length : Nat) 1 = (List.range row.length).map fun (i : Nat) => MV.int i := by rw [List.length_map, rangeL_nat]
 refine i_sset (i_comp (i_callB (i_pcons (i_callB (i_con1V rfl (l_lenL hr (i_pnil (l_rng1 ⟨(by walk_at "f"), l_iterR hrng ?_⟩))))))))
 rw [eI]
 refine ⟨by rw [List.length_map, List.length_range, szL]; lia, ?_⟩
 refine compGo_filtG _ (fun (k : Nat) => MV.int k) (starAt row) (List.range row.length) (fun k hk σ' hg G N hT hF => i_tV (un_test rfl rfl (hg _ _ hr) (List.mem_range.mp hk) hok fun σ'' hg' => ⟨trivial, fun e => i_V rfl ⟨trivial, hT e _ (hg.trans hg')⟩, fun e => hF e _ (hg.trans hg')⟩)) fun σ1 hge1 b hb => ?_
 rw [show (List.range row.length).filter (starAt row) = starsOf row from rfl] at *
 unfold unitsOf at q
 generalize starsOf row = S at *
 refine i_sset (i_comp (i_K (un_str rfl (by decide) (by decide) fun u0 hu0 => i_seq (i_for (i_callB (i_pcons (i_callB (i_con1V rfl ?_))))))))
 have hbn := hge1.new hb
 have hg2 := hge1.put hb (.list (S.map fun (i : Nat) => MV.int i))
 have hub : b ≠ u0 := ne_of_none (put_self ..) hu0
 have hu0n := hg2.new hu0
 have hg3 := hg2.put hu0 (.list ((neg1 ([40, 63, 115, 58].map fun c => [c])).map unitMV))
 refine l_lenL (hg3 _ _ hr) (i_pnil (l_rng1 (l_iterR hrng ?_)))
 rw [eI]
 refine forGo_range row.length (IU1 r o b row out S σ) ?_ ?_ ⟨u0, rfl, rfl, rfl, rfl, rfl, Ne.symm hub, hu0n, put_self .., put_ne hub (put_self ..), hg3, Nat.le_refl 4⟩
 ·rintro k hk ρ σ' G hG ⟨u, h0, h1, h2, h3, h8, hub', hun, hl, hb', hge, hLl⟩
  obtain ⟨t, ht⟩ : ∃ t, row[k]? = some t := ⟨_, List.getElem?_eq_getElem hk⟩
  have hpc : (List.range (k + 1)).flatMap (piece S row out) = (List.range k).flatMap (piece S row out) ++ (pieceA S k ++ pieceB S out k t) := by rw [List.range_succ, List.flatMap_append, List.flatMap_singleton]; unfold piece; rw [ht]
  have htl := (hok t (List.mem_of_getElem? ht)).2
  have l1 := pieceA_len S k
  have l2 := pieceB_len S out k t
  rw [← Nat.not_lt] at hLl
  generalize hL0 : neg1 [[40], [63], [115], [58]] ++ (List.range k).flatMap (piece S row out) = L0 at *
  have hLn : neg1 [[40], [63], [115], [58]] ++ (List.range (k + 1)).flatMap (piece S row out) = L0 ++ pieceA S k ++ pieceB S out k t := by rw [hpc, ← hL0]; simp only [List.append_assoc]
  refine i_tV (i_seq (i_setT (i_itmVV h0 rfl (l_itemL k (hge _ _ hr) rfl (row_at ht) (l_tup3 (i_seq (un_b h2 h3 rfl hb' hl (by lia) fun σ2 hl2 up2 => i_seq (un_c ⟨h1, h2, h3, rfl, rfl, rfl, h8, up2 _ _ (fun z => by rw [← z, ho] at hun; cases hun) (hge _ _ ho), up2 _ _ (Ne.symm hub') hb', hl2, by rw [List.length_append]; lia⟩ htl fun m ρ' σ3 d e w3 w4 w5 up3 => i_nil ⟨trivial, hG _ _ ?_⟩))))))))
  have hgn : Ge σ σ3 := up3.ge (up2.ge hge hun) hun
  have hb2 := up2 _ _ (Ne.symm hub') hb'
  have hdn : d ≠ b ∧ σ d = none := by
   rcases w5 with rfl | w5
   ·exact ⟨hub', hun⟩
   ·exact ⟨Ne.symm (ne_of_none hb2 w5), (up2.ge hge hun).new w5⟩
  have hr' : ∀ j v, j ≠ 3 → j ≠ 4 → j ≠ 5 → j ≠ 6 → j ≠ 7 → ρ j = v → ρ' j = v := fun j v a3 a4 a5 a6 a7 ev => by
   rcases e with rfl | rfl <;> unfold upd <;> simp only [if_neg a3, if_neg a4, if_neg a5, if_neg a6, if_neg a7] <;> exact ev
  refine ⟨d, hr' 0 _ (by decide) (by decide) (by decide) (by decide) (by decide) h0, hr' 1 _ (by decide) (by decide) (by decide) (by decide) (by decide) h1, hr' 2 _ (by decide) (by decide) (by decide) (by decide) (by decide) h2, w3, hr' 8 _ (by decide) (by decide) (by decide) (by decide) (by decide) h8, hdn.1, hdn.2, by rw [hLn]; exact w4, up3 _ _ (Ne.symm hub') hb2, hgn, ?_⟩
  rw [hLn, List.length_append, List.length_append]; lia
 ·rintro ρ σ' ⟨u, h0, h1, h2, h3, h8, hub', hun, hl, hb', hge, hLl⟩
  refine i_sret (i_binV h3 ?_)
  walk_at "e"
  refine fun c hc => l_addNew hl hc (by rw [List.length_map, szL]; show _ + 2 ≤ _; lia) fun d σ'' w1 w2 w3 => q d _ (hge.trans w3) (hge.new w2) ?_
  exact w1.trans (congrArg (fun l => some (MO.list l)) (List.map_append (l₂ := neg1 [[41], [92, 90]])).symm)
noncomputable def pcOf (out : List Int) (k : Nat) (t : Itm) : Pc :=
 (if t.2.1 ≠ 0 ∧ (k : Int) ∉ out then [91] ++ t.1 ++ [93] else t.1,
  if t.1 = [42] then none else if t.2.1 ≠ 0 ∧ (k : Int) ∈ out then some ([92] ++ t.1) else if t.2.1 ≠ 0 then some ([91] ++ t.1 ++ [93]) else some (signs signTab t.1).flatten)
noncomputable def pcsOf (row : List Itm) (out : List Int) : List Pc := row.zipIdx.map fun p => pcOf out p.2 p.1
def RightOk (row : List Itm) (out : List Int) : Prop :=
 textOf (pcsOf row out) = ((unitsOf row out).map (·.1)).flatten ∧ (∀ u ∈ (unitsOf row out).map (·.1), WF u) ∧ (∀ p ∈ pcsOf row out, p ∈ pcTab) ∧ cntU (keepU ((unitsOf row out).map (·.1))) 0 = balGo (stepsOf (unitsOf row out)) 0 true ∧ (unitsOf row out).length ≤ 500 ∧ ((unitsOf row out).map (·.1)).flatten.length ≤ 5000
def S_right : FS := fun ms σ Q X => ∃ r o row out, ms = [.ref r, .ref o] ∧ σ r = some (.list (row.map itemMV)) ∧ σ o = some (.list (out.map .int)) ∧ row.length ≤ 20 ∧ (∀ t ∈ row, ItmOk t) ∧ RightOk row out ∧ σ 78 = some .tab ∧ Val σ (.bool true) Q
noncomputable def nm_right : List Str := ["row", "out", "units", "places", "at", "pattern", "unit", "k", "text"]
def P_right : PS := sSeq (sSwap (tCons (tV 4) (tCons (tV 3) (tCons (tV 2) (tNil)))) (pTup (pCons (pCallS S_units (pCons (pV 0) (pCons (pV 1) (pNil)))) (pCons (pLst (pNil)) (pCons (pNeg (pK (.int 1))) (pNil)))))) (sSeq (sSet 5 (pMeth "str" mJoin (pK (.str [])) (pCons (pComp [9] (tV 9) (pAndNil) (pIf (pAndB (pCmpB (cEq true) (pItem (pItem (pV 0) (pV 9)) (pK (.int 1))) (pK (.int 0))) (pAndB (pCmpB (cIn true) (pV 9) (pV 1)) (pAndNil))) (pBin oAdd (pBin oAdd (pK (.str [91])) (pItem (pItem (pV 0) (pV 9)) (pK (.int 0)))) (pK (.str [93]))) (pItem (pItem (pV 0) (pV 9)) (pK (.int 0)))) (pCallB fRange (pCons (pCallB fLen (pCons (pV 0) (pNil))) (pNil)))) (pNil)))) (sSeq (sFor (tTup (tCons (tV 6) (tCons (tV 7) (tNil)))) (sSeq (sSet 4 (pBin oAdd (pV 4) (pCallB fLen (pCons (pV 6) (pNil))))) (sSeq (sExpr (pMeth "list" mAppend (pV 3) (pCons (pTup (pCons (pV 4) (pCons (pV 6) (pNil)))) (pNil)))) (sNil))) (pV 2)) (sSeq (sSet 8 (pCallS S_translate (pCons (pV 5) (pNil)))) (sSeq (sIf (pOrB (pCmpB (cEq true) (pV 8) (pMeth "str" mJoin (pK (.str [])) (pCons (pComp [9, 10] (tTup (tCons (tV 9) (tCons (tV 10) (tNil)))) (pAndNil) (pV 9) (pV 2)) (pNil)))) (pOrB (pCmpB (cEq true) (pListG (pV 8)) (pV 3)) (pOrNil))) (sSeq (sRet (pK (.bool false))) (sNil)) (sNil)) (sSeq (sRet (pCmp (cIs false) (pCallS S_paren (pCons (pV 8) (pNil))) (pCallS S_taken (pCons (pCallS S_steps (pCons (pV 2) (pNil))) (pNil))))) (sNil))))))
theorem places_app : ∀ (a b : List (List Nat)) (i : Nat), placesGo i (a ++ b) = placesGo i a ++ placesGo (i + a.flatten.length) b
 | [], b, i => by simp [placesGo]
 | u :: a, b, i => by
  simp only [List.cons_append, placesGo, places_app a b, List.flatten_cons, List.length_append]
  rw [Nat.add_assoc]
theorem places_len : ∀ (a : List (List Nat)) (i : Nat), (placesGo i a).length = a.length
 | [], i => rfl
 | u :: a, i => by simp [placesGo, places_len a]
noncomputable def plD : Nat → List (List Nat) → List PyData
 | _, [] => []
 | i, u :: r => .tuple [.int ((i + (u.length - 1) : Nat) : Int), .str (toS u)] :: plD (i + u.length) r
theorem places_dats : ∀ (a : List (List Nat)) (i : Nat), (∀ u ∈ a, ∀ c ∈ u, c < 128) → Dats (placesGo i a) (plD i a)
 | [], i, _ => .nil
 | u :: a, i, h => .cons (.cons (.int _) (.cons (.str (h u List.mem_cons_self)) .nil)) (places_dats a _ fun v hv => h v (List.mem_cons_of_mem _ hv))
theorem plD_depth : ∀ (a : List (List Nat)) (i : Nat), PyData.depthAll (plD i a) ≤ 1
 | [], i => by simp [plD, PyData.depthAll]
 | u :: a, i => by
  have := plD_depth a (i + u.length)
  simp [plD, PyData.depthAll, PyData.depth]; exact Nat.max_le.mpr ⟨Nat.le_refl _, this⟩
noncomputable def pcAt (row : List Itm) (out : List Int) (i : Nat) : List Nat := match row[i]? with
 | some t => (pcOf out i t).1
 | none => []
theorem pcs_range (row : List Itm) (out : List Int) : (List.range row.length).map (pcAt row out) = (pcsOf row out).map (·.1) := by
 apply List.ext_getElem?
 intro i
 by_cases h : i < row.length
 ·simp [pcsOf, pcAt, h, List.getElem?_range h, List.getElem?_zipIdx]
 ·rw [List.getElem?_eq_none (by simp; walk_at "q"), List.getElem?_eq_none (by simp [pcsOf]; walk_at "q")]
theorem pcAt_len (row : List Itm) (out : List Int) (i : Nat) (h : ∀ t ∈ row, ItmOk t) : (pcAt row out i).length ≤ 12 := by
 unfold pcAt
 cases hi : row[i]? with
 | none => simp
 | some t =>
  have := (h t (List.mem_of_getElem? hi)).2
  simp only [pcOf]; split <;> simp <;> omega
theorem pat_sum (row : List Itm) (out : List Int) (h : ∀ t ∈ row, ItmOk t) : ((pcsOf row out).map (·.1)).flatten.length ≤ 12 * row.length := by
 rw [← pcs_range]
 have : ∀ n, ((List.range n).map (pcAt row out)).flatten.length ≤ 12 * n := by
  intro n
  induction n with
  | zero => simp
  | succ n ih => rw [List.range_succ, List.map_append, List.flatten_append, List.length_append]; have := pcAt_len row out n h; simp at ih ⊢; grind
 exact this _
theorem i_listG {V : PE} {ρ : Loc} {σ : Sto} {QE : MV → Sto → Prop} {X : Sto → Prop} (h : V ρ σ (fun m σ₁ => ∃ x, m = .str x ∧ (∀ c ∈ x, c < 128) ∧ x.length + 2 ≤ sizeLine ∧ escEnd x false = false ∧ (escGo x 0 false).length ≤ sizeLine ∧ ∀ b, σ₁ b = none → QE (.ref b) (put σ₁ b (.list (escGo x 0 false)))) X) : pListG V ρ σ QE X := h
section
variable {r o u pl : Addr} {k : Nat} {t : Itm} {row : List Itm} {out : List Int} {us : List Unt} {ρ : Loc} {σ : Sto} {Q : MF → Loc → Sto → Prop} {QE : MV → Sto → Prop} {X : Sto → Prop}
abbrev riE : PE := pIf (pAndB (pCmpB (cEq true) (pItem (pItem (pV 0) (pV 9)) (pK (.int 1))) (pK (.int 0))) (pAndB (pCmpB (cIn true) (pV 9) (pV 1)) (pAndNil))) (pBin oAdd (pBin oAdd (pK (.str [91])) (pItem (pItem (pV 0) (pV 9)) (pK (.int 0)))) (pK (.str [93]))) (pItem (pItem (pV 0) (pV 9)) (pK (.int 0)))
theorem ri_elt (h0 : ρ 0 = some (.ref r)) (h1 : ρ 1 = some (.ref o)) (h9 : ρ 9 = some (.int k)) (hr : σ r = some (.list (row.map itemMV))) (ho : σ o = some (.list (out.map .int))) (hk : k < row.length) (hok : ∀ t ∈ row, ItmOk t) (q : QE (.str (pcAt row out k)) σ) : riE ρ σ QE X := by
 obtain ⟨t, ht⟩ : ∃ t, row[k]? = some t := ⟨_, List.getElem?_eq_getElem hk⟩
 have hl := (hok t (List.mem_of_getElem? ht)).2
 unfold pcAt at q
 rw [ht] at q
 simp only [pcOf] at q
 have txt : ∀ {QE : MV → Sto → Prop} {X : Sto → Prop}, QE (.str t.1) σ → pItem (pItem (pV 0) (pV 9)) (pK (.int 0)) ρ σ QE X := fun q => i_item (i_itmVV h0 h9 (l_itemL k hr rfl (row_at ht) (i_K (l_itemT 0 (show 3 ≤ sizeLine by decide) rfl rfl q))))
 refine i_ifE (i_andB (i_cmpB (i_item (i_itmVV h0 h9 (l_itemL k hr rfl (row_at ht) (i_K (l_itemT 1 (show 3 ≤ sizeLine by decide) rfl rfl (i_K (l_eqI ?_)))))))))
 by_cases hs : t.2.1 = 0
 ·rw [if_neg fun z => z.1 hs] at q
  exact i_f (by rw [hs]; rfl) (i_f rfl (txt q))
 ·refine i_t (by rw [decide_eq_false hs]; rfl) (i_andB (i_cmpBVV h9 h1 (l_inL (c := decide ((k : Int) ∈ out)) ho (.inl ⟨⟨_, rfl⟩, fun x hx => by obtain ⟨a, _, rfl⟩ := List.mem_map.mp hx; exact ⟨_, rfl⟩⟩) (by simp) ?_)))
  by_cases hko : (k : Int) ∈ out
  ·rw [if_neg fun z => z.2 hko] at q
   rw [decide_eq_true hko]
   exact i_f rfl (i_f rfl (txt q))
  ·rw [if_pos ⟨hs, hko⟩] at q
   rw [decide_eq_false hko]
   exact i_t rfl (i_andNil (i_t rfl (i_bin (i_bin (i_K (txt (l_addS (by rw [szL]; simp; lia) (i_K (l_addS (by rw [szL]; simp; lia) q)))))))))
theorem ri_pat (h0 : ρ 0 = some (.ref r)) (h1 : ρ 1 = some (.ref o)) (h9 : ρ 9 = none) (hr : σ r = some (.list (row.map itemMV))) (ho : σ o = some (.list (out.map .int))) (hn : row.length ≤ 20) (hok : ∀ t ∈ row, ItmOk t) (q : ∀ σ', Ge σ σ' → QE (.str (patOf (pcsOf row out))) σ') :
  pMeth "str" mJoin (pK (.str [])) (pCons (pComp [9] (tV 9) (pAndNil) riE (pCallB fRange (pCons (pCallB fLen (pCons (pV 0) (pNil))) (pNil)))) (pNil)) ρ σ QE X := by
 have eI : rangeL 0 ((row.map itemMV).length : Nat) 1 = (List.range row.length).map fun (i : Nat) => MV.int i := by rw [List.length_map, rangeL_nat]
 refine i_meth (i_K (l_kindS (i_pcons (i_comp (i_callB (i_pcons (i_calBV h0 (l_lenL hr (i_pnil (l_rng1 ⟨fun i hi => by rw [List.mem_singleton.mp hi]; exact h9, l_iterR (by rw [List.length_map]; exact small_rng _ (Nat.lt_of_le_of_lt hn (by decide))) ?_⟩))))))))))
 rw [eI]
 refine ⟨by rw [List.length_map, List.length_range, szL]; lia, compGo_map _ (fun k => MV.str (pcAt row out k)) (List.range row.length) (fun k hk G N hG => i_tV (i_andNil ⟨trivial, fun _ => ri_elt h0 h1 rfl hr ho (List.mem_range.mp hk) hok ⟨trivial, hG⟩, fun z => by cases z⟩)) fun lp hlp => i_pnil ?_⟩
 have hps := pat_sum row out hok
 have e : (List.range row.length).map (fun k => MV.str (pcAt row out k)) = ((pcsOf row out).map (·.1)).map .str := by rw [← pcs_range, List.map_map]; rfl
 rw [e] at *
 refine l_kindS ⟨[], lp, (pcsOf row out).map (·.1), rfl, rfl, put_self .., ?_, ?_⟩
 ·have := flat_sum ((pcsOf row out).map (·.1)); simp only [List.length_nil, Nat.mul_zero, Nat.add_zero]; lia
 ·rw [joinL_nil]; exact q _ ((Ge.refl σ).put hlp _)
inductive IR1 (pl : Addr) (ρ : Loc) (σ : Sto) (dn : List Unt) (ρ' : Loc) (σ' : Sto) : Prop
 | mk (f1 : ∀ j, j ≠ 4 → j ≠ 6 → j ≠ 7 → ρ' j = ρ j) (f2 : ρ' 4 = some (.int (((dn.map (·.1)).flatten.length : Nat) - 1))) (f3 : σ' pl = some (.list (placesGo 0 (dn.map (·.1))))) (f4 : Up pl σ σ')
abbrev riFor : PS := sFor (tTup (tCons (tV 6) (tCons (tV 7) (tNil)))) (sSeq (sSet 4 (pBin oAdd (pV 4) (pCallB fLen (pCons (pV 6) (pNil))))) (sSeq (sExpr (pMeth "list" mAppend (pV 3) (pCons (pTup (pCons (pV 4) (pCons (pV 6) (pNil)))) (pNil)))) (sNil))) (pV 2)
theorem ri_for (h2 : ρ 2 = some (.ref u)) (h3 : ρ 3 = some (.ref pl)) (h4 : ρ 4 = some (.int (-1))) (hu : σ u = some (.list (us.map unitMV))) (hpl : σ pl = some (.list [])) (hne : u ≠ pl) (hl : us.length ≤ 500) (hw : ∀ v ∈ us.map (·.1), WF v)
  (q : ∀ ρ' σ', (∀ j, j ≠ 4 → j ≠ 6 → j ≠ 7 → ρ' j = ρ j) → σ' pl = some (.list (placesGo 0 (us.map (·.1)))) → Up pl σ σ' → Q .next ρ' σ') : riFor ρ σ Q X := by
 refine i_for (i_V h2 (l_iterL hu (forGo_map unitMV us (IR1 pl ρ σ) ?_ (fun ρ' σ' ⟨a, _, b, c⟩ => q ρ' σ' a b c) ⟨fun _ _ _ _ => rfl, h4, hpl, (Ge.refl σ).up pl⟩)))
 rintro dn ⟨v, k⟩ rs e hm ρ' σ' G hG ⟨f1, f2, f3, f4⟩
 have hvl : 1 ≤ v.length ∧ v.length ≤ 2 := by obtain ⟨c, _, ⟨rfl, _⟩ | ⟨rfl, _⟩⟩ := hw v (List.mem_map.mpr ⟨_, hm, rfl⟩) <;> simp
 have hdl := congrArg List.length e
 rw [List.length_append] at hdl
 have h3' := (f1 3 (by decide) (by decide) (by decide)).trans h3
 have el : ((dn ++ [(v, k)]).map (·.1)).flatten.length = (dn.map (·.1)).flatten.length + v.length := by simp
 have ep : placesGo 0 ((dn ++ [(v, k)]).map (·.1)) = placesGo 0 (dn.map (·.1)) ++ [.tup [.int (((dn.map (·.1)).flatten.length : Nat) - 1 + (v.length : Nat)), .str v]] := by
  rw [List.map_append, places_app]
  refine congrArg (placesGo 0 (dn.map (·.1)) ++ ·) ?_
  simp only [List.map_cons, List.map_nil, placesGo, Nat.zero_add]
  refine congrArg (fun z => [MV.tup [MV.int z, MV.str v]]) ?_
  omega
 refine l_tup2 ?_
 walk_at "e"
 refine l_append f3 (by rw [places_len, List.length_map, szL]; lia) ?_
 walk_at "e"
 refine ⟨put_ne hne (f4 _ _ hne hu), hG _ _ ⟨fun j a b c => ?_, congrArg some (congrArg MV.int ?_), ?_, f4.trans (Up.put _ _ _)⟩⟩
 ·rw [← f1 j a b c]; unfold upd; rw [if_neg a, if_neg c, if_neg b]
 ·have eg : ((v, k) : Unt).1.length = v.length := rfl
  rw [el]; omega
 ·rw [put_self, ep]
theorem ri_words (h2 : ρ 2 = some (.ref u)) (h9 : ρ 9 = none) (h10 : ρ 10 = none) (hu : σ u = some (.list (us.map unitMV))) (hl : us.length ≤ 500) (hs : (us.map (·.1)).flatten.length ≤ 5000) (q : ∀ σ', Ge σ σ' → QE (.str (us.map (·.1)).flatten) σ') :
  pMeth "str" mJoin (pK (.str [])) (pCons (pComp [9, 10] (tTup (tCons (tV 9) (tCons (tV 10) (tNil)))) (pAndNil) (pV 9) (pV 2)) (pNil)) ρ σ QE X := by
 refine i_meth (i_K (l_kindS (i_pcons (i_comp (i_V h2 ⟨fun i hi => ?_, l_iterL hu ⟨by rw [List.length_map, szL]; lia, compGo_map _ (fun v => MV.str v.1) us (fun v _ G N hG => l_tup2 (i_andNil ⟨hu, fun _ => i_V rfl ⟨hu, hG⟩, fun z => by cases z⟩)) fun lw hlw => i_pnil ?_⟩⟩)))))
 ·rcases List.mem_cons.mp hi with rfl | hi
  ·exact h9
  ·rw [List.mem_singleton.mp hi]; exact h10
 ·rw [show us.map (fun v => MV.str v.1) = (us.map (·.1)).map .str by rw [List.map_map]; rfl] at *
  refine l_kindS ⟨[], lw, us.map (·.1), rfl, rfl, put_self .., ?_, ?_⟩
  ·have := flat_sum (us.map (·.1)); simp only [List.length_nil, Nat.mul_zero, Nat.add_zero]; lia
  ·rw [joinL_nil]; exact q _ ((Ge.refl σ).put hlw _)
theorem ri_list {ws : List (List Nat)} {QB : Bool → Sto → Prop} (h8 : ρ 8 = some (.str ws.flatten)) (h3 : ρ 3 = some (.ref pl)) (hpl : σ pl = some (.list (placesGo 0 ws))) (hwf : ∀ v ∈ ws, WF v) (hwl : ws.length ≤ 500) (hs : ws.flatten.length ≤ 5000) (q : ∀ σ', Ge σ σ' → QB false σ') : pCmpB (cEq true) (pListG (pV 8)) (pV 3) ρ σ QB X := by
 have hasc : ∀ v ∈ ws, ∀ c ∈ v, c < 128 := fun v hv c hc => by
  obtain ⟨e, he, ⟨rfl, _⟩ | ⟨rfl, _⟩⟩ := hwf v hv
  ·simp at hc; grind only
  ·simp at hc; omega
 refine i_cmpB (i_listG (i_V h8 ⟨ws.flatten, rfl, flat_ascii ws hwf, by rw [szL]; lia, esc_end ws hwf, by rw [esc_places ws 0 hwf, places_len, szL]; lia, fun lg hlg => i_V h3 ?_⟩))
 rw [esc_places ws 0 hwf]
 have hg := (Ge.refl σ).put hlg (.list (placesGo 0 ws))
 exact l_eqL (c := true) (put_self ..) (hg _ _ hpl) (places_dats ws 0 hasc) (places_dats ws 0 hasc) (by simp only [PyData.depth]; have := plD_depth ws 0; lia) (by simp) (q _ hg)
end
theorem sp_right (ms : List MV) (σ : Sto) (Q : MV → Sto → Prop) (X : Sto → Prop) (h : S_right ms σ Q X) : ms.length = 2 ∧ P_right (args ms) σ (retQ Q) (fun _ => False) := by
 obtain ⟨r, o, row, out, rfl, hr, ho, hn, hok, ⟨htext, hwf, hpcs, hcnt, hul, htl⟩, h78, q⟩ := h
 refine ⟨rfl, ?_⟩
 delta P_right
 walk_at "e"
 refine ⟨r, o, row, out, rfl, hr, ho, hn, hok, fun u σ1 hg1 hun hu => ?_⟩
 generalize unitsOf row out = us at *
 walk_at "e"
 intro pl hpl
 have hg2 := hg1.put hpl (.list [])
 have hup : u ≠ pl := ne_of_none hu hpl
 have hu2 := put_ne (mo := .list []) hup hu
 have hpl2 : put σ1 pl (.list []) pl = some (.list []) := put_self ..
 have hpln := hg1.new hpl
 generalize put σ1 pl (.list []) = σ2 at *
 refine i_pcons (i_neg (i_K (i_negI (i_pnil (l_sz (show 3 ≤ sizeLine by decide) (l_exT (l_swap3 (i_sset (ri_pat rfl rfl rfl (hg2 _ _ hr) (hg2 _ _ ho) hn hok fun σ3 hg3 => i_seq (ri_for rfl rfl rfl (hg3 _ _ hu2) (hg3 _ _ hpl2) hup hul hwf fun ρ4 σ4 w1 w2 w3 => ?_))))))))))
 have hg4 := w3.ge (hg2.trans hg3) hpln
 have hu4 := w3 _ _ hup (hg3 _ _ hu2)
 have k2 := w1 2 (by decide) (by decide) (by decide)
 have k3 := w1 3 (by decide) (by decide) (by decide)
 refine i_sset (i_callS (i_con1V (w1 5 (by decide) (by decide) (by decide)) ⟨pcsOf row out, rfl, hpcs, by simp [pcsOf]; lia, hg4 _ _ h78, fun σ5 hg5 => ?_⟩))
 rw [htext]
 refine i_sif (i_orB (i_cmpB (i_V rfl (ri_words k2 (w1 9 (by decide) (by decide) (by decide)) (w1 10 (by decide) (by decide) (by decide)) (hg5 _ _ hu4) hul htl fun σ6 hg6 => l_eqS (i_f (by rw [decide_eq_true rfl]; rfl) (i_orB (ri_list rfl k3 (hg6 _ _ (hg5 _ _ w2)) hwf (by rw [List.length_map]; exact hul) htl fun σ7 hg7 => i_f rfl (i_orNil (i_f rfl (i_nil (i_sret ?_)))))))))))
 have hg57 := (hg5.trans hg6).trans hg7
 refine i_cmp (i_callS (i_con1V rfl ⟨us.map (·.1), rfl, hwf, Nat.le_trans htl (by decide), fun σ8 hg8 => i_callS (i_pcons (i_callS (i_con1V k2 ⟨u, us, rfl, hg8 _ _ (hg57 _ _ hu4), by lia, fun b σ9 hg9 hbn hb => i_pnil ⟨b, stepsOf us, rfl, hb, fun σ10 hg10 => ?_⟩⟩)))⟩))
 rw [hcnt]
 refine l_isBB ?_
 rw [decide_eq_true rfl]
 exact q σ10 (((hg4.trans hg57).trans hg8).trans (hg9.trans hg10))
noncomputable def nm_item : List Str := ["number", "kind", "more"]
def P_item : PS := sSeq (sSwap (tCons (tV 2) (tCons (tV 1) (tNil))) (pTup (pCons (pBin oMod (pV 0) (pK (.int 8))) (pCons (pBin oMod (pBin oDiv (pV 0) (pK (.int 8))) (pBin oPow (pK (.int 10)) (pK (.int 9)))) (pNil))))) (sSeq (sIf (pCmpB cLt (pV 1) (pK (.int 4))) (sSeq (sRet (pTup (pCons (pItem (pK (.str [40, 41])) (pBin oDiv (pV 1) (pK (.int 2)))) (pCons (pBin oSub (pK (.int 1)) (pBin oMul (pBin oDiv (pV 1) (pK (.int 2))) (pK (.int 2)))) (pCons (pBin oAdd (pV 2) (pK (.int 1))) (pNil)))))) (sNil)) (sNil)) (sSeq (sIf (pCmpB (cEq false) (pV 1) (pK (.int 6))) (sSeq (sRet (pTup (pCons (pItem (pLst (pCons (pK (.str [97])) (pCons (pK (.str [63])) (pCons (pK (.str [92])) (pCons (pK (.str [93])) (pCons (pK (.str [91, 33, 97, 93])) (pCons (pK (.str [91, 92, 93])) (pCons (pK (.str [91, 98, 45, 97, 93])) (pCons (pK (.str [124])) (pNil)))))))))) (pBin oMod (pV 2) (pK (.int 8)))) (pCons (pK (.int 0)) (pCons (pK (.int 0)) (pNil)))))) (sNil)) (sNil)) (sSeq (sRet (pTup (pCons (pIf (pCmpB (cEq false) (pV 1) (pK (.int 7))) (pK (.str [34])) (pK (.str [42]))) (pCons (pK (.int 0)) (pCons (pK (.int 0)) (pNil)))))) (sNil))))
noncomputable def nm_sign : List Str := ["text"]
def P_sign : PS := sSeq (sRet (pSgn signTab 0)) (sNil)
theorem sp_sign (ms : List MV) (σ : Sto) (Q : MV → Sto → Prop) (X : Sto → Prop) (h : S_sign ms σ Q X) : ms.length = 1 ∧ P_sign (args ms) σ (retQ Q) (fun _ => False) := by
 obtain ⟨t, rfl, q⟩ := h
 refine ⟨rfl, ?_⟩
 delta P_sign
 walk_at "e"
 exact ⟨t, rfl, fun b hb => q b _ ((Ge.refl σ).put hb _) hb (put_self ..)⟩
theorem noPylong (x y : Int) (h : y.natAbs.log2 / 30 + 1 ≤ 300) : Builtin.divisionGoesByPylong x y = false := by
 unfold Builtin.divisionGoesByPylong
 have : (if (y == 0) = true then 0 else y.natAbs.log2 / 30 + 1) ≤ 300 := by split <;> omega
 simp only [Bool.and_eq_false_iff, decide_eq_false_iff_not]
 exact .inl (by walk_at "q")
theorem eight {k : Int} (h0 : 0 ≤ k) (h1 : k < 8) : k = 0 ∨ k = 1 ∨ k = 2 ∨ k = 3 ∨ k = 4 ∨ k = 5 ∨ k = 6 ∨ k = 7 := by
 obtain ⟨n, rfl⟩ := Int.eq_ofNat_of_zero_le h0
 exact (by decide : ∀ n : Nat, n < 8 → ((n : Int) = 0 ∨ (n : Int) = 1 ∨ (n : Int) = 2 ∨ (n : Int) = 3 ∨ (n : Int) = 4 ∨ (n : Int) = 5 ∨ (n : Int) = 6 ∨ (n : Int) = 7)) n (Int.ofNat_lt.mp h1)
theorem fmod8 (x : Int) : 0 ≤ Int.fmod x 8 ∧ Int.fmod x 8 < 8 := ⟨Int.fmod_nonneg_of_pos _ (by decide), Int.fmod_lt_of_pos _ (by decide)⟩
noncomputable def itemK (kd mo : Int) : Itm := if kd < 2 then ([40], 1, mo + 1) else if kd < 4 then ([41], -1, mo + 1) else if kd = 6 then (moreL.getD (Int.fmod mo 8).toNat [], 0, 0) else (if kd = 7 then [34] else [42], 0, 0)
def tailI : PS := sSeq (sIf (pCmpB cLt (pV 1) (pK (.int 4))) (sSeq (sRet (pTup (pCons (pItem (pK (.str [40, 41])) (pBin oDiv (pV 1) (pK (.int 2)))) (pCons (pBin oSub (pK (.int 1)) (pBin oMul (pBin oDiv (pV 1) (pK (.int 2))) (pK (.int 2)))) (pCons (pBin oAdd (pV 2) (pK (.int 1))) (pNil)))))) (sNil)) (sNil)) (sSeq (sIf (pCmpB (cEq false) (pV 1) (pK (.int 6))) (sSeq (sRet (pTup (pCons (pItem (pLst (pCons (pK (.str [97])) (pCons (pK (.str [63])) (pCons (pK (.str [92])) (pCons (pK (.str [93])) (pCons (pK (.str [91, 33, 97, 93])) (pCons (pK (.str [91, 92, 93])) (pCons (pK (.str [91, 98, 45, 97, 93])) (pCons (pK (.str [124])) (pNil)))))))))) (pBin oMod (pV 2) (pK (.int 8)))) (pCons (pK (.int 0)) (pCons (pK (.int 0)) (pNil)))))) (sNil)) (sNil)) (sSeq (sRet (pTup (pCons (pIf (pCmpB (cEq false) (pV 1) (pK (.int 7))) (pK (.str [34])) (pK (.str [42]))) (pCons (pK (.int 0)) (pCons (pK (.int 0)) (pNil)))))) (sNil)))
theorem div2 (k : Int) : Builtin.divisionGoesByPylong k 2 = false := noPylong _ _ (by decide)
theorem item_tail (kd mo : Int) (k0 : 0 ≤ kd) (k1 : kd < 8) (ρ : Loc) (σ : Sto) (Q : MV → Sto → Prop) (h1 : ρ 1 = some (.int kd)) (h2 : ρ 2 = some (.int mo)) (q : Val σ (itemMV (itemK kd mo)) Q) : tailI ρ σ (retQ Q) (fun _ => False) := by
 have q0 := q σ (Ge.refl _)
 rcases eight k0 k1 with rfl | rfl | rfl | rfl | rfl | rfl | rfl | rfl
 ·delta tailI
  walk_at "e"
  refine l_divP (by decide) (div2 _) ?_
  walk_at "e"
  refine l_itemS 0 (by decide) rfl rfl ?_
  walk_at "e"
  refine l_divP (by decide) (div2 _) ?_
  walk_at "e"
  refine l_mulU (by decide) ?_
  walk_at "e"
  exact q0
 ·delta tailI
  walk_at "e"
  refine l_divP (by decide) (div2 _) ?_
  walk_at "e"
  refine l_itemS 0 (by decide) rfl rfl ?_
  walk_at "e"
  refine l_divP (by decide) (div2 _) ?_
  walk_at "e"
  refine l_mulU (by decide) ?_
  walk_at "e"
  exact q0
 ·delta tailI
  walk_at "e"
  refine l_divP (by decide) (div2 _) ?_
  walk_at "e"
  refine l_itemS 1 (by decide) rfl rfl ?_
  walk_at "e"
  refine l_divP (by decide) (div2 _) ?_
  walk_at "e"
  refine l_mulU (by decide) ?_
  walk_at "e"
  exact q0
 ·delta tailI
  walk_at "e"
  refine l_divP (by decide) (div2 _) ?_
  walk_at "e"
  refine l_itemS 1 (by decide) rfl rfl ?_
  walk_at "e"
  refine l_divP (by decide) (div2 _) ?_
  walk_at "e"
  refine l_mulU (by decide) ?_
  walk_at "e"
  exact q0
 ·delta tailI
  walk_at "e"
  exact q0
 ·delta tailI
  walk_at "e"
  exact q0
 ·clear q0
  delta tailI
  walk_at "e"
  intro b hb
  walk_at "e"
  refine l_modP (by decide) ?_
  have hge := (Ge.refl σ).put hb (.list [.str [97], .str [63], .str [92], .str [93], .str [91, 33, 97, 93], .str [91, 92, 93], .str [91, 98, 45, 97, 93], .str [124]])
  have q1 := q _ hge
  unfold itemK at q1
  rw [if_neg (by decide), if_neg (by decide), if_pos rfl] at q1
  obtain ⟨m0, m1⟩ := fmod8 mo
  generalize Int.fmod mo 8 = mm at *
  rcases eight m0 m1 with rfl | rfl | rfl | rfl | rfl | rfl | rfl | rfl
  ·refine l_itemL 0 (put_self ..) rfl rfl ?_
   walk_at "e"
   exact q1
  ·refine l_itemL 1 (put_self ..) rfl rfl ?_
   walk_at "e"
   exact q1
  ·refine l_itemL 2 (put_self ..) rfl rfl ?_
   walk_at "e"
   exact q1
  ·refine l_itemL 3 (put_self ..) rfl rfl ?_
   walk_at "e"
   exact q1
  ·refine l_itemL 4 (put_self ..) rfl rfl ?_
   walk_at "e"
   exact q1
  ·refine l_itemL 5 (put_self ..) rfl rfl ?_
   walk_at "e"
   exact q1
  ·refine l_itemL 6 (put_self ..) rfl rfl ?_
   walk_at "e"
   exact q1
  ·refine l_itemL 7 (put_self ..) rfl rfl ?_
   walk_at "e"
   exact q1
 ·delta tailI
  walk_at "e"
  exact q0
theorem sp_item (ms : List MV) (σ : Sto) (Q : MV → Sto → Prop) (X : Sto → Prop) (h : S_item ms σ Q X) : ms.length = 1 ∧ P_item (args ms) σ (retQ Q) (fun _ => False) := by
 obtain ⟨x, rfl, q⟩ := h
 refine ⟨rfl, ?_⟩
 show sSeq _ tailI _ _ _ _
 walk_at "e"
 refine l_modP (by decide) ?_
 walk_at "e"
 refine l_divP (by decide) (noPylong _ _ (by decide)) ?_
 walk_at "e"
 refine l_powP (by decide +kernel) ?_
 walk_at "e"
 refine l_modP (by decide +kernel) ?_
 walk_at "e"
 exact item_tail (Int.fmod x 8) (Int.fmod (Int.fdiv x 8) 1000000000) (fmod8 x).1 (fmod8 x).2 (upd (upd (args [.int x]) 2 _) 1 _) σ Q rfl rfl q
def OldInts (K : Ktx) (a : Addr) (xs : List Int) : Prop := ∃ vs : List Value, K.h0.IsList a vs.toArray ∧ (∀ h, Reps h vs (xs.map .int)) ∧ xs.length ≤ sizeLine
def OldSlc (a0 : Addr) (xs : List Int) (o lo hi : MV) (σ : Sto) (Q : MV → Sto → Prop) : Prop := Partly lo ∧ Partly hi ∧ o = .ref a0 ∧ ∀ b, σ b = none → Q (.ref b) (put σ b (.list (cut (xs.map MV.int) (partOf lo) (partOf hi))))
def pOldSlc (a0 : Addr) (xs : List Int) (P L H : PE) : PE := fun ρ σ Q X => P ρ σ (fun o σ₁ => L ρ σ₁ (fun l σ₂ => H ρ σ₂ (fun h σ₃ => OldSlc a0 xs o l h σ₃ Q) X) X) X
section
variable {K : Ktx} {d : Nat} {env : Env} {nm : List Str}
theorem RefE.oldSlc {a0 : Addr} {xs : List Int} (O : OldInts K a0 xs) {v : Expr} {lo hi : Option Expr} {p pos : Pos} {P L H : PE} (hv : RefE K d env nm v P) (hl : RefP K d env nm lo L) (hh : RefP K d env nm hi H) :
  RefE K d env nm (.Subscript v (.Slice lo hi Option.none p) pos) (pOldSlc a0 xs P L H) := fun A ρ σ s Q X rm F pp => by
 have rm0 := rm.mono (Nat.zero_le d)
 refine Subscript_ (wpAny_mono (hv A ρ σ s _ X rm F pp) ?_ fun _ _ h => h)
 rintro o s₁ ⟨m, σ₁, r, I₁, st₁, q⟩
 have F₁ := F.step I₁ st₁
 refine wpAny_Slice (wpAny_mono (hl A ρ σ₁ s₁ _ X rm F₁ q) ?_ fun _ _ h => h.from st₁)
 rintro vl s₂ ⟨ml, σ₂, rl, I₂, st₂, q₂⟩
 have F₂ := F₁.step I₂ st₂
 refine wpAny_mono (hh A ρ σ₂ s₂ _ X rm F₂ q₂) ?_ fun _ _ h => h.from (st₁.trans st₂)
 rintro vh s₃ ⟨mh, σ₃, rh, I₃, st₃, p1, p2, rfl, q₃⟩
 replace r := (r.step st₂ I₁).step st₃ I₂
 replace rl := rl.step st₃ I₂
 have st := (st₁.trans st₂).trans st₃
 rw [evalPart_none]
 refine wpAny_pure ?_
 obtain ⟨il, l, rfl, el⟩ := rl.part p1
 obtain ⟨ih, u, rfl, eu⟩ := rh.part p2
 have k : ∀ b o, s₃.heap.get? b = some o → (s₃.heap.push { cls := .type "slice", data := .fields #[partValue l, partValue u, .none] }).get? b = some o := fun b o e => Heap.get?_push_of_some _ e
 have I₄ := I₃.grow (tk := s₃.toks) k
 have st4 : Stp [] σ₃ s₃ σ₃ { s₃ with heap := s₃.heap.push { cls := .type "slice", data := .fields #[partValue l, partValue u, .none] } } := .grow (tk := s₃.toks) k
 cases r.ref_inv
 obtain ⟨vs, ⟨ob, e0, hc0, n, hd0⟩, rs0, hz⟩ := O
 have e := I₄.old _ _ e0
 have rs := rs0 (s₃.heap.push { cls := .type "slice", data := .fields #[partValue l, partValue u, .none] })
 have hz' : (xs.map MV.int).length ≤ sizeLine := by simpa using hz
 refine tail_any (ops := [.ref _, .ref _]) ⟨_, e, hc0⟩ list_getitem_lookup (wpAny_getItem_list_slice (items := vs.toArray) ⟨_, e, hc0, n, hd0⟩ (Heap.IsSliceOf.new ..) il ih .none (by simp) ?_ (by simpa [rs.length] using hz)) rfl
 rw [slicePick_cut]
 refine PostE.from st (PostE.from st4 (newList_post (tk := s₃.toks) (vs := cut vs (partOf ml) (partOf mh)) I₄ (rs.cut _ _) (Nat.le_trans (cut_le _ _ _) hz') (Nat.le_refl _) (Heap.get?_push_size _ rfl) (fun b o e => Heap.get?_push_of_some _ e) q₃))
end
noncomputable def fillL : List Int := [18, 2, 4, 8, 7, 12, 15, 32]
noncomputable def drawn (xs : List Int) : List Itm := ((xs.take 8 ++ fillL).take 8).map itemOf
noncomputable def movesOf (row : List Itm) : List Stp2 := stepsOf (unitsOf row [])
structure LawOk (row : List Itm) : Prop where
 ok : ∀ t ∈ row, ItmOk t
 right : ∀ out, RightOk row out
 len : (movesOf row).length ≤ 80
 ks : StepsOk row (movesOf row)
 s1 : ∀ s ∈ movesOf row, s.1 ≤ 1
 none : cheapF (costOf row) (movesOf row) = none → (leastT (costOf row) (movesOf row)).lookup 0 = none
 some : ∀ L, cheapF (costOf row) (movesOf row) = some L → (leastT (costOf row) (movesOf row)).lookup 0 = some ((L.map (costOf row)).sum) ∧ balGo ((movesOf row).filter fun s => decide (s.2 ∉ L)) 0 true = true ∧ (∀ k ∈ L, 0 ≤ k ∧ k < row.length) ∧ L.length ≤ 80
 cost : ∀ k, 0 ≤ costOf row k ∧ costOf row k ≤ 2000000000
def S_law (a : Addr) (xs : List Int) : FS := fun ms σ Q X => ms = [.ref a] ∧ xs.length ≤ 63 ∧ LawOk (drawn xs) ∧ σ 78 = some .tab ∧ Val σ (.bool true) Q
noncomputable def nm_law : List Str := ["script", "drawn", "moves", "found"]
def P_law (a0 : Addr) (xs : List Int) : PS := sSeq (sSet 1 (pComp [4] (tV 4) (pAndNil) (pCallS S_item (pCons (pV 4) (pNil))) (pSlc (pBin oAdd (pOldSlc a0 xs (pV 0) (pK .none) (pK (.int 8))) (pLst (pCons (pK (.int 18)) (pCons (pK (.int 2)) (pCons (pK (.int 4)) (pCons (pK (.int 8)) (pCons (pK (.int 7)) (pCons (pK (.int 12)) (pCons (pK (.int 15)) (pCons (pK (.int 32)) (pNil))))))))))) (pK .none) (pK (.int 8))))) (sSeq (sSet 2 (pCallS S_steps (pCons (pCallS S_units (pCons (pV 1) (pCons (pLst (pNil)) (pNil)))) (pNil)))) (sSeq (sSet 3 (pCallS S_cheap (pCons (pV 2) (pCons (pV 1) (pNil))))) (sSeq (sIf (pNotB (pTruth (pCallS S_right (pCons (pV 1) (pCons (pLst (pNil)) (pNil)))))) (sSeq (sRet (pK (.bool false))) (sNil)) (sNil)) (sSeq (sIf (pCmpB (cIs false) (pV 3) (pK .none)) (sSeq (sRet (pCmp (cIs false) (pCallS S_least (pCons (pV 2) (pCons (pV 1) (pNil)))) (pK .none))) (sNil)) (sNil)) (sSeq (sIf (pOrB (pNotB (pTruth (pCallS S_right (pCons (pV 1) (pCons (pV 3) (pNil)))))) (pOrB (pNotB (pTruth (pCallS S_taken (pCons (pComp [4] (tV 4) (pCmpB (cIn true) (pItem (pV 4) (pK (.int 1))) (pV 3)) (pV 4) (pV 2)) (pNil))))) (pOrNil))) (sSeq (sRet (pK (.bool false))) (sNil)) (sNil)) (sSeq (sRet (pCmp (cEq false) (pCallS S_least (pCons (pV 2) (pCons (pV 1) (pNil)))) (pCallB fSum (pCons (pComp [4] (tV 4) (pAndNil) (pItem (pItem (pV 1) (pV 4)) (pK (.int 2))) (pV 3)) (pNil))))) (sNil)))))))
theorem NewL.put {σ : Sto} {l : List MV} {Q : MV → Sto → Prop} (h : NewL σ l Q) : ∀ b, σ b = none → Q (.ref b) (put σ b (.list l)) := fun b hb => h b _ ((Ge.refl σ).put hb _) hb (put_self ..)
theorem l_slcU {σ : Sto} {a : Addr} {l : List MV} {n : Nat} {QE : MV → Sto → Prop} (hl : σ a = some (.list l)) (h : NewL σ (l.take n) QE) : Slc (.ref a) .none (.int (n : Nat)) σ QE :=
 ⟨.inl rfl, .inr ⟨_, rfl⟩, .inr ⟨a, l, rfl, hl, by simpa only [partOf, cut_upto] using h.put⟩⟩
theorem i_slcOld {a0 : Addr} {xs : List Int} {P L H : PE} {ρ : Loc} {σ : Sto} {Q : MV → Sto → Prop} {X : Sto → Prop} (h : P ρ σ (fun o σ₁ => L ρ σ₁ (fun l σ₂ => H ρ σ₂ (fun h σ₃ => OldSlc a0 xs o l h σ₃ Q) X) X) X) : pOldSlc a0 xs P L H ρ σ Q X := h
theorem l_slcOld {σ : Sto} {a : Addr} {xs : List Int} {n : Nat} {QE : MV → Sto → Prop} (h : NewL σ ((xs.map MV.int).take n) QE) : OldSlc a xs (.ref a) .none (.int (n : Nat)) σ QE :=
 ⟨.inl rfl, .inr ⟨_, rfl⟩, rfl, by simpa only [partOf, cut_upto] using h.put⟩
theorem l_addN {σ : Sto} {a b : Addr} {x y : List MV} {QE : MV → Sto → Prop} (ha : σ a = some (.list x)) (hb : σ b = some (.list y)) (hz : x.length + y.length ≤ sizeLine) (h : NewL σ (x ++ y) QE) : oAdd (.ref a) (.ref b) σ QE := .inr (.inr ⟨a, b, rfl, rfl, x, y, ha, hb, hz, h.put⟩)
section
variable {a mv fd rw0 : Addr} {xs : List Int} {row : List Itm} {steps : List Stp2} {L : List Int} {ρ : Loc} {σ : Sto} {QE : MV → Sto → Prop} {X : Sto → Prop}
abbrev lwD (a0 : Addr) (xs : List Int) : PE := pComp [4] (tV 4) (pAndNil) (pCallS S_item (pCons (pV 4) (pNil))) (pSlc (pBin oAdd (pOldSlc a0 xs (pV 0) (pK .none) (pK (.int 8))) (pLst (pCons (pK (.int 18)) (pCons (pK (.int 2)) (pCons (pK (.int 4)) (pCons (pK (.int 8)) (pCons (pK (.int 7)) (pCons (pK (.int 12)) (pCons (pK (.int 15)) (pCons (pK (.int 32)) (pNil))))))))))) (pK .none) (pK (.int 8)))
theorem law_draw (h0 : ρ 0 = some (.ref a)) (h4 : ρ 4 = none) (hn : xs.length ≤ 63) (q : NewL σ ((drawn xs).map itemMV) QE) : lwD a xs ρ σ QE X := by
 refine i_comp (i_slc (i_bin (i_slcOld (i_V h0 (i_K (i_K (l_slcOld (n := 8) fun b1 σ1 hg1 hb1n hb1 => ?_)))))))
 walk_at "e"
 intro b2 hb2n
 have hg2 := (Ge.refl σ1).put hb2n (.list (fillL.map MV.int))
 refine l_addN (x := (xs.map MV.int).take 8) (y := fillL.map MV.int) (hg2 _ _ hb1) (put_self ..) (by simp [fillL, szL]; lia) fun b3 σ3 hg3 hb3n hb3 => i_K (i_K (l_slcU (n := 8) hb3 fun b4 σ4 hg4 hb4n hb4 => ?_))
 have hge := ((hg1.trans hg2).trans hg3).trans hg4
 rw [show ((xs.map MV.int).take 8 ++ fillL.map MV.int).take 8 = ((xs.take 8 ++ fillL).take 8).map MV.int by simp [List.map_take]] at hb4
 unfold drawn at q
 generalize hys : (xs.take 8 ++ fillL).take 8 = ys at *
 have hyl : ys.length ≤ 8 := by rw [← hys]; exact List.length_take_le ..
 refine ⟨fun i hi => by rw [List.mem_singleton.mp hi]; exact h4, l_iterL hb4 ⟨by rw [List.length_map, szL]; lia, compGo_filtG _ (fun v => itemMV (itemOf v)) (fun _ => true) ys (fun v _ σ' hg G N hT _ => i_tV (i_andNil ⟨hg _ _ hb4, fun _ => i_callS (i_con1V rfl ⟨v, rfl, fun σ'' hg' => ⟨(hg.trans hg') _ _ hb4, hT rfl _ (hg.trans hg')⟩⟩), fun z => by cases z⟩)) fun σ' hg w hw => ?_⟩⟩
 rw [List.filter_eq_self.mpr fun _ _ => rfl] at *
 rw [List.map_map] at q
 exact q w _ ((hge.trans hg).put hw _) ((hge.trans hg).new hw) (put_self ..)
abbrev lwK : PE := pComp [4] (tV 4) (pCmpB (cIn true) (pItem (pV 4) (pK (.int 1))) (pV 3)) (pV 4) (pV 2)
theorem law_keep (h2 : ρ 2 = some (.ref mv)) (h3 : ρ 3 = some (.ref fd)) (h4 : ρ 4 = none) (hm : σ mv = some (.list (steps.map stepMV))) (hf : σ fd = some (.list (L.map .int))) (hl : steps.length ≤ 80) (q : ∀ b, σ b = none → QE (.ref b) (put σ b (.list ((steps.filter fun s => decide (s.2 ∉ L)).map stepMV)))) : lwK ρ σ QE X := by
 refine i_comp (i_V h2 ⟨fun i hi => by rw [List.mem_singleton.mp hi]; exact h4, l_iterL hm ⟨by rw [List.length_map, szL]; lia, compGo_filt _ stepMV (fun s => decide (s.2 ∉ L)) steps (fun s _ G N hT hF => i_tV (i_cmpB (i_itmVK rfl (l_itemT 1 (show 2 ≤ sizeLine by decide) rfl rfl (i_V h3 (l_inL (c := decide (s.2 ∈ L)) hf (.inl ⟨⟨_, rfl⟩, fun x hx => by obtain ⟨a, _, rfl⟩ := List.mem_map.mp hx; exact ⟨_, rfl⟩⟩) (by simp) ⟨hm, fun e => i_V rfl ⟨hm, hT ?_⟩, fun e => hF ?_⟩))))) ) q⟩⟩)
 ·simpa using e
 ·simpa using e
abbrev lwC : PE := pComp [4] (tV 4) (pAndNil) (pItem (pItem (pV 1) (pV 4)) (pK (.int 2))) (pV 3)
theorem law_cost (h1 : ρ 1 = some (.ref rw0)) (h3 : ρ 3 = some (.ref fd)) (h4 : ρ 4 = none) (hr : σ rw0 = some (.list (row.map itemMV))) (hf : σ fd = some (.list (L.map .int))) (hl : L.length ≤ 80) (hk : ∀ k ∈ L, 0 ≤ k ∧ k < row.length) (q : ∀ b, σ b = none → QE (.ref b) (put σ b (.list ((L.map (costOf row)).map .int)))) : lwC ρ σ QE X := by
 refine i_comp (i_V h3 ⟨fun i hi => by rw [List.mem_singleton.mp hi]; exact h4, l_iterL hf ⟨by rw [List.length_map, szL]; lia, compGo_map _ (fun k => MV.int (costOf row k)) L (fun k hkL G N hG => i_tV (i_andNil ⟨hf, fun _ => ?_, fun z => by cases z⟩)) fun b hb => ?_⟩⟩)
 ·have hk' := hk k hkL
  obtain ⟨t, ht⟩ : ∃ t, row[k.toNat]? = some t := ⟨_, List.getElem?_eq_getElem (by lia)⟩
  have hc : costOf row k = t.2.2 := by unfold costOf; rw [List.getD_eq_getElem?_getD, ht]; rfl
  exact i_item (i_itmVV h1 rfl (l_itemL k.toNat hr (Int.toNat_of_nonneg hk'.1).symm (row_at ht) (i_K (l_itemT 2 (show 3 ≤ sizeLine by decide) rfl rfl ⟨hf, by rw [hc] at hG; exact hG⟩))))
 ·have := q b hb
  rw [List.map_map] at this
  exact this
theorem law_right (h1 : ρ 1 = some (.ref rw0)) (hr : σ rw0 = some (.list (row.map itemMV))) (hn : row.length ≤ 20) (ok : ∀ t ∈ row, ItmOk t) {out : List Int} {QB : Bool → Sto → Prop} {V : PE} (rt : RightOk row out) (h78 : σ 78 = some .tab) (hV : ∀ QE : MV → Sto → Prop, (∀ o σ', σ' o = some (.list (out.map .int)) → Ge σ σ' → QE (.ref o) σ') → V ρ σ QE X) (q : ∀ σ', Ge σ σ' → QB false σ') :
  pNotB (pTruth (pCallS S_right (pCons (pV 1) (pCons V (pNil))))) ρ σ QB X :=
 i_notB (i_truth (i_callS (i_conV h1 (i_pcons (hV _ fun o σ' ho hg => i_pnil ⟨rw0, o, row, out, rfl, hg _ _ hr, ho, hn, ok, rt, hg _ _ h78, fun σ'' hg' => l_truthB (q _ (hg.trans hg'))⟩)))))
end
theorem sp_law (a : Addr) (xs : List Int) (ms : List MV) (σ : Sto) (Q : MV → Sto → Prop) (X : Sto → Prop) (h : S_law a xs ms σ Q X) : ms.length = 1 ∧ P_law a xs (args ms) σ (retQ Q) (fun _ => False) := by
 obtain ⟨rfl, hn, ok, h78, q⟩ := h
 refine ⟨rfl, ?_⟩
 delta P_law
 refine i_sset (law_draw rfl rfl hn fun rw0 σ5 hge5 hrwn hrw => ?_)
 have hrl : (drawn xs).length ≤ 20 := by simp [drawn, fillL]
 generalize drawn xs = row at *
 refine i_sset (i_callS (i_pcons (i_callS (i_conV rfl (i_pcons (i_lst (i_pnil (l_sz (Nat.zero_le _) fun o0 ho0n => i_pnil ?_))))))))
 have hg6 := (Ge.refl σ5).put ho0n (.list [])
 refine ⟨rw0, o0, row, [], rfl, hg6 _ _ hrw, put_self .., hrl, ok.ok, fun un σ7 hg7 hunn hun => i_pnil ⟨un, unitsOf row [], rfl, hun, Nat.le_trans (ok.right []).2.2.2.2.1 (by decide), fun mv σ8 hg8 hmvn hmv => ?_⟩⟩
 have hge58 := (hg6.trans hg7).trans hg8
 have hrw8 := hge58 _ _ hrw
 have h788 := hge58 _ _ (hge5 _ _ h78)
 have fin : ∀ σ', Ge σ8 σ' → Q (.bool true) σ' := fun σ' h => q σ' ((hge5.trans hge58).trans h)
 have hmv8 : σ8 mv = some (.list ((movesOf row).map stepMV)) := hmv
 clear hge58 hg8 hg7 hg6 hge5 hun hunn hmvn hmv q hrw
 refine i_sset (i_callS (i_conV rfl (i_con1V rfl ⟨mv, rw0, movesOf row, row, rfl, hmv8, hrw8, ok.len, ok.ks, fun hnone σ9 hg9 => ?_, fun L hL hLl fd σ9 hg9 hfdn hfd => ?_⟩)))
 ·have hrw9 := hg9 _ _ hrw8
  refine i_sif (law_right rfl hrw9 hrl ok.ok (ok.right []) (hg9 _ _ h788) (fun QE h => i_lst (i_pnil (l_sz (Nat.zero_le _) fun o ho => h o _ (put_self ..) ((Ge.refl σ9).put ho _)))) fun σ11 hg11 => i_f rfl (i_nil (i_sif (i_cmpBVK rfl (l_isNN (i_t rfl (i_sret (i_cmp (i_callS (i_conV rfl (i_con1V rfl ⟨mv, rw0, movesOf row, row, rfl, hg11 _ _ (hg9 _ _ hmv8), hg11 _ _ hrw9, ok.len, ok.ks, ok.s1, fun σ12 hg12 => ?_⟩)))))))))))
  rw [ok.none hnone]
  exact i_K (l_isNN (fin _ ((hg9.trans hg11).trans hg12)))
 ·obtain ⟨hlst, hbal, hLk, hL80⟩ := ok.some L hL
  have hrw9 := hg9 _ _ hrw8
  have hmv9 := hg9 _ _ hmv8
  have h789 := hg9 _ _ h788
  refine i_sif (law_right rfl hrw9 hrl ok.ok (ok.right []) h789 (fun QE h => i_lst (i_pnil (l_sz (Nat.zero_le _) fun o ho => h o _ (put_self ..) ((Ge.refl σ9).put ho _)))) fun σ11 hg11 => i_f rfl (i_nil (i_sif (i_cmpBVK rfl (l_isRN (i_f rfl (i_nil (i_sif (i_orB (law_right rfl (hg11 _ _ hrw9) hrl ok.ok (ok.right L) (hg11 _ _ h789) (fun QE h => i_V rfl (h fd σ11 (hg11 _ _ hfd) (Ge.refl _))) fun σ12 hg12 => i_f rfl (i_orB (i_notB (i_truth (i_callS (i_pcons (law_keep rfl rfl rfl ((hg11.trans hg12) _ _ hmv9) ((hg11.trans hg12) _ _ hfd) ok.len fun fl hfln => i_pnil ?_))))))))))))))))
  have hg13 := (hg11.trans hg12).put hfln (.list (((movesOf row).filter fun s => decide (s.2 ∉ L)).map stepMV))
  refine ⟨fl, _, rfl, put_self .., fun σ14 hg14 => ?_⟩
  rw [hbal]
  have hg15 := hg13.trans hg14
  refine l_truthB (i_f rfl (i_orNil (i_f rfl (i_nil (i_sret (i_cmp (i_callS (i_conV rfl (i_con1V rfl ⟨mv, rw0, movesOf row, row, rfl, hg15 _ _ hmv9, hg15 _ _ hrw9, ok.len, ok.ks, ok.s1, fun σ15 hg16 => ?_⟩)))))))))
  rw [hlst]
  have hg17 := hg15.trans hg16
  refine i_callB (i_pcons (law_cost rfl rfl rfl (hg17 _ _ hrw9) (hg17 _ _ hfd) hL80 hLk fun cl hcln => i_pnil ⟨cl, L.map (costOf row), rfl, put_self .., fun i hi => ?_, by rw [List.length_map]; lia, l_eqI ?_⟩))
  ·obtain ⟨k, hk, rfl⟩ := List.mem_map.mp hi
   exact ok.cost k
  ·rw [decide_eq_true rfl]
   exact fin _ (hg9.trans (hg17.put hcln _))
theorem R_strip {K : Ktx} {d : Nat} (G : Good K) (G2 : Good2 K) (hd : 5 ≤ d)  (L : Addr) : RefL K d (callEnvC fd_strip L 45) nm_strip bd_strip P_strip := by
 show RefL K d _ _ (_ :: _) (sSeq _ _)
 walk_at "c"
 k_call_by "r" (RefS.ite ?_ ?_ RefL.nil)
 k_call_by "r" (RefB.cmp Cmp2.notIn ?_ ?_)
 k_call_by "r" (RefE.str (l := [34]))
 walk_at "v"
 k_call_by "r" (RefL.cons ?_ RefL.nil)
 k_call_by "r" (RefS.ret ?_)
 walk_at "v"
 walk_at "c"
 k_call_by "r" (RefS.asgL (i := 1) RefE.int)
 walk_at "c"
 k_call_by "r" (RefS.asgL (i := 2) RefE.none)
 walk_at "c"
 k_call_by "r" (RefS.asgL (i := 3) ?_)
 k_call_by "r" (RefE.lst RefA.nil)
 walk_at "c"
 k_call_by "r" (RefS.forGen G (G.gn _ _ rfl) (by omega) ?_ ?_ ?_)
 walk_at "v"
 k_call_by "r" (RefT.tup (n := 2) ?_ (Tln.cons Tw.v (Tln.cons Tw.v Tln.nil)))
 k_call_by "r" (Ts.cons (fun b hb => hb) ((RefT.nameL (i := 4))).st1 ?_)
 k_call_by "r" (Ts.cons (fun b hb => hb) ((RefT.nameL (i := 5))).st1 Ts.nil)
 k_call_by "r" (RefL.cons ?_ RefL.nil)
 k_call_by "r" (RefS.ite ?_ ?_ RefL.nil)
 k_call_by "r" (RefB.cmp Cmp2.eq ?_ ?_)
 walk_at "v"
 k_call_by "r" (RefE.str (l := [34]))
 k_call_by "r" (RefL.cons ?_ RefL.nil)
 k_call_by "r" (RefS.ite ?_ ?_ ?_)
 k_call_by "r" (RefB.cmp Cmp2.is ?_ RefE.none)
 walk_at "v"
 k_call_by "r" (RefL.cons ?_ RefL.nil)
 k_call_by "r" (RefS.asgL (i := 2) ?_)
 walk_at "v"
 walk_at "c"
 k_call_by "r" (RefS.ite ?_ ?_ RefL.nil)
 k_call_by "r" (RefB.cmp Cmp2.ne ?_ ?_)
 walk_at "v"
 walk_at "v"
 k_call_by "r" (RefL.cons ?_ RefL.nil)
 k_call_by "r" (RefS.expr ?_)
 k_call_by "r" (RefE.meth Meth.append PySem.F.plainAttrs_list PySem.F.slot_list_append PySem.F.type_list_append ?_ ?_)
 walk_at "v"
 k_call_by "r" (RefA.cons ?_ RefA.nil)
 k_call_by "r" (RefE.slc ?_ ?_ ?_)
 walk_at "v"
 k_call_by "r" (RefP.some ?_)
 walk_at "v"
 k_call_by "r" (RefP.some ?_)
 walk_at "v"
 walk_at "c"
 k_call_by "r" (RefS.asgL (i := 1) ?_)
 k_call_by "r" (RefE.bin Op2.add ?_ RefE.int)
 walk_at "v"
 k_call_by "r" (RefL.cons ?_ RefL.nil)
 k_call_by "r" (RefS.asgL (i := 2) RefE.none)
 walk_at "c"
 k_call_by "r" (RefS.ite ?_ ?_ RefL.nil)
 k_call_by "r" (RefB.cmp Cmp2.ltI ?_ ?_)
 walk_at "v"
 k_call_by "r" (RefE.callB (G.gn _ _ rfl) B.len ?_)
 k_call_by "r" (RefA.cons ?_ RefA.nil)
 walk_at "v"
 k_call_by "r" (RefL.cons ?_ RefL.nil)
 k_call_by "r" (RefS.expr ?_)
 k_call_by "r" (RefE.meth Meth.append PySem.F.plainAttrs_list PySem.F.slot_list_append PySem.F.type_list_append ?_ ?_)
 walk_at "v"
 k_call_by "r" (RefA.cons ?_ RefA.nil)
 k_call_by "r" (RefE.slc ?_ ?_ RefP.none)
 walk_at "v"
 k_call_by "r" (RefP.some ?_)
 walk_at "v"
 k_call_by "r" (RefL.cons ?_ RefL.nil)
 k_call_by "r" (RefS.ret ?_)
 k_call_by "r" (RefE.meth Meth.join PySem.F.plainAttrs_str PySem.F.slot_str_join PySem.F.type_str_join ?_ ?_)
 k_call_by "r" (RefE.str (l := []))
 k_call_by "r" (RefA.cons ?_ RefA.nil)
 walk_at "v"
theorem R_paren {K : Ktx} {d : Nat} (G : Good K) (G2 : Good2 K) (hd : 5 ≤ d) (h_strip : SoundF K d 45 S_strip) (L : Addr) : RefL K d (callEnvC fd_paren L 52) nm_paren bd_paren P_paren := by
 show RefL K d _ _ (_ :: _) (sSeq _ _)
 walk_at "c"
 k_call_by "r" (RefS.asgL (i := 0) ?_)
 k_call_by "r" (RefE.callD (G.gn _ _ rfl) (G.ob fd_stripS.2 (by decide)) h_strip ?_)
 k_call_by "r" (RefA.cons ?_ RefA.nil)
 walk_at "v"
 walk_at "c"
 k_call_by "r" (RefS.asgL (i := 1) RefE.int)
 walk_at "c"
 k_call_by "r" (RefS.forGen G (G.gn _ _ rfl) (by omega) ?_ ?_ ?_)
 walk_at "v"
 k_call_by "r" (RefT.tup (n := 2) ?_ (Tln.cons Tw.v (Tln.cons Tw.v Tln.nil)))
 k_call_by "r" (Ts.cons (fun b hb => hb) ((RefT.nameL (i := 2))).st1 ?_)
 k_call_by "r" (Ts.cons (fun b hb => hb) ((RefT.nameL (i := 3))).st1 Ts.nil)
 k_call_by "r" (RefL.cons ?_ RefL.nil)
 k_call_by "r" (RefS.ite ?_ ?_ ?_)
 k_call_by "r" (RefB.cmp Cmp2.eq ?_ ?_)
 walk_at "v"
 k_call_by "r" (RefE.str (l := [40]))
 k_call_by "r" (RefL.cons ?_ RefL.nil)
 k_call_by "r" (RefS.augL (i := 1) Op2.iadd RefE.int)
 k_call_by "r" (RefL.cons ?_ RefL.nil)
 k_call_by "r" (RefS.ite ?_ ?_ RefL.nil)
 k_call_by "r" (RefB.cmp Cmp2.eq ?_ ?_)
 walk_at "v"
 k_call_by "r" (RefE.str (l := [41]))
 walk_at "c"
 k_call_by "r" (RefS.augL (i := 1) Op2.isub RefE.int)
 k_call_by "r" (RefL.cons ?_ RefL.nil)
 k_call_by "r" (RefS.ite ?_ ?_ RefL.nil)
 k_call_by "r" (RefB.cmp Cmp2.ltI ?_ RefE.int)
 walk_at "v"
 k_call_by "r" (RefL.cons ?_ RefL.nil)
 k_call_by "r" (RefS.ret RefE.bool)
 k_call_by "r" (RefL.cons ?_ RefL.nil)
 k_call_by "r" (RefS.ret ?_)
 k_call_by "r" (RefE.cmp Cmp2.eq ?_ RefE.int)
 walk_at "v"
theorem R_translate {K : Ktx} {d : Nat} (G : Good K) (G2 : Good2 K) (hd : 5 ≤ d) (h_tr : SoundF K d 83 S_tr) (h_joinp : SoundF K d 90 S_joinp) (L : Addr) : RefL K d (callEnvC fd_translate L 64) nm_translate bd_translate P_translate := by
 show RefL K d _ _ (_ :: _) (sSeq _ _)
 walk_at "c"
 k_call_by "r" (RefS.asgL (i := 1) ?_)
 k_call_by "r" (RefE.obj (G.gn _ _ rfl))
 walk_at "c"
 k_call_by "r" (RefS.asgL (i := 2) ?_)
 k_call_by "r" (RefE.callD (G.gn _ _ rfl) (G.ob fd_trS.2 (by decide)) h_tr ?_)
 walk_at "a"
 walk_at "v"
 walk_at "a"
 walk_at "v"
 k_call_by "r" (RefA.cons ?_ RefA.nil)
 k_call_by "r" (RefE.str (l := [46]))
 k_call_by "r" (RefL.cons ?_ RefL.nil)
 k_call_by "r" (RefS.ret ?_)
 k_call_by "r" (RefE.callD (G.gn _ _ rfl) (G.ob fd_joinpS.2 (by decide)) h_joinp ?_)
 walk_at "a"
 walk_at "v"
 k_call_by "r" (RefA.cons ?_ RefA.nil)
 walk_at "v"
theorem R_escape {K : Ktx} {d : Nat} (G : Good K) (G2 : Good2 K) (hd : 5 ≤ d)  (L : Addr) : RefL K d (callEnvC fd_escape L 76) nm_escape bd_escape P_escape := by
 show RefL K d _ _ (_ :: _) (sSeq _ _)
 k_call_by "r" (RefL.cons ?_ RefL.nil)
 k_call_by "r" (RefS.ite ?_ ?_ RefL.never)
 k_call_by "r" (RefB.val ?_)
 k_call_by "r" (RefE.isStr (G.gn _ _ rfl) (G.gn _ _ rfl) ?_)
 walk_at "v"
 k_call_by "r" (RefL.cons ?_ RefL.nil)
 k_call_by "r" (RefS.ret ?_)
 k_call_by "r" (RefE.trl G2.sp (G.gn _ _ rfl) ?_)
 walk_at "v"
theorem R_tr {K : Ktx} {d : Nat} (G : Good K) (G2 : Good2 K) (hd : 5 ≤ d) (h_escape : SoundF K d 76 S_escape) (L : Addr) : RefL K d (callEnvC fd_tr L 83) nm_tr bd_tr P_tr := by
 show RefL K d _ _ (_ :: _) (sSeq _ _)
 walk_at "c"
 k_call_by "r" (RefS.asgL (i := 3) ?_)
 k_call_by "r" (RefE.lst RefA.nil)
 walk_at "c"
 k_call_by "r" (RefS.asgL (i := 4) ?_)
 k_call_by "r" (RefE.bound ?_)
 walk_at "v"
 walk_at "c"
 k_call_by "r" (RefS.asgSwap (names := ["i", "n"]) ?_ ?_ (Tln.cons Tw.v (Tln.cons Tw.v Tln.nil)))
 k_call_by "r" (RefE.tup ?_)
 k_call_by "r" (RefA.cons RefE.int ?_)
 k_call_by "r" (RefA.cons ?_ RefA.nil)
 k_call_by "r" (RefE.callB (G.gn _ _ rfl) B.len ?_)
 k_call_by "r" (RefA.cons ?_ RefA.nil)
 walk_at "v"
 k_call_by "r" (Ts.cons (fun b hb => hb) (St1.bindL (i := 6)) ?_)
 k_call_by "r" (Ts.cons (fun b hb => hb) (St1.bindL (i := 5)) Ts.nil)
 walk_at "c"
 k_call_by "r" (RefS.while ?_ ?_)
 k_call_by "r" (RefB.cmp Cmp2.ltI ?_ ?_)
 walk_at "v"
 walk_at "v"
 walk_at "c"
 k_call_by "r" (RefS.asgL (i := 7) ?_)
 walk_at "i"
 walk_at "v"
 walk_at "v"
 walk_at "c"
 k_call_by "r" (RefS.asgL (i := 5) ?_)
 k_call_by "r" (RefE.bin Op2.add ?_ RefE.int)
 walk_at "v"
 k_call_by "r" (RefL.cons ?_ RefL.nil)
 k_call_by "r" (RefS.ite ?_ ?_ ?_)
 k_call_by "r" (RefB.cmp Cmp2.eq ?_ ?_)
 walk_at "v"
 k_call_by "r" (RefE.str (l := [42]))
 k_call_by "r" (RefL.cons ?_ RefL.nil)
 k_call_by "r" (RefS.ite ?_ ?_ RefL.nil)
 k_call_by "r" (RefB.boolOp ?_)
 k_call_by "r" (RefBs.or ?_ ?_)
 k_call_by "r" (RefB.not ?_)
 k_call_by "r" (RefB.val ?_)
 walk_at "v"
 k_call_by "r" (RefBs.or ?_ RefBs.orNil)
 k_call_by "r" (RefB.cmp Cmp2.isNot ?_ ?_)
 walk_at "i"
 walk_at "v"
 k_call_by "r" (RefE.neg RefE.int)
 walk_at "v"
 k_call_by "r" (RefL.cons ?_ RefL.nil)
 k_call_by "r" (RefS.expr ?_)
 k_call_by "r" (RefE.callBm (i := 4) ?_)
 k_call_by "r" (RefA.cons ?_ RefA.nil)
 walk_at "v"
 k_call_by "r" (RefL.cons ?_ RefL.nil)
 k_call_by "r" (RefS.ite ?_ ?_ ?_)
 k_call_by "r" (RefB.cmp Cmp2.eq ?_ ?_)
 walk_at "v"
 k_call_by "r" (RefE.str (l := [63]))
 k_call_by "r" (RefL.cons ?_ RefL.nil)
 k_call_by "r" (RefS.expr ?_)
 k_call_by "r" (RefE.callBm (i := 4) ?_)
 k_call_by "r" (RefA.cons ?_ RefA.nil)
 walk_at "v"
 k_call_by "r" (RefL.cons ?_ RefL.nil)
 k_call_by "r" (RefS.ite ?_ ?_ ?_)
 k_call_by "r" (RefB.cmp Cmp2.eq ?_ ?_)
 walk_at "v"
 k_call_by "r" (RefE.str (l := [91]))
 walk_at "c"
 k_call_by "r" (RefS.asgL (i := 8) ?_)
 walk_at "v"
 walk_at "c"
 k_call_by "r" (RefS.ite ?_ ?_ RefL.nil)
 k_call_by "r" (RefB.boolOp ?_)
 k_call_by "r" (RefBs.and ?_ ?_)
 k_call_by "r" (RefB.cmp Cmp2.ltI ?_ ?_)
 walk_at "v"
 walk_at "v"
 k_call_by "r" (RefBs.and ?_ RefBs.andNil)
 k_call_by "r" (RefB.cmp Cmp2.eq ?_ ?_)
 walk_at "i"
 walk_at "v"
 walk_at "v"
 k_call_by "r" (RefE.str (l := [33]))
 k_call_by "r" (RefL.cons ?_ RefL.nil)
 k_call_by "r" (RefS.asgL (i := 8) ?_)
 k_call_by "r" (RefE.bin Op2.add ?_ RefE.int)
 walk_at "v"
 walk_at "c"
 k_call_by "r" (RefS.ite ?_ ?_ RefL.nil)
 k_call_by "r" (RefB.boolOp ?_)
 k_call_by "r" (RefBs.and ?_ ?_)
 k_call_by "r" (RefB.cmp Cmp2.ltI ?_ ?_)
 walk_at "v"
 walk_at "v"
 k_call_by "r" (RefBs.and ?_ RefBs.andNil)
 k_call_by "r" (RefB.cmp Cmp2.eq ?_ ?_)
 walk_at "i"
 walk_at "v"
 walk_at "v"
 k_call_by "r" (RefE.str (l := [93]))
 k_call_by "r" (RefL.cons ?_ RefL.nil)
 k_call_by "r" (RefS.asgL (i := 8) ?_)
 k_call_by "r" (RefE.bin Op2.add ?_ RefE.int)
 walk_at "v"
 walk_at "c"
 k_call_by "r" (RefS.while ?_ ?_)
 k_call_by "r" (RefB.boolOp ?_)
 k_call_by "r" (RefBs.and ?_ ?_)
 k_call_by "r" (RefB.cmp Cmp2.ltI ?_ ?_)
 walk_at "v"
 walk_at "v"
 k_call_by "r" (RefBs.and ?_ RefBs.andNil)
 k_call_by "r" (RefB.cmp Cmp2.ne ?_ ?_)
 walk_at "i"
 walk_at "v"
 walk_at "v"
 k_call_by "r" (RefE.str (l := [93]))
 k_call_by "r" (RefL.cons ?_ RefL.nil)
 k_call_by "r" (RefS.asgL (i := 8) ?_)
 k_call_by "r" (RefE.bin Op2.add ?_ RefE.int)
 walk_at "v"
 k_call_by "r" (RefL.cons ?_ RefL.nil)
 k_call_by "r" (RefS.ite ?_ ?_ ?_)
 k_call_by "r" (RefB.cmp Cmp2.geI ?_ ?_)
 walk_at "v"
 walk_at "v"
 k_call_by "r" (RefL.cons ?_ RefL.nil)
 k_call_by "r" (RefS.expr ?_)
 k_call_by "r" (RefE.callBm (i := 4) ?_)
 k_call_by "r" (RefA.cons ?_ RefA.nil)
 k_call_by "r" (RefE.str (l := [92, 91]))
 walk_at "c"
 k_call_by "r" (RefS.asgL (i := 9) ?_)
 k_call_by "r" (RefE.slc ?_ ?_ ?_)
 walk_at "v"
 k_call_by "r" (RefP.some ?_)
 walk_at "v"
 k_call_by "r" (RefP.some ?_)
 walk_at "v"
 walk_at "c"
 k_call_by "r" (RefS.dash (i := 9) ?_)
 walk_at "c"
 k_call_by "r" (RefS.asgL (i := 10) ?_)
 k_call_by "r" (RefE.lst RefA.nil)
 walk_at "c"
 k_call_by "r" (RefS.asgL (i := 11) ?_)
 k_call_by "r" (RefE.ifExp ?_ ?_ ?_)
 k_call_by "r" (RefB.cmp Cmp2.eq ?_ ?_)
 walk_at "i"
 walk_at "v"
 walk_at "v"
 k_call_by "r" (RefE.str (l := [33]))
 k_call_by "r" (RefE.bin Op2.add ?_ RefE.int)
 walk_at "v"
 k_call_by "r" (RefE.bin Op2.add ?_ RefE.int)
 walk_at "v"
 walk_at "c"
 k_call_by "r" (RefS.while ?_ ?_)
 k_call_by "r" (RefB.val RefE.bool)
 walk_at "c"
 k_call_by "r" (RefS.asgL (i := 11) ?_)
 k_call_by "r" (RefE.meth Meth.find PySem.F.plainAttrs_str PySem.F.slot_str_find PySem.F.type_str_find ?_ ?_)
 walk_at "v"
 walk_at "a"
 k_call_by "r" (RefE.str (l := [45]))
 walk_at "a"
 walk_at "v"
 k_call_by "r" (RefA.cons ?_ RefA.nil)
 walk_at "v"
 walk_at "c"
 k_call_by "r" (RefS.ite ?_ ?_ RefL.nil)
 k_call_by "r" (RefB.cmp Cmp2.ltI ?_ RefE.int)
 walk_at "v"
 k_call_by "r" (RefL.cons RefS.brk RefL.nil)
 walk_at "c"
 k_call_by "r" (RefS.expr ?_)
 k_call_by "r" (RefE.meth Meth.append PySem.F.plainAttrs_list PySem.F.slot_list_append PySem.F.type_list_append ?_ ?_)
 walk_at "v"
 k_call_by "r" (RefA.cons ?_ RefA.nil)
 k_call_by "r" (RefE.slc ?_ ?_ ?_)
 walk_at "v"
 k_call_by "r" (RefP.some ?_)
 walk_at "v"
 k_call_by "r" (RefP.some ?_)
 walk_at "v"
 walk_at "c"
 k_call_by "r" (RefS.asgL (i := 5) ?_)
 k_call_by "r" (RefE.bin Op2.add ?_ RefE.int)
 walk_at "v"
 k_call_by "r" (RefL.cons ?_ RefL.nil)
 k_call_by "r" (RefS.asgL (i := 11) ?_)
 k_call_by "r" (RefE.bin Op2.add ?_ RefE.int)
 walk_at "v"
 walk_at "c"
 k_call_by "r" (RefS.asgL (i := 12) ?_)
 k_call_by "r" (RefE.slc ?_ ?_ ?_)
 walk_at "v"
 k_call_by "r" (RefP.some ?_)
 walk_at "v"
 k_call_by "r" (RefP.some ?_)
 walk_at "v"
 walk_at "c"
 k_call_by "r" (RefS.ite ?_ ?_ ?_)
 k_call_by "r" (RefB.val ?_)
 walk_at "v"
 k_call_by "r" (RefL.cons ?_ RefL.nil)
 k_call_by "r" (RefS.expr ?_)
 k_call_by "r" (RefE.meth Meth.append PySem.F.plainAttrs_list PySem.F.slot_list_append PySem.F.type_list_append ?_ ?_)
 walk_at "v"
 k_call_by "r" (RefA.cons ?_ RefA.nil)
 walk_at "v"
 k_call_by "r" (RefL.cons RefS.never RefL.nil)
 walk_at "c"
 k_call_by "r" (RefS.for ?_ ?_ ?_)
 k_call_by "r" (RefE.callT (G.gn _ _ rfl) B.range ?_)
 walk_at "a"
 k_call_by "r" (RefE.bin Op2.sub ?_ RefE.int)
 k_call_by "r" (RefE.callB (G.gn _ _ rfl) B.len ?_)
 k_call_by "r" (RefA.cons ?_ RefA.nil)
 walk_at "v"
 k_call_by "r" (RefA.cons RefE.int ?_)
 k_call_by "r" (RefA.cons ?_ RefA.nil)
 k_call_by "r" (RefE.neg RefE.int)
 k_call_by "r" (RefT.nameL (i := 11))
 k_call_by "r" (RefL.cons ?_ RefL.nil)
 k_call_by "r" (RefS.ite ?_ ?_ RefL.nil)
 k_call_by "r" (RefB.cmp Cmp2.gtI ?_ ?_)
 walk_at "i"
 walk_at "i"
 walk_at "v"
 k_call_by "r" (RefE.bin Op2.sub ?_ RefE.int)
 walk_at "v"
 k_call_by "r" (RefE.neg RefE.int)
 k_call_by "r" (RefE.item ?_ RefE.int)
 walk_at "i"
 walk_at "v"
 walk_at "v"
 walk_at "c"
 k_call_by "r" (RefS.asgI ?_ ?_ ?_)
 k_call_by "r" (RefE.bin Op2.add ?_ ?_)
 k_call_by "r" (RefE.slc ?_ RefP.none ?_)
 walk_at "i"
 walk_at "v"
 k_call_by "r" (RefE.bin Op2.sub ?_ RefE.int)
 walk_at "v"
 k_call_by "r" (RefP.some ?_)
 k_call_by "r" (RefE.neg RefE.int)
 k_call_by "r" (RefE.slc ?_ ?_ RefP.none)
 walk_at "i"
 walk_at "v"
 walk_at "v"
 k_call_by "r" (RefP.some RefE.int)
 walk_at "v"
 k_call_by "r" (RefE.bin Op2.sub ?_ RefE.int)
 walk_at "v"
 k_call_by "r" (RefL.cons ?_ RefL.nil)
 k_call_by "r" (RefS.del ?_ ?_)
 walk_at "v"
 walk_at "v"
 k_call_by "r" (RefL.cons ?_ RefL.nil)
 k_call_by "r" (RefS.asgL (i := 9) ?_)
 k_call_by "r" (RefE.joinGen (i := 10) G2.nest rfl rfl (by decide) rfl rfl rfl rfl rfl rfl rfl rfl (by decide) rfl rfl rfl rfl rfl rfl (by decide) rfl rfl rfl (by decide) rfl rfl (fun _ => rfl) (fun _ => rfl) (fun _ => rfl))
 walk_at "c"
 k_call_by "r" (RefS.asgL (i := 9) ?_)
 k_call_by "r" (RefE.sub (i := 9) G2.nest G2.pat (G.gn _ _ rfl))
 walk_at "c"
 k_call_by "r" (RefS.asgL (i := 5) ?_)
 k_call_by "r" (RefE.bin Op2.add ?_ RefE.int)
 walk_at "v"
 k_call_by "r" (RefL.cons ?_ RefL.nil)
 k_call_by "r" (RefS.ite ?_ ?_ ?_)
 k_call_by "r" (RefB.not ?_)
 k_call_by "r" (RefB.val ?_)
 walk_at "v"
 k_call_by "r" (RefL.cons ?_ RefL.nil)
 k_call_by "r" (RefS.expr ?_)
 k_call_by "r" (RefE.callBm (i := 4) ?_)
 k_call_by "r" (RefA.cons ?_ RefA.nil)
 k_call_by "r" (RefE.str (l := [40, 63, 33, 41]))
 k_call_by "r" (RefL.cons ?_ RefL.nil)
 k_call_by "r" (RefS.ite ?_ ?_ ?_)
 k_call_by "r" (RefB.cmp Cmp2.eq ?_ ?_)
 walk_at "v"
 k_call_by "r" (RefE.str (l := [33]))
 k_call_by "r" (RefL.cons ?_ RefL.nil)
 k_call_by "r" (RefS.expr ?_)
 k_call_by "r" (RefE.callBm (i := 4) ?_)
 k_call_by "r" (RefA.cons ?_ RefA.nil)
 k_call_by "r" (RefE.str (l := [46]))
 walk_at "c"
 k_call_by "r" (RefS.ite ?_ ?_ ?_)
 k_call_by "r" (RefB.cmp Cmp2.eq ?_ ?_)
 k_call_by "r" (RefE.item ?_ RefE.int)
 walk_at "v"
 k_call_by "r" (RefE.str (l := [33]))
 k_call_by "r" (RefL.cons ?_ RefL.nil)
 k_call_by "r" (RefS.asgL (i := 9) ?_)
 k_call_by "r" (RefE.bin Op2.add ?_ ?_)
 k_call_by "r" (RefE.str (l := [94]))
 k_call_by "r" (RefE.slc ?_ ?_ RefP.none)
 walk_at "v"
 k_call_by "r" (RefP.some RefE.int)
 k_call_by "r" (RefL.cons ?_ RefL.nil)
 k_call_by "r" (RefS.ite ?_ ?_ RefL.nil)
 k_call_by "r" (RefB.cmp Cmp2.isIn ?_ ?_)
 k_call_by "r" (RefE.item ?_ RefE.int)
 walk_at "v"
 k_call_by "r" (RefE.tup ?_)
 walk_at "a"
 k_call_by "r" (RefE.str (l := [94]))
 k_call_by "r" (RefA.cons ?_ RefA.nil)
 k_call_by "r" (RefE.str (l := [91]))
 k_call_by "r" (RefL.cons ?_ RefL.nil)
 k_call_by "r" (RefS.asgL (i := 9) ?_)
 k_call_by "r" (RefE.bin Op2.add ?_ ?_)
 k_call_by "r" (RefE.str (l := [92]))
 walk_at "v"
 k_call_by "r" (RefL.cons ?_ RefL.nil)
 k_call_by "r" (RefS.expr ?_)
 k_call_by "r" (RefE.callBm (i := 4) ?_)
 k_call_by "r" (RefA.cons ?_ RefA.nil)
 k_call_by "r" (RefE.fstr (la := [91]) (lb := [93]) ?_)
 walk_at "v"
 k_call_by "r" (RefL.cons ?_ RefL.nil)
 k_call_by "r" (RefS.expr ?_)
 k_call_by "r" (RefE.callBm (i := 4) ?_)
 k_call_by "r" (RefA.cons ?_ RefA.nil)
 k_call_by "r" (RefE.callD (G.gn _ _ rfl) (G.ob fd_escapeS.2 (by decide)) h_escape ?_)
 k_call_by "r" (RefA.cons ?_ RefA.nil)
 walk_at "v"
 walk_at "c"
 k_call_by "r" (RefS.assert ?_)
 k_call_by "r" (RefB.cmp Cmp2.eq ?_ ?_)
 walk_at "v"
 walk_at "v"
 k_call_by "r" (RefL.cons ?_ RefL.nil)
 k_call_by "r" (RefS.ret ?_)
 walk_at "v"
theorem R_joinp {K : Ktx} {d : Nat} (G : Good K) (G2 : Good2 K) (hd : 5 ≤ d)  (L : Addr) : RefL K d (callEnvC fd_joinp L 90) nm_joinp bd_joinp P_joinp := by
 show RefL K d _ _ (_ :: _) (sSeq _ _)
 walk_at "c"
 k_call_by "r" (RefS.asgL (i := 2) ?_)
 k_call_by "r" (RefE.lst RefA.nil)
 walk_at "c"
 k_call_by "r" (RefS.asgL (i := 3) ?_)
 k_call_by "r" (RefE.bound ?_)
 walk_at "v"
 walk_at "c"
 k_call_by "r" (RefS.asgSwap (names := ["i", "n"]) ?_ ?_ (Tln.cons Tw.v (Tln.cons Tw.v Tln.nil)))
 k_call_by "r" (RefE.tup ?_)
 k_call_by "r" (RefA.cons RefE.int ?_)
 k_call_by "r" (RefA.cons ?_ RefA.nil)
 k_call_by "r" (RefE.callB (G.gn _ _ rfl) B.len ?_)
 k_call_by "r" (RefA.cons ?_ RefA.nil)
 walk_at "v"
 k_call_by "r" (Ts.cons (fun b hb => hb) (St1.bindL (i := 5)) ?_)
 k_call_by "r" (Ts.cons (fun b hb => hb) (St1.bindL (i := 4)) Ts.nil)
 walk_at "c"
 k_call_by "r" (RefS.while ?_ ?_)
 k_call_by "r" (RefB.boolOp ?_)
 k_call_by "r" (RefBs.and ?_ ?_)
 k_call_by "r" (RefB.cmp Cmp2.ltI ?_ ?_)
 walk_at "v"
 walk_at "v"
 k_call_by "r" (RefBs.and ?_ RefBs.andNil)
 k_call_by "r" (RefB.cmp Cmp2.isNot ?_ ?_)
 walk_at "i"
 walk_at "v"
 walk_at "v"
 walk_at "v"
 walk_at "c"
 k_call_by "r" (RefS.expr ?_)
 k_call_by "r" (RefE.callBm (i := 3) ?_)
 k_call_by "r" (RefA.cons ?_ RefA.nil)
 walk_at "i"
 walk_at "v"
 walk_at "v"
 k_call_by "r" (RefL.cons ?_ RefL.nil)
 k_call_by "r" (RefS.augL (i := 4) Op2.iadd RefE.int)
 walk_at "c"
 k_call_by "r" (RefS.while ?_ ?_)
 k_call_by "r" (RefB.cmp Cmp2.ltI ?_ ?_)
 walk_at "v"
 walk_at "v"
 walk_at "c"
 k_call_by "r" (RefS.assert ?_)
 k_call_by "r" (RefB.cmp Cmp2.is ?_ ?_)
 walk_at "i"
 walk_at "v"
 walk_at "v"
 walk_at "v"
 walk_at "c"
 k_call_by "r" (RefS.augL (i := 4) Op2.iadd RefE.int)
 walk_at "c"
 k_call_by "r" (RefS.ite ?_ ?_ RefL.nil)
 k_call_by "r" (RefB.cmp Cmp2.eq ?_ ?_)
 walk_at "v"
 walk_at "v"
 walk_at "c"
 k_call_by "r" (RefS.expr ?_)
 k_call_by "r" (RefE.callBm (i := 3) ?_)
 k_call_by "r" (RefA.cons ?_ RefA.nil)
 k_call_by "r" (RefE.str (l := [46, 42]))
 k_call_by "r" (RefL.cons RefS.brk RefL.nil)
 walk_at "c"
 k_call_by "r" (RefS.assert ?_)
 k_call_by "r" (RefB.cmp Cmp2.isNot ?_ ?_)
 walk_at "i"
 walk_at "v"
 walk_at "v"
 walk_at "v"
 walk_at "c"
 k_call_by "r" (RefS.asgL (i := 6) ?_)
 k_call_by "r" (RefE.lst RefA.nil)
 walk_at "c"
 k_call_by "r" (RefS.while ?_ ?_)
 k_call_by "r" (RefB.boolOp ?_)
 k_call_by "r" (RefBs.and ?_ ?_)
 k_call_by "r" (RefB.cmp Cmp2.ltI ?_ ?_)
 walk_at "v"
 walk_at "v"
 k_call_by "r" (RefBs.and ?_ RefBs.andNil)
 k_call_by "r" (RefB.cmp Cmp2.isNot ?_ ?_)
 walk_at "i"
 walk_at "v"
 walk_at "v"
 walk_at "v"
 walk_at "c"
 k_call_by "r" (RefS.expr ?_)
 k_call_by "r" (RefE.meth Meth.append PySem.F.plainAttrs_list PySem.F.slot_list_append PySem.F.type_list_append ?_ ?_)
 walk_at "v"
 k_call_by "r" (RefA.cons ?_ RefA.nil)
 walk_at "i"
 walk_at "v"
 walk_at "v"
 k_call_by "r" (RefL.cons ?_ RefL.nil)
 k_call_by "r" (RefS.augL (i := 4) Op2.iadd RefE.int)
 walk_at "c"
 k_call_by "r" (RefS.asgL (i := 6) ?_)
 k_call_by "r" (RefE.meth Meth.join PySem.F.plainAttrs_str PySem.F.slot_str_join PySem.F.type_str_join ?_ ?_)
 k_call_by "r" (RefE.str (l := []))
 k_call_by "r" (RefA.cons ?_ RefA.nil)
 walk_at "v"
 k_call_by "r" (RefL.cons ?_ RefL.nil)
 k_call_by "r" (RefS.ite ?_ ?_ ?_)
 k_call_by "r" (RefB.cmp Cmp2.eq ?_ ?_)
 walk_at "v"
 walk_at "v"
 walk_at "c"
 k_call_by "r" (RefS.expr ?_)
 k_call_by "r" (RefE.callBm (i := 3) ?_)
 k_call_by "r" (RefA.cons ?_ RefA.nil)
 k_call_by "r" (RefE.str (l := [46, 42]))
 k_call_by "r" (RefL.cons ?_ RefL.nil)
 k_call_by "r" (RefS.expr ?_)
 k_call_by "r" (RefE.callBm (i := 3) ?_)
 k_call_by "r" (RefA.cons ?_ RefA.nil)
 walk_at "v"
 k_call_by "r" (RefL.cons ?_ RefL.nil)
 k_call_by "r" (RefS.expr ?_)
 k_call_by "r" (RefE.callBm (i := 3) ?_)
 k_call_by "r" (RefA.cons ?_ RefA.nil)
 k_call_by "r" (RefE.fstr (la := [40, 63, 62, 46, 42, 63]) (lb := [41]) ?_)
 walk_at "v"
 walk_at "c"
 k_call_by "r" (RefS.assert ?_)
 k_call_by "r" (RefB.cmp Cmp2.eq ?_ ?_)
 walk_at "v"
 walk_at "v"
 walk_at "c"
 k_call_by "r" (RefS.asgL (i := 2) ?_)
 k_call_by "r" (RefE.meth Meth.join PySem.F.plainAttrs_str PySem.F.slot_str_join PySem.F.type_str_join ?_ ?_)
 k_call_by "r" (RefE.str (l := []))
 k_call_by "r" (RefA.cons ?_ RefA.nil)
 walk_at "v"
 k_call_by "r" (RefL.cons ?_ RefL.nil)
 k_call_by "r" (RefS.ret ?_)
 k_call_by "r" (RefE.fstr (la := [40, 63, 115, 58]) (lb := [41, 92, 90]) ?_)
 walk_at "v"
theorem R_push {K : Ktx} {d : Nat} (G : Good K) (G2 : Good2 K) (hd : 5 ≤ d) (h_sd : SoundF K d 111 S_sd) (L : Addr) : RefL K d (callEnvC fd_push L 97) nm_push bd_push P_push := by
 show RefL K d _ _ (_ :: _) (sSeq _ _)
 walk_at "c"
 k_call_by "r" (RefS.expr ?_)
 k_call_by "r" (RefE.meth Meth.append PySem.F.plainAttrs_list PySem.F.slot_list_append PySem.F.type_list_append ?_ ?_)
 walk_at "v"
 k_call_by "r" (RefA.cons ?_ RefA.nil)
 walk_at "v"
 k_call_by "r" (RefL.cons ?_ RefL.nil)
 k_call_by "r" (RefS.expr ?_)
 k_call_by "r" (RefE.callD (G.gn _ _ rfl) (G.ob fd_sdS.2 (by decide)) h_sd ?_)
 walk_at "a"
 walk_at "v"
 k_call_by "r" (RefA.cons RefE.int ?_)
 k_call_by "r" (RefA.cons ?_ RefA.nil)
 k_call_by "r" (RefE.bin Op2.sub ?_ RefE.int)
 k_call_by "r" (RefE.callB (G.gn _ _ rfl) B.len ?_)
 k_call_by "r" (RefA.cons ?_ RefA.nil)
 walk_at "v"
theorem R_pop {K : Ktx} {d : Nat} (G : Good K) (G2 : Good2 K) (hd : 5 ≤ d) (h_su : SoundF K d 118 S_su) (L : Addr) : RefL K d (callEnvC fd_pop L 104) nm_pop bd_pop P_pop := by
 show RefL K d _ _ (_ :: _) (sSeq _ _)
 walk_at "c"
 k_call_by "r" (RefS.asgL (i := 1) ?_)
 k_call_by "r" (RefE.meth0 Meth.pop PySem.F.plainAttrs_list PySem.F.slot_list_pop PySem.F.type_list_pop ?_)
 walk_at "v"
 walk_at "c"
 k_call_by "r" (RefS.ite ?_ ?_ RefL.nil)
 k_call_by "r" (RefB.val ?_)
 walk_at "v"
 walk_at "c"
 k_call_by "r" (RefS.asgL (i := 2) ?_)
 k_call_by "r" (RefE.item ?_ RefE.int)
 walk_at "v"
 walk_at "c"
 k_call_by "r" (RefS.asgI ?_ ?_ RefE.int)
 walk_at "v"
 walk_at "v"
 walk_at "c"
 k_call_by "r" (RefS.expr ?_)
 k_call_by "r" (RefE.callD (G.gn _ _ rfl) (G.ob fd_suS.2 (by decide)) h_su ?_)
 walk_at "a"
 walk_at "v"
 k_call_by "r" (RefA.cons RefE.int RefA.nil)
 k_call_by "r" (RefL.cons ?_ RefL.nil)
 k_call_by "r" (RefS.ret ?_)
 walk_at "v"
 k_call_by "r" (RefL.cons ?_ RefL.nil)
 k_call_by "r" (RefS.ret ?_)
 walk_at "v"
theorem R_sd {K : Ktx} {d : Nat} (G : Good K) (G2 : Good2 K) (hd : 5 ≤ d)  (L : Addr) : RefL K d (callEnvC fd_sd L 111) nm_sd bd_sd P_sd := by
 show RefL K d _ _ (_ :: _) (sSeq _ _)
 walk_at "c"
 k_call_by "r" (RefS.asgL (i := 3) ?_)
 walk_at "i"
 walk_at "v"
 walk_at "v"
 walk_at "c"
 k_call_by "r" (RefS.while ?_ ?_)
 k_call_by "r" (RefB.cmp Cmp2.gtI ?_ ?_)
 walk_at "v"
 walk_at "v"
 walk_at "c"
 k_call_by "r" (RefS.asgL (i := 4) ?_)
 k_call_by "r" (RefE.bin Op2.shr ?_ RefE.int)
 k_call_by "r" (RefE.bin Op2.sub ?_ RefE.int)
 walk_at "v"
 walk_at "c"
 k_call_by "r" (RefS.asgL (i := 5) ?_)
 walk_at "i"
 walk_at "v"
 walk_at "v"
 walk_at "c"
 k_call_by "r" (RefS.ite ?_ ?_ RefL.nil)
 k_call_by "r" (RefB.cmp Cmp2.ltI ?_ ?_)
 walk_at "v"
 walk_at "v"
 walk_at "c"
 k_call_by "r" (RefS.asgI ?_ ?_ ?_)
 walk_at "v"
 walk_at "v"
 walk_at "v"
 walk_at "c"
 k_call_by "r" (RefS.asgL (i := 2) ?_)
 walk_at "v"
 k_call_by "r" (RefL.cons RefS.cont RefL.nil)
 k_call_by "r" (RefL.cons RefS.brk RefL.nil)
 k_call_by "r" (RefL.cons ?_ RefL.nil)
 k_call_by "r" (RefS.asgI ?_ ?_ ?_)
 walk_at "v"
 walk_at "v"
 walk_at "v"
theorem R_su {K : Ktx} {d : Nat} (G : Good K) (G2 : Good2 K) (hd : 5 ≤ d) (h_sd : SoundF K d 111 S_sd) (L : Addr) : RefL K d (callEnvC fd_su L 118) nm_su bd_su P_su := by
 show RefL K d _ _ (_ :: _) (sSeq _ _)
 walk_at "c"
 k_call_by "r" (RefS.asgL (i := 2) ?_)
 k_call_by "r" (RefE.callB (G.gn _ _ rfl) B.len ?_)
 k_call_by "r" (RefA.cons ?_ RefA.nil)
 walk_at "v"
 walk_at "c"
 k_call_by "r" (RefS.asgL (i := 3) ?_)
 walk_at "v"
 walk_at "c"
 k_call_by "r" (RefS.asgL (i := 4) ?_)
 walk_at "i"
 walk_at "v"
 walk_at "v"
 walk_at "c"
 k_call_by "r" (RefS.asgL (i := 5) ?_)
 k_call_by "r" (RefE.bin Op2.add ?_ RefE.int)
 k_call_by "r" (RefE.bin Op2.mul RefE.int ?_)
 walk_at "v"
 walk_at "c"
 k_call_by "r" (RefS.while ?_ ?_)
 k_call_by "r" (RefB.cmp Cmp2.ltI ?_ ?_)
 walk_at "v"
 walk_at "v"
 walk_at "c"
 k_call_by "r" (RefS.asgL (i := 6) ?_)
 k_call_by "r" (RefE.bin Op2.add ?_ RefE.int)
 walk_at "v"
 walk_at "c"
 k_call_by "r" (RefS.ite ?_ ?_ RefL.nil)
 k_call_by "r" (RefB.boolOp ?_)
 k_call_by "r" (RefBs.and ?_ ?_)
 k_call_by "r" (RefB.cmp Cmp2.ltI ?_ ?_)
 walk_at "v"
 walk_at "v"
 k_call_by "r" (RefBs.and ?_ RefBs.andNil)
 k_call_by "r" (RefB.not ?_)
 k_call_by "r" (RefB.cmp Cmp2.ltI ?_ ?_)
 walk_at "i"
 walk_at "v"
 walk_at "v"
 walk_at "i"
 walk_at "v"
 walk_at "v"
 k_call_by "r" (RefL.cons ?_ RefL.nil)
 k_call_by "r" (RefS.asgL (i := 5) ?_)
 walk_at "v"
 walk_at "c"
 k_call_by "r" (RefS.asgI ?_ ?_ ?_)
 walk_at "i"
 walk_at "v"
 walk_at "v"
 walk_at "v"
 walk_at "v"
 walk_at "c"
 k_call_by "r" (RefS.asgL (i := 1) ?_)
 walk_at "v"
 k_call_by "r" (RefL.cons ?_ RefL.nil)
 k_call_by "r" (RefS.asgL (i := 5) ?_)
 k_call_by "r" (RefE.bin Op2.add ?_ RefE.int)
 k_call_by "r" (RefE.bin Op2.mul RefE.int ?_)
 walk_at "v"
 walk_at "c"
 k_call_by "r" (RefS.asgI ?_ ?_ ?_)
 walk_at "v"
 walk_at "v"
 walk_at "v"
 k_call_by "r" (RefL.cons ?_ RefL.nil)
 k_call_by "r" (RefS.expr ?_)
 k_call_by "r" (RefE.callD (G.gn _ _ rfl) (G.ob fd_sdS.2 (by decide)) h_sd ?_)
 walk_at "a"
 walk_at "v"
 walk_at "a"
 walk_at "v"
 k_call_by "r" (RefA.cons ?_ RefA.nil)
 walk_at "v"
theorem R_item {K : Ktx} {d : Nat} (G : Good K) (G2 : Good2 K) (hd : 5 ≤ d)  (L : Addr) : RefL K d (callEnvC fd_item L 125) nm_item bd_item P_item := by
 show RefL K d _ _ (_ :: _) (sSeq _ _)
 walk_at "c"
 k_call_by "r" (RefS.asgSwap (names := ["kind", "more"]) ?_ ?_ (Tln.cons Tw.v (Tln.cons Tw.v Tln.nil)))
 k_call_by "r" (RefE.tup ?_)
 walk_at "a"
 k_call_by "r" (RefE.bin Op2.mod ?_ RefE.int)
 walk_at "v"
 k_call_by "r" (RefA.cons ?_ RefA.nil)
 k_call_by "r" (RefE.bin Op2.mod ?_ ?_)
 k_call_by "r" (RefE.bin Op2.div ?_ RefE.int)
 walk_at "v"
 k_call_by "r" (RefE.bin Op2.pow RefE.int RefE.int)
 k_call_by "r" (Ts.cons (fun b hb => hb) (St1.bindL (i := 2)) ?_)
 k_call_by "r" (Ts.cons (fun b hb => hb) (St1.bindL (i := 1)) Ts.nil)
 walk_at "c"
 k_call_by "r" (RefS.ite ?_ ?_ RefL.nil)
 k_call_by "r" (RefB.cmp Cmp2.ltI ?_ RefE.int)
 walk_at "v"
 k_call_by "r" (RefL.cons ?_ RefL.nil)
 k_call_by "r" (RefS.ret ?_)
 k_call_by "r" (RefE.tup ?_)
 walk_at "a"
 walk_at "i"
 k_call_by "r" (RefE.str (l := [40, 41]))
 k_call_by "r" (RefE.bin Op2.div ?_ RefE.int)
 walk_at "v"
 walk_at "a"
 k_call_by "r" (RefE.bin Op2.sub RefE.int ?_)
 k_call_by "r" (RefE.bin Op2.mul ?_ RefE.int)
 k_call_by "r" (RefE.bin Op2.div ?_ RefE.int)
 walk_at "v"
 k_call_by "r" (RefA.cons ?_ RefA.nil)
 k_call_by "r" (RefE.bin Op2.add ?_ RefE.int)
 walk_at "v"
 walk_at "c"
 k_call_by "r" (RefS.ite ?_ ?_ RefL.nil)
 k_call_by "r" (RefB.cmp Cmp2.eq ?_ RefE.int)
 walk_at "v"
 k_call_by "r" (RefL.cons ?_ RefL.nil)
 k_call_by "r" (RefS.ret ?_)
 k_call_by "r" (RefE.tup ?_)
 walk_at "a"
 walk_at "i"
 k_call_by "r" (RefE.lst ?_)
 walk_at "a"
 k_call_by "r" (RefE.str (l := [97]))
 walk_at "a"
 k_call_by "r" (RefE.str (l := [63]))
 walk_at "a"
 k_call_by "r" (RefE.str (l := [92]))
 walk_at "a"
 k_call_by "r" (RefE.str (l := [93]))
 walk_at "a"
 k_call_by "r" (RefE.str (l := [91, 33, 97, 93]))
 walk_at "a"
 k_call_by "r" (RefE.str (l := [91, 92, 93]))
 walk_at "a"
 k_call_by "r" (RefE.str (l := [91, 98, 45, 97, 93]))
 k_call_by "r" (RefA.cons ?_ RefA.nil)
 k_call_by "r" (RefE.str (l := [124]))
 k_call_by "r" (RefE.bin Op2.mod ?_ RefE.int)
 walk_at "v"
 k_call_by "r" (RefA.cons RefE.int ?_)
 k_call_by "r" (RefA.cons RefE.int RefA.nil)
 k_call_by "r" (RefL.cons ?_ RefL.nil)
 k_call_by "r" (RefS.ret ?_)
 k_call_by "r" (RefE.tup ?_)
 walk_at "a"
 k_call_by "r" (RefE.ifExp ?_ ?_ ?_)
 k_call_by "r" (RefB.cmp Cmp2.eq ?_ RefE.int)
 walk_at "v"
 k_call_by "r" (RefE.str (l := [34]))
 k_call_by "r" (RefE.str (l := [42]))
 k_call_by "r" (RefA.cons RefE.int ?_)
 k_call_by "r" (RefA.cons RefE.int RefA.nil)
theorem R_sign {K : Ktx} {d : Nat} (G : Good K) (G2 : Good2 K) (hd : 5 ≤ d)  (L : Addr) : RefL K d (callEnvC fd_sign L 132) nm_sign bd_sign P_sign := by
 show RefL K d _ _ (_ :: _) (sSeq _ _)
 k_call_by "r" (RefL.cons ?_ RefL.nil)
 k_call_by "r" (RefS.ret ?_)
 with_reducible refine RefE.sgn (tb := signTab) (i := 0) ?_ (by decide) G2.big (by with_unfolding_all rfl) (by with_unfolding_all rfl) (by with_unfolding_all rfl) (by with_unfolding_all rfl) (by decide) (by with_unfolding_all rfl) (by with_unfolding_all rfl) (by simp) (by decide) (by with_unfolding_all rfl) (by with_unfolding_all rfl)
 unfold signTab
 repeat (first | with_reducible exact DPairs.nil | with_reducible exact DStrs.nil | (with_reducible refine DPairs.cons _ (by with_unfolding_all rfl) ?_ (by decide) ?_) | (with_reducible refine DStrs.cons _ (by with_unfolding_all rfl) ?_))
theorem R_units {K : Ktx} {d : Nat} (G : Good K) (G2 : Good2 K) (hd : 5 ≤ d) (h_sign : SoundF K d 132 S_sign) (L : Addr) : RefL K d (callEnvC fd_units L 137) nm_units bd_units P_units := by
 show RefL K d _ _ (_ :: _) (sSeq _ _)
 walk_at "c"
 k_call_by "r" (RefS.asgComp (i := 2) (nm' := ["row", "%1", "%2", "%3", "%4", "%5", "%6", "%7", "k"]) (fresh := [8]) ?_ ?_ ?_ ?_ Tw.v (by decide) rfl (by decide) rfl (by decide) (by rfl))
 k_call_by "r" (RefE.callT (G.gn _ _ rfl) B.range ?_)
 k_call_by "r" (RefA.cons ?_ RefA.nil)
 k_call_by "r" (RefE.callB (G.gn _ _ rfl) B.len ?_)
 k_call_by "r" (RefA.cons ?_ RefA.nil)
 k_call_by "r" (RefE.varC (i := 0))
 intro C
 k_call_by "r" (RefT.nameL (i := 8))
 intro C
 k_call_by "r" (RefIfs.one ?_)
 k_call_by "r" (RefB.boolOp ?_)
 k_call_by "r" (RefBs.and ?_ ?_)
 k_call_by "r" (RefB.cmp Cmp2.eq ?_ ?_)
 k_call_by "r" (RefE.item ?_ RefE.int)
 walk_at "i"
 k_call_by "r" (RefE.varC (i := 0))
 walk_at "v"
 k_call_by "r" (RefE.str (l := [42]))
 k_call_by "r" (RefBs.and ?_ RefBs.andNil)
 k_call_by "r" (RefB.cmp Cmp2.ne ?_ ?_)
 k_call_by "r" (RefE.slc ?_ ?_ ?_)
 k_call_by "r" (RefE.varC (i := 0))
 k_call_by "r" (RefP.some ?_)
 k_call_by "r" (RefE.bin Op2.sub ?_ RefE.int)
 walk_at "v"
 k_call_by "r" (RefP.some ?_)
 walk_at "v"
 k_call_by "r" (RefE.lst ?_)
 k_call_by "r" (RefA.cons ?_ RefA.nil)
 walk_at "i"
 k_call_by "r" (RefE.varC (i := 0))
 walk_at "v"
 intro C
 walk_at "v"
 walk_at "c"
 k_call_by "r" (RefS.asgComp (i := 3) (nm' := ["%0", "%1", "%2", "%3", "%4", "%5", "%6", "%7", "unit"]) (fresh := [8]) ?_ ?_ ?_ ?_ Tw.v (by decide) rfl (by decide) rfl (by decide) (by rfl))
 k_call_by "r" (RefE.str (l := [40, 63, 115, 58]))
 intro C
 k_call_by "r" (RefT.nameL (i := 8))
 intro C
 k_call_by "r" (RefIfs.nil)
 intro C
 k_call_by "r" (RefE.tup ?_)
 walk_at "a"
 walk_at "v"
 k_call_by "r" (RefA.cons ?_ RefA.nil)
 k_call_by "r" (RefE.neg RefE.int)
 walk_at "c"
 k_call_by "r" (RefS.for ?_ ?_ ?_)
 k_call_by "r" (RefE.callT (G.gn _ _ rfl) B.range ?_)
 k_call_by "r" (RefA.cons ?_ RefA.nil)
 k_call_by "r" (RefE.callB (G.gn _ _ rfl) B.len ?_)
 k_call_by "r" (RefA.cons ?_ RefA.nil)
 k_call_by "r" (RefE.varC (i := 0))
 k_call_by "r" (RefT.nameL (i := 4))
 walk_at "c"
 k_call_by "r" (RefS.asgT ?_ ?_)
 walk_at "i"
 k_call_by "r" (RefE.varC (i := 0))
 walk_at "v"
 k_call_by "r" (RefT.tup (n := 3) ?_ (Tln.cons Tw.v (Tln.cons Tw.v (Tln.cons Tw.v Tln.nil))))
 k_call_by "r" (Ts.cons (fun b hb => hb) ((RefT.nameL (i := 5))).st1 ?_)
 k_call_by "r" (Ts.cons (fun b hb => hb) ((RefT.nameL (i := 6))).st1 ?_)
 k_call_by "r" (Ts.cons (fun b hb => hb) ((RefT.nameL (i := 7))).st1 Ts.nil)
 walk_at "c"
 k_call_by "r" (RefS.ite ?_ ?_ RefL.nil)
 k_call_by "r" (RefB.boolOp ?_)
 k_call_by "r" (RefBs.and ?_ ?_)
 k_call_by "r" (RefB.cmp Cmp2.isIn ?_ ?_)
 walk_at "v"
 walk_at "v"
 k_call_by "r" (RefBs.and ?_ RefBs.andNil)
 k_call_by "r" (RefB.cmp Cmp2.gtI ?_ ?_)
 walk_at "v"
 k_call_by "r" (RefE.item ?_ RefE.int)
 walk_at "v"
 k_call_by "r" (RefL.cons ?_ RefL.nil)
 k_call_by "r" (RefS.expr ?_)
 k_call_by "r" (RefE.meth Meth.append PySem.F.plainAttrs_list PySem.F.slot_list_append PySem.F.type_list_append ?_ ?_)
 walk_at "v"
 k_call_by "r" (RefA.cons ?_ RefA.nil)
 k_call_by "r" (RefE.tup ?_)
 walk_at "a"
 k_call_by "r" (RefE.str (l := [41]))
 k_call_by "r" (RefA.cons ?_ RefA.nil)
 k_call_by "r" (RefE.neg RefE.int)
 k_call_by "r" (RefL.cons ?_ RefL.nil)
 k_call_by "r" (RefS.ite ?_ ?_ ?_)
 k_call_by "r" (RefB.cmp Cmp2.isIn ?_ ?_)
 walk_at "v"
 walk_at "v"
 k_call_by "r" (RefL.cons ?_ RefL.nil)
 k_call_by "r" (RefS.asgL (i := 3) ?_)
 k_call_by "r" (RefE.bin Op2.add ?_ ?_)
 walk_at "v"
 k_call_by "r" (RefE.comp (nm' := ["%0", "%1", "%2", "%3", "%4", "%5", "%6", "%7", "unit"]) (fresh := [8]) ?_ ?_ ?_ ?_ Tw.v (by decide) rfl (by decide) rfl (by decide) (by rfl))
 k_call_by "r" (RefE.ifExp ?_ ?_ ?_)
 k_call_by "r" (RefB.cmp Cmp2.ltI ?_ ?_)
 walk_at "v"
 walk_at "i"
 walk_at "v"
 k_call_by "r" (RefE.neg RefE.int)
 k_call_by "r" (RefE.str (l := [40, 63, 62, 46, 42, 63]))
 k_call_by "r" (RefE.str (l := [46, 42]))
 intro C
 k_call_by "r" (RefT.nameL (i := 8))
 intro C
 k_call_by "r" (RefIfs.nil)
 intro C
 k_call_by "r" (RefE.tup ?_)
 walk_at "a"
 walk_at "v"
 k_call_by "r" (RefA.cons ?_ RefA.nil)
 k_call_by "r" (RefE.neg RefE.int)
 k_call_by "r" (RefL.cons ?_ RefL.nil)
 k_call_by "r" (RefS.ite ?_ ?_ ?_)
 k_call_by "r" (RefB.boolOp ?_)
 k_call_by "r" (RefBs.and ?_ ?_)
 k_call_by "r" (RefB.cmp Cmp2.ne ?_ RefE.int)
 walk_at "v"
 k_call_by "r" (RefBs.and ?_ RefBs.andNil)
 k_call_by "r" (RefB.cmp Cmp2.isIn ?_ ?_)
 walk_at "v"
 walk_at "v"
 k_call_by "r" (RefL.cons ?_ RefL.nil)
 k_call_by "r" (RefS.expr ?_)
 k_call_by "r" (RefE.meth Meth.append PySem.F.plainAttrs_list PySem.F.slot_list_append PySem.F.type_list_append ?_ ?_)
 walk_at "v"
 k_call_by "r" (RefA.cons ?_ RefA.nil)
 k_call_by "r" (RefE.tup ?_)
 walk_at "a"
 k_call_by "r" (RefE.bin Op2.add ?_ ?_)
 k_call_by "r" (RefE.str (l := [92]))
 walk_at "v"
 k_call_by "r" (RefA.cons ?_ RefA.nil)
 walk_at "v"
 k_call_by "r" (RefL.cons ?_ RefL.nil)
 k_call_by "r" (RefS.ite ?_ ?_ ?_)
 k_call_by "r" (RefB.cmp Cmp2.ne ?_ RefE.int)
 walk_at "v"
 k_call_by "r" (RefL.cons ?_ RefL.nil)
 k_call_by "r" (RefS.asgL (i := 3) ?_)
 k_call_by "r" (RefE.bin Op2.add ?_ ?_)
 walk_at "v"
 k_call_by "r" (RefE.lst ?_)
 walk_at "a"
 k_call_by "r" (RefE.tup ?_)
 walk_at "a"
 k_call_by "r" (RefE.str (l := [91]))
 k_call_by "r" (RefA.cons ?_ RefA.nil)
 k_call_by "r" (RefE.neg RefE.int)
 walk_at "a"
 k_call_by "r" (RefE.tup ?_)
 walk_at "a"
 walk_at "v"
 k_call_by "r" (RefA.cons ?_ RefA.nil)
 walk_at "v"
 k_call_by "r" (RefA.cons ?_ RefA.nil)
 k_call_by "r" (RefE.tup ?_)
 walk_at "a"
 k_call_by "r" (RefE.str (l := [93]))
 k_call_by "r" (RefA.cons ?_ RefA.nil)
 k_call_by "r" (RefE.neg RefE.int)
 k_call_by "r" (RefL.cons ?_ RefL.nil)
 k_call_by "r" (RefS.ite ?_ ?_ RefL.nil)
 k_call_by "r" (RefB.cmp Cmp2.ne ?_ ?_)
 walk_at "v"
 k_call_by "r" (RefE.str (l := [42]))
 k_call_by "r" (RefL.cons ?_ RefL.nil)
 k_call_by "r" (RefS.asgL (i := 3) ?_)
 k_call_by "r" (RefE.bin Op2.add ?_ ?_)
 walk_at "v"
 k_call_by "r" (RefE.comp (nm' := ["%0", "%1", "%2", "%3", "%4", "%5", "%6", "%7", "unit"]) (fresh := [8]) ?_ ?_ ?_ ?_ Tw.v (by decide) rfl (by decide) rfl (by decide) (by rfl))
 k_call_by "r" (RefE.callD (G.gn _ _ rfl) (G.ob fd_signS.2 (by decide)) h_sign ?_)
 k_call_by "r" (RefA.cons ?_ RefA.nil)
 walk_at "v"
 intro C
 k_call_by "r" (RefT.nameL (i := 8))
 intro C
 k_call_by "r" (RefIfs.nil)
 intro C
 k_call_by "r" (RefE.tup ?_)
 walk_at "a"
 walk_at "v"
 k_call_by "r" (RefA.cons ?_ RefA.nil)
 k_call_by "r" (RefE.neg RefE.int)
 k_call_by "r" (RefL.cons ?_ RefL.nil)
 k_call_by "r" (RefS.ret ?_)
 k_call_by "r" (RefE.bin Op2.add ?_ ?_)
 walk_at "v"
 k_call_by "r" (RefE.lst ?_)
 walk_at "a"
 k_call_by "r" (RefE.tup ?_)
 walk_at "a"
 k_call_by "r" (RefE.str (l := [41]))
 k_call_by "r" (RefA.cons ?_ RefA.nil)
 k_call_by "r" (RefE.neg RefE.int)
 k_call_by "r" (RefA.cons ?_ RefA.nil)
 k_call_by "r" (RefE.tup ?_)
 walk_at "a"
 k_call_by "r" (RefE.str (l := [92, 90]))
 k_call_by "r" (RefA.cons ?_ RefA.nil)
 k_call_by "r" (RefE.neg RefE.int)
theorem R_steps {K : Ktx} {d : Nat} (G : Good K) (G2 : Good2 K) (hd : 5 ≤ d)  (L : Addr) : RefL K d (callEnvC fd_steps L 142) nm_steps bd_steps P_steps := by
 show RefL K d _ _ (_ :: _) (sSeq _ _)
 walk_at "c"
 k_call_by "r" (RefS.asgL (i := 1) ?_)
 k_call_by "r" (RefE.callB (G.gn _ _ rfl) B.len ?_)
 k_call_by "r" (RefA.cons ?_ RefA.nil)
 k_call_by "r" (RefE.comp (nm' := ["%0", "%1", "%2", "%3", "%4", "%5", "unit", "k"]) (fresh := [6, 7]) ?_ ?_ ?_ ?_ (Tw.tup (Tws.cons Tw.v (Tws.cons Tw.v Tws.nil))) (by decide) rfl (by decide) rfl (by decide) (by rfl))
 walk_at "v"
 intro C
 k_call_by "r" (RefT.tup (n := 2) ?_ (Tln.cons Tw.v (Tln.cons Tw.v Tln.nil)))
 k_call_by "r" (Ts.cons (fun b hb => by rw [List.mem_singleton.mp hb]; exact mem_ownL) ((RefT.nameL (i := 6))).st1 ?_)
 k_call_by "r" (Ts.cons (fun b hb => by rw [List.mem_singleton.mp hb]; exact mem_ownL) ((RefT.nameL (i := 7))).st1 Ts.nil)
 intro C
 k_call_by "r" (RefIfs.one ?_)
 k_call_by "r" (RefB.cmp Cmp2.eq ?_ ?_)
 walk_at "v"
 k_call_by "r" (RefE.str (l := [34]))
 intro C
 k_call_by "r" (RefE.int)
 walk_at "c"
 k_call_by "r" (RefS.asgSwap (names := ["steps", "ahead"]) ?_ ?_ (Tln.cons Tw.v (Tln.cons Tw.v Tln.nil)))
 k_call_by "r" (RefE.tup ?_)
 walk_at "a"
 k_call_by "r" (RefE.lst RefA.nil)
 k_call_by "r" (RefA.cons RefE.int RefA.nil)
 k_call_by "r" (Ts.cons (fun b hb => hb) (St1.bindL (i := 3)) ?_)
 k_call_by "r" (Ts.cons (fun b hb => hb) (St1.bindL (i := 2)) Ts.nil)
 walk_at "c"
 k_call_by "r" (RefS.for ?_ ?_ ?_)
 walk_at "v"
 k_call_by "r" (RefT.tup (n := 2) ?_ (Tln.cons Tw.v (Tln.cons Tw.v Tln.nil)))
 k_call_by "r" (Ts.cons (fun b hb => hb) ((RefT.nameL (i := 4))).st1 ?_)
 k_call_by "r" (Ts.cons (fun b hb => hb) ((RefT.nameL (i := 5))).st1 Ts.nil)
 k_call_by "r" (RefL.cons ?_ RefL.nil)
 k_call_by "r" (RefS.ite ?_ ?_ ?_)
 k_call_by "r" (RefB.cmp Cmp2.eq ?_ ?_)
 walk_at "v"
 k_call_by "r" (RefE.str (l := [34]))
 k_call_by "r" (RefL.cons ?_ RefL.nil)
 k_call_by "r" (RefS.asgL (i := 3) ?_)
 k_call_by "r" (RefE.bin Op2.add ?_ RefE.int)
 walk_at "v"
 k_call_by "r" (RefL.cons ?_ RefL.nil)
 k_call_by "r" (RefS.ite ?_ ?_ RefL.nil)
 k_call_by "r" (RefB.boolOp ?_)
 k_call_by "r" (RefBs.and ?_ ?_)
 k_call_by "r" (RefB.cmp Cmp2.isIn ?_ ?_)
 walk_at "v"
 k_call_by "r" (RefE.lst ?_)
 walk_at "a"
 k_call_by "r" (RefE.str (l := [40]))
 k_call_by "r" (RefA.cons ?_ RefA.nil)
 k_call_by "r" (RefE.str (l := [41]))
 k_call_by "r" (RefBs.and ?_ RefBs.andNil)
 k_call_by "r" (RefB.boolOp ?_)
 k_call_by "r" (RefBs.or ?_ ?_)
 k_call_by "r" (RefB.cmp Cmp2.eq ?_ RefE.int)
 k_call_by "r" (RefE.bin Op2.mod ?_ RefE.int)
 walk_at "v"
 k_call_by "r" (RefBs.or ?_ RefBs.orNil)
 k_call_by "r" (RefB.cmp Cmp2.eq ?_ ?_)
 walk_at "v"
 walk_at "v"
 k_call_by "r" (RefL.cons ?_ RefL.nil)
 k_call_by "r" (RefS.expr ?_)
 k_call_by "r" (RefE.meth Meth.append PySem.F.plainAttrs_list PySem.F.slot_list_append PySem.F.type_list_append ?_ ?_)
 walk_at "v"
 k_call_by "r" (RefA.cons ?_ RefA.nil)
 k_call_by "r" (RefE.tup ?_)
 walk_at "a"
 k_call_by "r" (RefE.ifExp ?_ RefE.int ?_)
 k_call_by "r" (RefB.cmp Cmp2.eq ?_ ?_)
 walk_at "v"
 k_call_by "r" (RefE.str (l := [40]))
 k_call_by "r" (RefE.neg RefE.int)
 k_call_by "r" (RefA.cons ?_ RefA.nil)
 walk_at "v"
 k_call_by "r" (RefL.cons ?_ RefL.nil)
 k_call_by "r" (RefS.ret ?_)
 walk_at "v"
theorem R_taken {K : Ktx} {d : Nat} (G : Good K) (G2 : Good2 K) (hd : 5 ≤ d)  (L : Addr) : RefL K d (callEnvC fd_taken L 149) nm_taken bd_taken P_taken := by
 show RefL K d _ _ (_ :: _) (sSeq _ _)
 walk_at "c"
 k_call_by "r" (RefS.asgT ?_ ?_)
 k_call_by "r" (RefE.tup ?_)
 k_call_by "r" (RefA.cons RefE.int ?_)
 k_call_by "r" (RefA.cons RefE.int RefA.nil)
 k_call_by "r" (RefT.tup (n := 2) ?_ (Tln.cons Tw.v (Tln.cons Tw.v Tln.nil)))
 k_call_by "r" (Ts.cons (fun b hb => hb) ((RefT.nameL (i := 1))).st1 ?_)
 k_call_by "r" (Ts.cons (fun b hb => hb) ((RefT.nameL (i := 2))).st1 Ts.nil)
 walk_at "c"
 k_call_by "r" (RefS.for ?_ ?_ ?_)
 walk_at "v"
 k_call_by "r" (RefT.tup (n := 2) ?_ (Tln.cons Tw.v (Tln.cons Tw.v Tln.nil)))
 k_call_by "r" (Ts.cons (fun b hb => hb) ((RefT.nameL (i := 3))).st1 ?_)
 k_call_by "r" (Ts.cons (fun b hb => hb) ((RefT.nameL (i := 4))).st1 Ts.nil)
 walk_at "c"
 k_call_by "r" (RefS.asgL (i := 1) ?_)
 k_call_by "r" (RefE.bin Op2.add ?_ ?_)
 walk_at "v"
 walk_at "v"
 k_call_by "r" (RefL.cons ?_ RefL.nil)
 k_call_by "r" (RefS.asgL (i := 2) ?_)
 k_call_by "r" (RefE.callB (G.gn _ _ rfl) B.min ?_)
 walk_at "a"
 walk_at "v"
 k_call_by "r" (RefA.cons ?_ RefA.nil)
 walk_at "v"
 k_call_by "r" (RefL.cons ?_ RefL.nil)
 k_call_by "r" (RefS.ret ?_)
 k_call_by "r" (RefE.and2 ?_ ?_)
 k_call_by "r" (RefE.cmp Cmp2.eq ?_ RefE.int)
 walk_at "v"
 k_call_by "r" (RefE.cmp Cmp2.eq ?_ RefE.int)
 walk_at "v"
theorem R_right {K : Ktx} {d : Nat} (G : Good K) (G2 : Good2 K) (hd : 5 ≤ d) (h_units : SoundF K d 137 S_units) (h_translate : SoundF K d 64 S_translate) (h_paren : SoundF K d 52 S_paren) (h_taken : SoundF K d 149 S_taken) (h_steps : SoundF K d 142 S_steps) (L : Addr) : RefL K d (callEnvC fd_right L 154) nm_right bd_right P_right := by
 show RefL K d _ _ (_ :: _) (sSeq _ _)
 walk_at "c"
 k_call_by "r" (RefS.asgSwap (names := ["units", "places", "at"]) ?_ ?_ (Tln.cons Tw.v (Tln.cons Tw.v (Tln.cons Tw.v Tln.nil))))
 k_call_by "r" (RefE.tup ?_)
 walk_at "a"
 k_call_by "r" (RefE.callD (G.gn _ _ rfl) (G.ob fd_unitsS.2 (by decide)) h_units ?_)
 walk_at "a"
 k_call_by "r" (RefE.varC (i := 0))
 k_call_by "r" (RefA.cons ?_ RefA.nil)
 k_call_by "r" (RefE.varC (i := 1))
 walk_at "a"
 k_call_by "r" (RefE.lst RefA.nil)
 k_call_by "r" (RefA.cons ?_ RefA.nil)
 k_call_by "r" (RefE.neg RefE.int)
 k_call_by "r" (Ts.cons (fun b hb => hb) (St1.bindL (i := 4)) ?_)
 k_call_by "r" (Ts.cons (fun b hb => hb) (St1.bindL (i := 3)) ?_)
 k_call_by "r" (Ts.cons (fun b hb => hb) (St1.bindL (i := 2)) Ts.nil)
 walk_at "c"
 k_call_by "r" (RefS.asgL (i := 5) ?_)
 k_call_by "r" (RefE.meth Meth.join PySem.F.plainAttrs_str PySem.F.slot_str_join PySem.F.type_str_join ?_ ?_)
 k_call_by "r" (RefE.str (l := []))
 k_call_by "r" (RefA.cons ?_ RefA.nil)
 k_call_by "r" (RefE.comp (nm' := ["row", "out", "%2", "%3", "%4", "%5", "%6", "%7", "%8", "k"]) (fresh := [9]) ?_ ?_ ?_ ?_ Tw.v (by decide) rfl (by decide) rfl (by decide) (by rfl))
 k_call_by "r" (RefE.callT (G.gn _ _ rfl) B.range ?_)
 k_call_by "r" (RefA.cons ?_ RefA.nil)
 k_call_by "r" (RefE.callB (G.gn _ _ rfl) B.len ?_)
 k_call_by "r" (RefA.cons ?_ RefA.nil)
 k_call_by "r" (RefE.varC (i := 0))
 intro C
 k_call_by "r" (RefT.nameL (i := 9))
 intro C
 k_call_by "r" (RefIfs.nil)
 intro C
 k_call_by "r" (RefE.ifExp ?_ ?_ ?_)
 k_call_by "r" (RefB.boolOp ?_)
 k_call_by "r" (RefBs.and ?_ ?_)
 k_call_by "r" (RefB.cmp Cmp2.ne ?_ RefE.int)
 k_call_by "r" (RefE.item ?_ RefE.int)
 walk_at "i"
 k_call_by "r" (RefE.varC (i := 0))
 walk_at "v"
 k_call_by "r" (RefBs.and ?_ RefBs.andNil)
 k_call_by "r" (RefB.cmp Cmp2.notIn ?_ ?_)
 walk_at "v"
 k_call_by "r" (RefE.varC (i := 1))
 k_call_by "r" (RefE.bin Op2.add ?_ ?_)
 k_call_by "r" (RefE.bin Op2.add ?_ ?_)
 k_call_by "r" (RefE.str (l := [91]))
 k_call_by "r" (RefE.item ?_ RefE.int)
 walk_at "i"
 k_call_by "r" (RefE.varC (i := 0))
 walk_at "v"
 k_call_by "r" (RefE.str (l := [93]))
 k_call_by "r" (RefE.item ?_ RefE.int)
 walk_at "i"
 k_call_by "r" (RefE.varC (i := 0))
 walk_at "v"
 walk_at "c"
 k_call_by "r" (RefS.for ?_ ?_ ?_)
 walk_at "v"
 k_call_by "r" (RefT.tup (n := 2) ?_ (Tln.cons Tw.v (Tln.cons Tw.v Tln.nil)))
 k_call_by "r" (Ts.cons (fun b hb => hb) ((RefT.nameL (i := 6))).st1 ?_)
 k_call_by "r" (Ts.cons (fun b hb => hb) ((RefT.nameL (i := 7))).st1 Ts.nil)
 walk_at "c"
 k_call_by "r" (RefS.asgL (i := 4) ?_)
 k_call_by "r" (RefE.bin Op2.add ?_ ?_)
 walk_at "v"
 k_call_by "r" (RefE.callB (G.gn _ _ rfl) B.len ?_)
 k_call_by "r" (RefA.cons ?_ RefA.nil)
 walk_at "v"
 k_call_by "r" (RefL.cons ?_ RefL.nil)
 k_call_by "r" (RefS.expr ?_)
 k_call_by "r" (RefE.meth Meth.append PySem.F.plainAttrs_list PySem.F.slot_list_append PySem.F.type_list_append ?_ ?_)
 walk_at "v"
 k_call_by "r" (RefA.cons ?_ RefA.nil)
 k_call_by "r" (RefE.tup ?_)
 walk_at "a"
 walk_at "v"
 k_call_by "r" (RefA.cons ?_ RefA.nil)
 walk_at "v"
 walk_at "c"
 k_call_by "r" (RefS.asgL (i := 8) ?_)
 k_call_by "r" (RefE.callD (G.gn _ _ rfl) (G.ob fd_translateS.2 (by decide)) h_translate ?_)
 k_call_by "r" (RefA.cons ?_ RefA.nil)
 walk_at "v"
 walk_at "c"
 k_call_by "r" (RefS.ite ?_ ?_ RefL.nil)
 k_call_by "r" (RefB.boolOp ?_)
 k_call_by "r" (RefBs.or ?_ ?_)
 k_call_by "r" (RefB.cmp Cmp2.ne ?_ ?_)
 walk_at "v"
 k_call_by "r" (RefE.meth Meth.join PySem.F.plainAttrs_str PySem.F.slot_str_join PySem.F.type_str_join ?_ ?_)
 k_call_by "r" (RefE.str (l := []))
 k_call_by "r" (RefA.cons ?_ RefA.nil)
 k_call_by "r" (RefE.comp (nm' := ["%0", "%1", "%2", "%3", "%4", "%5", "%6", "%7", "%8", "unit", "k"]) (fresh := [9, 10]) ?_ ?_ ?_ ?_ (Tw.tup (Tws.cons Tw.v (Tws.cons Tw.v Tws.nil))) (by decide) rfl (by decide) rfl (by decide) (by rfl))
 walk_at "v"
 intro C
 k_call_by "r" (RefT.tup (n := 2) ?_ (Tln.cons Tw.v (Tln.cons Tw.v Tln.nil)))
 k_call_by "r" (Ts.cons (fun b hb => by rw [List.mem_singleton.mp hb]; exact mem_ownL) ((RefT.nameL (i := 9))).st1 ?_)
 k_call_by "r" (Ts.cons (fun b hb => by rw [List.mem_singleton.mp hb]; exact mem_ownL) ((RefT.nameL (i := 10))).st1 Ts.nil)
 intro C
 k_call_by "r" (RefIfs.nil)
 intro C
 walk_at "v"
 k_call_by "r" (RefBs.or ?_ RefBs.orNil)
 k_call_by "r" (RefB.cmp Cmp2.ne ?_ ?_)
 k_call_by "r" (RefE.listGen G (G.gn _ _ rfl) (G.gn _ _ rfl) (by omega) ?_)
 walk_at "v"
 walk_at "v"
 k_call_by "r" (RefL.cons ?_ RefL.nil)
 k_call_by "r" (RefS.ret RefE.bool)
 k_call_by "r" (RefL.cons ?_ RefL.nil)
 k_call_by "r" (RefS.ret ?_)
 k_call_by "r" (RefE.cmp Cmp2.is ?_ ?_)
 k_call_by "r" (RefE.callD (G.gn _ _ rfl) (G.ob fd_parenS.2 (by decide)) h_paren ?_)
 k_call_by "r" (RefA.cons ?_ RefA.nil)
 walk_at "v"
 k_call_by "r" (RefE.callD (G.gn _ _ rfl) (G.ob fd_takenS.2 (by decide)) h_taken ?_)
 k_call_by "r" (RefA.cons ?_ RefA.nil)
 k_call_by "r" (RefE.callD (G.gn _ _ rfl) (G.ob fd_stepsS.2 (by decide)) h_steps ?_)
 k_call_by "r" (RefA.cons ?_ RefA.nil)
 walk_at "v"
theorem R_hidden {K : Ktx} {d : Nat} (G : Good K) (G2 : Good2 K) (hd : 5 ≤ d) (h_push : SoundF K d 97 S_push) (h_pop : SoundF K d 104 S_pop) (L : Addr) : RefL K d (callEnvC fd_hidden L 161) nm_hidden bd_hidden P_hidden := by
 show RefL K d _ _ (_ :: _) (sSeq _ _)
 walk_at "c"
 k_call_by "r" (RefS.asgSwap (names := ["heap", "depth", "hidden"]) ?_ ?_ (Tln.cons Tw.v (Tln.cons Tw.v (Tln.cons Tw.v Tln.nil))))
 k_call_by "r" (RefE.tup ?_)
 walk_at "a"
 k_call_by "r" (RefE.lst RefA.nil)
 k_call_by "r" (RefA.cons RefE.int ?_)
 k_call_by "r" (RefA.cons ?_ RefA.nil)
 k_call_by "r" (RefE.lst RefA.nil)
 k_call_by "r" (Ts.cons (fun b hb => hb) (St1.bindL (i := 6)) ?_)
 k_call_by "r" (Ts.cons (fun b hb => hb) (St1.bindL (i := 5)) ?_)
 k_call_by "r" (Ts.cons (fun b hb => hb) (St1.bindL (i := 4)) Ts.nil)
 walk_at "c"
 k_call_by "r" (RefS.forX ?_ ?_ ?_)
 k_call_by "r" (RefE.rev ?_ ?_)
 walk_at "v"
 walk_at "v"
 k_call_by "r" (RefT.tup (n := 2) ?_ (Tln.cons Tw.v (Tln.cons Tw.v Tln.nil)))
 k_call_by "r" (Ts.cons (fun b hb => hb) ((RefT.nameL (i := 7))).st1 ?_)
 k_call_by "r" (Ts.cons (fun b hb => hb) ((RefT.nameL (i := 8))).st1 Ts.nil)
 k_call_by "r" (RefL.cons ?_ RefL.nil)
 k_call_by "r" (RefS.ite ?_ ?_ RefL.nil)
 k_call_by "r" (RefB.cmp Cmp2.notIn ?_ ?_)
 walk_at "v"
 walk_at "v"
 walk_at "c"
 k_call_by "r" (RefS.asgL (i := 5) ?_)
 k_call_by "r" (RefE.bin Op2.add ?_ ?_)
 walk_at "v"
 k_call_by "r" (RefE.bin Op2.mul ?_ ?_)
 walk_at "v"
 walk_at "v"
 walk_at "c"
 k_call_by "r" (RefS.ite ?_ ?_ RefL.nil)
 k_call_by "r" (RefB.boolOp ?_)
 k_call_by "r" (RefBs.and ?_ ?_)
 k_call_by "r" (RefB.cmp Cmp2.ltI ?_ RefE.int)
 k_call_by "r" (RefE.bin Op2.mul ?_ ?_)
 walk_at "v"
 walk_at "v"
 k_call_by "r" (RefBs.and ?_ RefBs.andNil)
 k_call_by "r" (RefB.cmp Cmp2.geI ?_ RefE.int)
 walk_at "v"
 k_call_by "r" (RefL.cons ?_ RefL.nil)
 k_call_by "r" (RefS.expr ?_)
 k_call_by "r" (RefE.callD (G.gn _ _ rfl) (G.ob fd_pushS.2 (by decide)) h_push ?_)
 walk_at "a"
 walk_at "v"
 k_call_by "r" (RefA.cons ?_ RefA.nil)
 k_call_by "r" (RefE.tup ?_)
 walk_at "a"
 k_call_by "r" (RefE.item ?_ RefE.int)
 walk_at "i"
 walk_at "v"
 walk_at "v"
 k_call_by "r" (RefA.cons ?_ RefA.nil)
 walk_at "v"
 k_call_by "r" (RefL.cons ?_ RefL.nil)
 k_call_by "r" (RefS.ite ?_ ?_ RefL.nil)
 k_call_by "r" (RefB.cmp Cmp2.ltI ?_ RefE.int)
 walk_at "v"
 walk_at "c"
 k_call_by "r" (RefS.expr ?_)
 k_call_by "r" (RefE.meth Meth.append PySem.F.plainAttrs_list PySem.F.slot_list_append PySem.F.type_list_append ?_ ?_)
 walk_at "v"
 k_call_by "r" (RefA.cons ?_ RefA.nil)
 k_call_by "r" (RefE.item ?_ RefE.int)
 k_call_by "r" (RefE.callD (G.gn _ _ rfl) (G.ob fd_popS.2 (by decide)) h_pop ?_)
 k_call_by "r" (RefA.cons ?_ RefA.nil)
 walk_at "v"
 k_call_by "r" (RefL.cons ?_ RefL.nil)
 k_call_by "r" (RefS.asgL (i := 5) RefE.int)
 k_call_by "r" (RefL.cons ?_ RefL.nil)
 k_call_by "r" (RefS.ret ?_)
 walk_at "v"
theorem R_cheap {K : Ktx} {d : Nat} (G : Good K) (G2 : Good2 K) (hd : 5 ≤ d) (h_hidden : SoundF K d 161 S_hidden) (L : Addr) : RefL K d (callEnvC fd_cheap L 168) nm_cheap bd_cheap P_cheap := by
 show RefL K d _ _ (_ :: _) (sSeq _ _)
 k_call_by "r" (RefL.cons ?_ RefL.nil)
 k_call_by "r" (RefS.tryN (G.gn _ _ rfl) ?_)
 walk_at "c"
 k_call_by "r" (RefS.asgL (i := 2) ?_)
 k_call_by "r" (RefE.callD (G.gn _ _ rfl) (G.ob fd_hiddenS.2 (by decide)) h_hidden ?_)
 walk_at "a"
 walk_at "v"
 walk_at "a"
 walk_at "v"
 k_call_by "r" (RefA.cons RefE.int ?_)
 k_call_by "r" (RefA.cons ?_ RefA.nil)
 k_call_by "r" (RefE.lst RefA.nil)
 k_call_by "r" (RefL.cons ?_ RefL.nil)
 k_call_by "r" (RefS.ret ?_)
 k_call_by "r" (RefE.bin Op2.add ?_ ?_)
 walk_at "v"
 k_call_by "r" (RefE.callD (G.gn _ _ rfl) (G.ob fd_hiddenS.2 (by decide)) h_hidden ?_)
 walk_at "a"
 walk_at "v"
 walk_at "a"
 walk_at "v"
 walk_at "a"
 k_call_by "r" (RefE.neg RefE.int)
 k_call_by "r" (RefA.cons ?_ RefA.nil)
 walk_at "v"
theorem R_least {K : Ktx} {d : Nat} (G : Good K) (G2 : Good2 K) (hd : 5 ≤ d)  (L : Addr) : RefL K d (callEnvC fd_least L 173) nm_least bd_least P_least := by
 show RefL K d _ _ (_ :: _) (sSeq _ _)
 walk_at "c"
 k_call_by "r" (RefS.asgC (i := 2) ?_)
 k_call_by "r" (RefE.dict1b G2.big)
 walk_at "c"
 k_call_by "r" (RefS.for ?_ ?_ ?_)
 walk_at "v"
 k_call_by "r" (RefT.tup (n := 2) ?_ (Tln.cons Tw.v (Tln.cons Tw.v Tln.nil)))
 k_call_by "r" (Ts.cons (fun b hb => hb) ((RefT.nameC (i := 3))).st1 ?_)
 k_call_by "r" (Ts.cons (fun b hb => hb) ((RefT.nameC (i := 4))).st1 Ts.nil)
 walk_at "c"
 k_call_by "r" (RefS.asgComp (i := 5) (nm' := ["%0", "%1", "table", "step", "%4", "%5", "%6", "%7", "depth"]) (fresh := [8]) ?_ ?_ ?_ ?_ Tw.v (by decide) rfl (by decide) rfl (by decide) (by rfl))
 k_call_by "r" (RefE.varC (i := 2))
 intro C
 k_call_by "r" (RefT.nameL (i := 8))
 intro C
 k_call_by "r" (RefIfs.nil)
 intro C
 k_call_by "r" (RefE.tup ?_)
 walk_at "a"
 k_call_by "r" (RefE.bin Op2.add ?_ ?_)
 walk_at "v"
 k_call_by "r" (RefE.varC (i := 3))
 k_call_by "r" (RefA.cons ?_ RefA.nil)
 walk_at "i"
 k_call_by "r" (RefE.varC (i := 2))
 walk_at "v"
 walk_at "c"
 k_call_by "r" (RefS.ite ?_ ?_ RefL.nil)
 k_call_by "r" (RefB.cmp Cmp2.geI ?_ RefE.int)
 k_call_by "r" (RefE.varC (i := 4))
 k_call_by "r" (RefL.cons ?_ RefL.nil)
 k_call_by "r" (RefS.asgL (i := 5) ?_)
 k_call_by "r" (RefE.bin Op2.add ?_ ?_)
 walk_at "v"
 k_call_by "r" (RefE.comp (nm' := ["%0", "row", "table", "%3", "k", "%5", "%6", "%7", "depth"]) (fresh := [8]) ?_ ?_ ?_ ?_ Tw.v (by decide) rfl (by decide) rfl (by decide) (by rfl))
 k_call_by "r" (RefE.varC (i := 2))
 intro C
 k_call_by "r" (RefT.nameL (i := 8))
 intro C
 k_call_by "r" (RefIfs.nil)
 intro C
 k_call_by "r" (RefE.tup ?_)
 walk_at "a"
 walk_at "v"
 k_call_by "r" (RefA.cons ?_ RefA.nil)
 k_call_by "r" (RefE.bin Op2.add ?_ ?_)
 walk_at "i"
 k_call_by "r" (RefE.varC (i := 2))
 walk_at "v"
 k_call_by "r" (RefE.item ?_ RefE.int)
 walk_at "i"
 k_call_by "r" (RefE.varC (i := 1))
 k_call_by "r" (RefE.varC (i := 4))
 walk_at "c"
 k_call_by "r" (RefS.asgC (i := 2) ?_)
 k_call_by "r" (RefE.dict0b G2.big)
 k_call_by "r" (RefL.cons ?_ RefL.nil)
 k_call_by "r" (RefS.for ?_ ?_ ?_)
 walk_at "v"
 k_call_by "r" (RefT.tup (n := 2) ?_ (Tln.cons Tw.v (Tln.cons Tw.v Tln.nil)))
 k_call_by "r" (Ts.cons (fun b hb => hb) ((RefT.nameL (i := 6))).st1 ?_)
 k_call_by "r" (Ts.cons (fun b hb => hb) ((RefT.nameL (i := 7))).st1 Ts.nil)
 k_call_by "r" (RefL.cons ?_ RefL.nil)
 k_call_by "r" (RefS.ite ?_ ?_ RefL.nil)
 k_call_by "r" (RefB.boolOp ?_)
 k_call_by "r" (RefBs.and ?_ ?_)
 k_call_by "r" (RefB.cmp Cmp2.geI ?_ RefE.int)
 walk_at "v"
 k_call_by "r" (RefBs.and ?_ RefBs.andNil)
 k_call_by "r" (RefB.cmp Cmp2.leI ?_ ?_)
 walk_at "v"
 k_call_by "r" (RefE.meth Meth.get PySem.F.plainAttrs_dict PySem.F.slot_dict_get PySem.F.type_dict_get ?_ ?_)
 k_call_by "r" (RefE.varC (i := 2))
 walk_at "a"
 walk_at "v"
 k_call_by "r" (RefA.cons ?_ RefA.nil)
 walk_at "v"
 k_call_by "r" (RefL.cons ?_ RefL.nil)
 k_call_by "r" (RefS.asgI ?_ ?_ ?_)
 walk_at "v"
 k_call_by "r" (RefE.varC (i := 2))
 walk_at "v"
 k_call_by "r" (RefL.cons ?_ RefL.nil)
 k_call_by "r" (RefS.ret ?_)
 k_call_by "r" (RefE.meth Meth.get PySem.F.plainAttrs_dict PySem.F.slot_dict_get PySem.F.type_dict_get ?_ ?_)
 k_call_by "r" (RefE.varC (i := 2))
 k_call_by "r" (RefA.cons RefE.int RefA.nil)
theorem R_law {K : Ktx} {d : Nat} (G : Good K) (G2 : Good2 K) {a0 : Addr} {xs : List Int} (O : OldInts K a0 xs) (hd : 5 ≤ d) (h_item : SoundF K d 125 S_item) (h_steps : SoundF K d 142 S_steps) (h_units : SoundF K d 137 S_units) (h_cheap : SoundF K d 168 S_cheap) (h_right : SoundF K d 154 S_right) (h_least : SoundF K d 173 S_least) (h_taken : SoundF K d 149 S_taken) (L : Addr) : RefL K d (callEnvC fd_law L 178) nm_law bd_law (P_law a0 xs) := by
 show RefL K d _ _ (_ :: _) (sSeq _ _)
 walk_at "c"
 k_call_by "r" (RefS.asgC (i := 1) ?_)
 k_call_by "r" (RefE.comp (nm' := ["%0", "%1", "%2", "%3", "x"]) (fresh := [4]) ?_ ?_ ?_ ?_ Tw.v (by decide) rfl (by decide) rfl (by decide) (by rfl))
 k_call_by "r" (RefE.slc ?_ RefP.none ?_)
 k_call_by "r" (RefE.bin Op2.add ?_ ?_)
 k_call_by "r" (RefE.oldSlc O ?_ RefP.none ?_)
 walk_at "v"
 k_call_by "r" (RefP.some RefE.int)
 k_call_by "r" (RefE.lst ?_)
 k_call_by "r" (RefA.cons RefE.int ?_)
 k_call_by "r" (RefA.cons RefE.int ?_)
 k_call_by "r" (RefA.cons RefE.int ?_)
 k_call_by "r" (RefA.cons RefE.int ?_)
 k_call_by "r" (RefA.cons RefE.int ?_)
 k_call_by "r" (RefA.cons RefE.int ?_)
 k_call_by "r" (RefA.cons RefE.int ?_)
 k_call_by "r" (RefA.cons RefE.int RefA.nil)
 k_call_by "r" (RefP.some RefE.int)
 intro C
 k_call_by "r" (RefT.nameL (i := 4))
 intro C
 k_call_by "r" (RefIfs.nil)
 intro C
 k_call_by "r" (RefE.callD (G.gn _ _ rfl) (G.ob fd_itemS.2 (by decide)) h_item ?_)
 k_call_by "r" (RefA.cons ?_ RefA.nil)
 walk_at "v"
 walk_at "c"
 k_call_by "r" (RefS.asgL (i := 2) ?_)
 k_call_by "r" (RefE.callD (G.gn _ _ rfl) (G.ob fd_stepsS.2 (by decide)) h_steps ?_)
 k_call_by "r" (RefA.cons ?_ RefA.nil)
 k_call_by "r" (RefE.callD (G.gn _ _ rfl) (G.ob fd_unitsS.2 (by decide)) h_units ?_)
 walk_at "a"
 k_call_by "r" (RefE.varC (i := 1))
 k_call_by "r" (RefA.cons ?_ RefA.nil)
 k_call_by "r" (RefE.lst RefA.nil)
 walk_at "c"
 k_call_by "r" (RefS.asgC (i := 3) ?_)
 k_call_by "r" (RefE.callD (G.gn _ _ rfl) (G.ob fd_cheapS.2 (by decide)) h_cheap ?_)
 walk_at "a"
 walk_at "v"
 k_call_by "r" (RefA.cons ?_ RefA.nil)
 k_call_by "r" (RefE.varC (i := 1))
 walk_at "c"
 k_call_by "r" (RefS.ite ?_ ?_ RefL.nil)
 k_call_by "r" (RefB.not ?_)
 k_call_by "r" (RefB.val ?_)
 k_call_by "r" (RefE.callD (G.gn _ _ rfl) (G.ob fd_rightS.2 (by decide)) h_right ?_)
 walk_at "a"
 k_call_by "r" (RefE.varC (i := 1))
 k_call_by "r" (RefA.cons ?_ RefA.nil)
 k_call_by "r" (RefE.lst RefA.nil)
 k_call_by "r" (RefL.cons ?_ RefL.nil)
 k_call_by "r" (RefS.ret RefE.bool)
 walk_at "c"
 k_call_by "r" (RefS.ite ?_ ?_ RefL.nil)
 k_call_by "r" (RefB.cmp Cmp2.is ?_ RefE.none)
 k_call_by "r" (RefE.varC (i := 3))
 k_call_by "r" (RefL.cons ?_ RefL.nil)
 k_call_by "r" (RefS.ret ?_)
 k_call_by "r" (RefE.cmp Cmp2.is ?_ RefE.none)
 k_call_by "r" (RefE.callD (G.gn _ _ rfl) (G.ob fd_leastS.2 (by decide)) h_least ?_)
 walk_at "a"
 walk_at "v"
 k_call_by "r" (RefA.cons ?_ RefA.nil)
 k_call_by "r" (RefE.varC (i := 1))
 walk_at "c"
 k_call_by "r" (RefS.ite ?_ ?_ RefL.nil)
 k_call_by "r" (RefB.boolOp ?_)
 k_call_by "r" (RefBs.or ?_ ?_)
 k_call_by "r" (RefB.not ?_)
 k_call_by "r" (RefB.val ?_)
 k_call_by "r" (RefE.callD (G.gn _ _ rfl) (G.ob fd_rightS.2 (by decide)) h_right ?_)
 walk_at "a"
 k_call_by "r" (RefE.varC (i := 1))
 k_call_by "r" (RefA.cons ?_ RefA.nil)
 k_call_by "r" (RefE.varC (i := 3))
 k_call_by "r" (RefBs.or ?_ RefBs.orNil)
 k_call_by "r" (RefB.not ?_)
 k_call_by "r" (RefB.val ?_)
 k_call_by "r" (RefE.callD (G.gn _ _ rfl) (G.ob fd_takenS.2 (by decide)) h_taken ?_)
 k_call_by "r" (RefA.cons ?_ RefA.nil)
 k_call_by "r" (RefE.comp (nm' := ["%0", "%1", "%2", "found", "m"]) (fresh := [4]) ?_ ?_ ?_ ?_ Tw.v (by decide) rfl (by decide) rfl (by decide) (by rfl))
 walk_at "v"
 intro C
 k_call_by "r" (RefT.nameL (i := 4))
 intro C
 k_call_by "r" (RefIfs.one ?_)
 k_call_by "r" (RefB.cmp Cmp2.notIn ?_ ?_)
 k_call_by "r" (RefE.item ?_ RefE.int)
 walk_at "v"
 k_call_by "r" (RefE.varC (i := 3))
 intro C
 walk_at "v"
 k_call_by "r" (RefL.cons ?_ RefL.nil)
 k_call_by "r" (RefS.ret RefE.bool)
 k_call_by "r" (RefL.cons ?_ RefL.nil)
 k_call_by "r" (RefS.ret ?_)
 k_call_by "r" (RefE.cmp Cmp2.eq ?_ ?_)
 k_call_by "r" (RefE.callD (G.gn _ _ rfl) (G.ob fd_leastS.2 (by decide)) h_least ?_)
 walk_at "a"
 walk_at "v"
 k_call_by "r" (RefA.cons ?_ RefA.nil)
 k_call_by "r" (RefE.varC (i := 1))
 k_call_by "r" (RefE.callB (G.gn _ _ rfl) B.sum ?_)
 k_call_by "r" (RefA.cons ?_ RefA.nil)
 k_call_by "r" (RefE.comp (nm' := ["%0", "drawn", "%2", "%3", "j"]) (fresh := [4]) ?_ ?_ ?_ ?_ Tw.v (by decide) rfl (by decide) rfl (by decide) (by rfl))
 k_call_by "r" (RefE.varC (i := 3))
 intro C
 k_call_by "r" (RefT.nameL (i := 4))
 intro C
 k_call_by "r" (RefIfs.nil)
 intro C
 k_call_by "r" (RefE.item ?_ RefE.int)
 walk_at "i"
 k_call_by "r" (RefE.varC (i := 1))
 walk_at "v"
end Mine
end
section
namespace Mine
noncomputable def anyS {α : Type} : Bool → List (Option α) → Bool
 | _, [] => false
 | _, some _ :: r => anyS false r
 | p, none :: r => if p then anyS true r else true
noncomputable def gT : Bool → Bool → List (Option (List Nat)) → List Nat
 | _, _, [] => []
 | s, _, some x :: r => x ++ gT s false r
 | s, p, none :: r => if p then gT s true r else (if s then [41] else []) ++ (if anyS true r then [40, 63, 62, 46, 42, 63] else [46, 42]) ++ gT true true r
noncomputable def restT (R : List (List (List Nat))) : List Nat := if R = [] then [] else [41] ++ (tailOut R).flatten
theorem gT_segs : ∀ (r : List Pc),
  (gT false false (r.map (·.2)) = (segs r).1.flatten ++ (tailOut (segs r).2).flatten ∧ gT true false (r.map (·.2)) = (segs r).1.flatten ++ restT (segs r).2 ∧ (anyS false (r.map (·.2)) = true ↔ (segs r).2 ≠ [])) ∧
  ∀ p, ∃ F R, segs ((p, none) :: r) = ([], F :: R) ∧ gT true true (r.map (·.2)) = F.flatten ++ restT R ∧ (anyS true (r.map (·.2)) = true ↔ R ≠ [])
 | [] => ⟨by simp [gT, segs, tailOut, restT, anyS], fun p => ⟨[], [], by simp [segs], by simp [gT, restT], by simp [anyS]⟩⟩
 | (q, some x) :: r => by
  obtain ⟨⟨a1, a2, a3⟩, b⟩ := gT_segs r
  have e : segs ((q, some x) :: r) = (x :: (segs r).1, (segs r).2) := rfl
  rw [e]
  refine ⟨⟨?_, ?_, ?_⟩, fun p => ⟨x :: (segs r).1, (segs r).2, ?_, ?_, ?_⟩⟩
  ·simp [gT, a1]
  ·simp [gT, a2]
  ·simp [anyS, a3]
  ·rw [segs_none, e]; simp
  ·simp [gT, a2]
  ·simp [anyS, a3]
 | (q, none) :: r => by
  obtain ⟨_, b⟩ := gT_segs r
  obtain ⟨F, R, e, g, h⟩ := b q
  have key : (if anyS true (r.map (·.2)) then [40, 63, 62, 46, 42, 63] else [46, 42]) ++ gT true true (r.map (·.2)) = (tailOut (F :: R)).flatten := by
   rw [g]
   cases R with
   | nil =>
    have : anyS true (r.map (·.2)) = false := by
     cases hh : anyS true (r.map (·.2)) with
     | false => rfl
     | true => exact absurd rfl (h.mp hh)
    rw [this]
    by_cases hF : F = []
    ·subst hF; simp [tailOut, restT]
    ·simp [tailOut, restT, hF]
   | cons G R =>
    rw [h.mpr (by simp)]
    simp [tailOut, restT]
  refine ⟨⟨?_, ?_, ?_⟩, fun p => ⟨F, R, ?_, ?_, ?_⟩⟩
  ·rw [e]; simp only [List.map_cons, gT]
   rw [if_neg (by decide), if_neg (by decide), List.nil_append, key]; simp
  ·rw [e]; simp only [List.map_cons, gT]
   rw [if_neg (by decide), if_pos trivial, List.append_assoc, key]; simp [restT]
  ·rw [e]; simp [anyS]
  ·rw [segs_none, e]; simp
  ·simp [gT, g]
  ·simp [anyS, h]
noncomputable def gU : Bool → Bool → List (Option (List Unt)) → List Unt
 | _, _, [] => []
 | s, _, some x :: r => x ++ gU s false r
 | s, p, none :: r => if p then gU s true r else (if s then [([41], -1)] else []) ++ (if anyS true r then neg1 [[40], [63], [62], [46], [42], [63]] else neg1 [[46], [42]]) ++ gU true true r
noncomputable def tx (us : List Unt) : List Nat := (us.map (·.1)).flatten
theorem anyS_map {α β : Type} (f : α → β) : ∀ (p : Bool) (l : List (Option α)), anyS p (l.map (Option.map f)) = anyS p l
 | _, [] => rfl
 | p, some x :: r => by simp [anyS, anyS_map f]
 | p, none :: r => by simp [anyS, anyS_map f]
theorem gU_text : ∀ (s p : Bool) (l : List (Option (List Unt))), tx (gU s p l) = gT s p (l.map (Option.map tx))
 | _, _, [] => rfl
 | s, p, some x :: r => by
  have := gU_text s false r
  simp [gU, gT, tx] at this ⊢; rw [this]
 | s, p, none :: r => by
  have h1 := gU_text s true r
  have h2 := gU_text true true r
  simp only [gU, gT, List.map_cons, Option.map_none, anyS_map]
  cases p with
  | true => simpa using h1
  | false =>
   rw [if_neg (show ¬ (false = true) by decide), if_neg (show ¬ (false = true) by decide), ← h2]
   cases s <;> cases anyS true r <;> simp [tx, neg1]
noncomputable def cell (out : List Int) (p : Itm × Nat) : Option (List Unt) :=
 if p.1.1 = [42] then none else some (if p.1.2.1 ≠ 0 ∧ (p.2 : Int) ∈ out then [([92] ++ p.1.1, (p.2 : Int))] else if p.1.2.1 ≠ 0 then [([91], -1), (p.1.1, (p.2 : Int)), ([93], -1)] else neg1 (signs signTab p.1.1))
theorem pc_cell (out : List Int) (p : Itm × Nat) : (pcOf out p.2 p.1).2 = (cell out p).map tx := by
 unfold pcOf cell
 simp only
 by_cases h : p.1.1 = [42]
 ·rw [if_pos h, if_pos h]; rfl
 ·rw [if_neg h, if_neg h]
  split
  ·simp [tx]
  ·split
   ·simp [tx]
   ·simp [tx, neg1, Function.comp_def]
noncomputable def starts : Nat → Bool → List Itm → List Nat
 | _, _, [] => []
 | k, p, t :: r => if t.1 = [42] then (if p then starts (k + 1) true r else k :: starts (k + 1) true r) else starts (k + 1) false r
theorem starts_ge : ∀ (r : List Itm) (k : Nat) (p : Bool), ∀ x ∈ starts k p r, k ≤ x
 | [], _, _, x, h => by cases h
 | t :: r, k, p, x, h => by
  have ih := fun q => starts_ge r (k + 1) q x
  unfold starts at h
  split at h
  ·split at h
   ·have := ih _ h; walk_at "q"
   ·rcases List.mem_cons.mp h with rfl | h
    ·exact Nat.le_refl _
    ·have := ih _ h; walk_at "q"
  ·have := ih _ h; walk_at "q"
theorem starts_any (out : List Int) : ∀ (r : List Itm) (k : Nat) (p : Bool), anyS p ((r.zipIdx k).map (cell out)) = true ↔ starts k p r ≠ []
 | [], _, _ => by simp [anyS, starts]
 | t :: r, k, p => by
  have ih := fun q => starts_any out r (k + 1) q
  rw [List.zipIdx_cons, List.map_cons]
  unfold starts
  by_cases h : t.1 = [42]
  ·rw [if_pos h, show cell out (t, k) = none by unfold cell; rw [if_pos h]]
   cases p with
   | true => simpa [anyS] using ih true
   | false => simp [anyS]
  ·obtain ⟨us, hus⟩ : ∃ us, cell out (t, k) = some us := ⟨_, by unfold cell; rw [if_neg h]⟩
   rw [if_neg h, hus]; simpa [anyS] using ih false
noncomputable def starI : Itm := ([42], 0, 0)
theorem starAt_eq {row : List Itm} {k : Nat} {t : Itm} {p : Bool} (ht : row[k]? = some t) (hst : t.1 = [42] → t = starI) (hp : p = true ↔ 0 < k ∧ row[k - 1]? = some starI) : starAt row k = (decide (t.1 = [42]) && !p) := by
 unfold starAt
 rw [ht]
 by_cases h : t.1 = [42]
 ·have := hst h; subst this
  cases p with
  | true => obtain ⟨h1, h2⟩ := hp.mp rfl; simp [h2, starI]; walk_at "q"
  | false =>
   by_cases hk : k = 0
   ·simp [starI, hk]
   ·have : row[k - 1]? ≠ some starI := fun z => by have := hp.mpr ⟨by walk_at "q", z⟩; cases this
    simp [starI] at this ⊢; simp [this]
 ·simp [h]
theorem stars_starts {row : List Itm} (hst : ∀ t ∈ row, t.1 = [42] → t = starI) : ∀ (rest pre : List Itm) (p : Bool), row = pre ++ rest → (p = true ↔ 0 < pre.length ∧ row[pre.length - 1]? = some starI) →
  (List.range' pre.length rest.length).filter (starAt row) = starts pre.length p rest := by
 intro r
 induction r with
 | nil =>
  intro pre p _ _
  exact rfl
 | cons t r ih =>
  intro pre p e hp
  have ht : row[pre.length]? = some t := by rw [e]; simp
  have hm : t ∈ row := by rw [e]; simp
  have ih := fun q => ih (pre ++ [t]) q (by rw [e]; simp)
  have el : (pre ++ [t]).length = pre.length + 1 := by simp
  rw [el, Nat.add_sub_cancel, ht] at ih
  rw [List.length_cons, List.range'_succ, List.filter_cons, starAt_eq ht (hst t hm) hp]
  unfold starts
  by_cases h : t.1 = [42]
  ·have ih := ih true (by simp [hst t hm h])
   rw [if_pos h, ih]
   cases p <;> simp [h]
  ·have ih := ih false (by simp; rintro rfl; exact h rfl)
   rw [if_neg h, ih]
   simp [h]
theorem units_gU {row : List Itm} (out : List Int) (hst : ∀ t ∈ row, t.1 = [42] → t = starI) : ∀ (rest pre : List Itm) (p : Bool) (S1 : List Nat), row = pre ++ rest → (p = true ↔ 0 < pre.length ∧ row[pre.length - 1]? = some starI) →
  starsOf row = S1 ++ starts pre.length p rest → (∀ x ∈ S1, x < pre.length) → (p = true → S1 ≠ []) →
  (List.range' pre.length rest.length).flatMap (piece (starsOf row) row out) = gU (decide (S1 ≠ [])) p ((rest.zipIdx pre.length).map (cell out)) := by
 intro r
 induction r with
 | nil =>
  intro pre p S1 _ _ _ _ _
  exact rfl
 | cons t r ih =>
  intro pre p S1 e hp hS h1 hpS
  have ht : row[pre.length]? = some t := by rw [e]; simp
  have hm : t ∈ row := by rw [e]; simp
  have ih := fun q S => ih (pre ++ [t]) q S (by rw [e]; simp)
  have el : (pre ++ [t]).length = pre.length + 1 := by simp
  rw [el, Nat.add_sub_cancel, ht] at ih
  rw [List.length_cons, List.range'_succ, List.flatMap_cons, List.zipIdx_cons, List.map_cons]
  have hpc : piece (starsOf row) row out pre.length = pieceA (starsOf row) pre.length ++ pieceB (starsOf row) out pre.length t := by unfold piece; rw [ht]
  rw [hpc]
  unfold starts at hS
  have h1' : ∀ x ∈ S1, x < pre.length + 1 := fun x hx => by have := h1 x hx; walk_at "q"
  have hn1 : pre.length ∉ S1 := fun z => Nat.lt_irrefl _ (h1 _ z)
  by_cases h : t.1 = [42]
  ·rw [if_pos h] at hS
   rw [show cell out (t, pre.length) = none by unfold cell; rw [if_pos h]]
   have htt := hst t hm h
   cases p with
   | true =>
    rw [if_pos rfl] at hS
    have hn : pre.length ∉ starsOf row := fun z => by
     rw [hS] at z
     rcases List.mem_append.mp z with z | z
     ·exact hn1 z
     ·have := starts_ge _ _ _ _ z; lia
    rw [ih true S1 (by simp [htt]) hS h1' hpS]
    have eA : pieceA (starsOf row) pre.length = [] := by unfold pieceA; rw [if_neg (fun z => hn z.1)]
    have eB : pieceB (starsOf row) out pre.length t = [] := by unfold pieceB; subst htt; rw [if_neg hn]; simp [starI]
    rw [eA, eB]; rfl
   | false =>
    rw [if_neg (by decide)] at hS
    have hin : pre.length ∈ starsOf row := by rw [hS]; simp
    rw [ih true (S1 ++ [pre.length]) (by simp [htt]) (by rw [hS]; simp) (by intro x hx; rcases List.mem_append.mp hx with hx | hx; exact h1' x hx; simp at hx; lia) (by simp)]
    have ed : decide (S1 ++ [pre.length] ≠ []) = true := by simp
    rw [ed]
    have eA : pieceA (starsOf row) pre.length = if decide (S1 ≠ []) then [([41], -1)] else [] := by
     unfold pieceA
     rw [hS]
     cases S1 with
     | nil => simp
     | cons x S1 => have := h1 x List.mem_cons_self; simp [this]
    have eB : pieceB (starsOf row) out pre.length t = if anyS true ((r.zipIdx (pre.length + 1)).map (cell out)) then neg1 [[40], [63], [62], [46], [42], [63]] else neg1 [[46], [42]] := by
     unfold pieceB
     rw [if_pos hin]
     have hany := starts_any out r (pre.length + 1) true
     have hge := starts_ge r (pre.length + 1) true
     by_cases ha : starts (pre.length + 1) true r = []
     ·have h2 : anyS true ((r.zipIdx (pre.length + 1)).map (cell out)) = false := by
       cases hh : anyS true ((r.zipIdx (pre.length + 1)).map (cell out)) with
       | false => rfl
       | true => exact absurd ha (hany.mp hh)
      rw [h2, hS, ha]; simp
     ·rw [hany.mpr ha, if_pos rfl, hS]
      have : (S1 ++ pre.length :: starts (pre.length + 1) true r).getLast?.getD 0 = (starts (pre.length + 1) true r).getLast ha := by
       rw [List.getLast?_append, List.getLast?_cons, List.getLast?_eq_some_getLast ha]; simp
      rw [this, if_pos]
      have := hge _ (List.getLast_mem ha); lia
    rw [eA, eB]; simp [gU]
  ·rw [if_neg h] at hS
   have hn : pre.length ∉ starsOf row := fun z => by
    rw [hS] at z
    rcases List.mem_append.mp z with z | z
    ·exact hn1 z
    ·have := starts_ge _ _ _ _ z; omega
   rw [ih false S1 (by simp; rintro rfl; exact h rfl) hS h1' (by simp)]
   have eA : pieceA (starsOf row) pre.length = [] := by unfold pieceA; rw [if_neg (fun z => hn z.1)]
   rw [eA]
   have ec : cell out (t, pre.length) = some (if t.2.1 ≠ 0 ∧ (pre.length : Int) ∈ out then [([92] ++ t.1, (pre.length : Int))] else if t.2.1 ≠ 0 then [([91], -1), (t.1, (pre.length : Int)), ([93], -1)] else neg1 (signs signTab t.1)) := by unfold cell; rw [if_neg h]
   rw [ec]
   unfold pieceB
   rw [if_neg hn, List.nil_append]
   simp only [gU]
   congr 1
   split
   ·rfl
   ·split
    ·rfl
    ·first | rfl | rw [if_pos h]
theorem units_eq {row : List Itm} (out : List Int) (hst : ∀ t ∈ row, t.1 = [42] → t = starI) : unitsOf row out = neg1 [[40], [63], [115], [58]] ++ gU false false (row.zipIdx.map (cell out)) ++ neg1 [[41], [92, 90]] := by
 have h1 := stars_starts hst row [] false rfl (by simp)
 have h2 := units_gU out hst row [] false [] rfl (by simp) (by unfold starsOf; rw [List.range_eq_range']; exact h1) (by simp) (by simp)
 unfold unitsOf
 rw [List.range_eq_range']
 simp only [List.length_nil] at h2
 rw [h2]; simp
theorem text_eq {row : List Itm} (out : List Int) (hst : ∀ t ∈ row, t.1 = [42] → t = starI) : textOf (pcsOf row out) = ((unitsOf row out).map (·.1)).flatten := by
 have h1 := (gT_segs (pcsOf row out)).1.1
 have h2 := gU_text false false (row.zipIdx.map (cell out))
 have e : (pcsOf row out).map (·.2) = (row.zipIdx.map (cell out)).map (Option.map tx) := by
  unfold pcsOf; rw [List.map_map, List.map_map]; exact List.map_congr_left fun p _ => pc_cell out p
 rw [e, ← h2] at h1
 unfold textOf
 rw [List.flatten_append, ← h1, units_eq out hst]
 simp [tx, neg1]
noncomputable abbrev Fl := (Int × Int) × Bool
noncomputable def adj (f : Fl) : Int := f.1.1 + if f.2 = true ∧ f.1.1 < 0 ∧ 0 ≤ f.1.2 then 1 else 0
noncomputable def Cov : Int → List Fl → Prop
 | D, [] => 0 ≤ D
 | D, f :: fs => 0 ≤ D ∧ Cov (D + adj f) fs
theorem Cov.mono : ∀ {fs : List Fl} {D D' : Int}, Cov D fs → D ≤ D' → Cov D' fs
 | [], D, D', h, hd => by unfold Cov at *; omega
 | f :: fs, D, D', h, hd => ⟨by have := h.1; omega, Cov.mono h.2 (by omega)⟩
theorem Cov.nonneg {fs : List Fl} {D : Int} (h : Cov D fs) : 0 ≤ D := by cases fs <;> first | exact h | exact h.1
noncomputable def fc (c : Int → Int) (fs : List Fl) : Int := (fs.map fun f => if f.2 = true ∧ f.1.1 < 0 ∧ 0 ≤ f.1.2 then c f.1.2 else 0).sum
theorem sum_perm {l k : List Int} (h : l.Perm k) : l.sum = k.sum := by
 induction h with
 | nil => rfl
 | cons x _ ih => simp [ih]
 | swap x y l => simp; (subst_vars; grind only)
 | trans _ _ a b => exact a.trans b
theorem sum_nonneg {l : List Int} (h : ∀ x ∈ l, 0 ≤ x) : 0 ≤ l.sum := by
 induction l with
 | nil => simp
 | cons a l ih => have := ih fun x hx => h x (List.mem_cons_of_mem _ hx); have := h a List.mem_cons_self; simp; omega
noncomputable def cs (l : List Pr) : Int := (l.map (·.1)).sum
theorem cs_cons (p : Pr) (l : List Pr) : cs (p :: l) = p.1 + cs l := by simp [cs]
theorem cs_perm {l k : List Pr} (h : l.Perm k) : cs l = cs k := sum_perm (h.map _)
noncomputable def rs (c : Int → Int) (l : List Int) : Int := (l.map c).sum
theorem rs_cons (c : Int → Int) (p : Int) (l : List Int) : rs c (p :: l) = c p + rs c l := by simp [rs]
theorem fc_cons (c : Int → Int) (f : Fl) (fs : List Fl) : fc c (f :: fs) = (if f.2 = true ∧ f.1.1 < 0 ∧ 0 ≤ f.1.2 then c f.1.2 else 0) + fc c fs := by simp [fc]
theorem run_opt (c : Int → Int) (hc : ∀ k, 0 ≤ c k) : ∀ (fs : List Fl) (pq C D : List Pr) (d : Int), pq.Perm (C ++ D) → (∀ p ∈ pq, p.1 = c p.2) → Cov (d + C.length) fs →
  ∃ res, run c pq d (fs.map (·.1)) = some res ∧ rs c res ≤ cs C + fc c fs := by
 intro fs
 induction fs with
 | nil =>
  intro pq C D d hp hpq hcov
  refine ⟨[], by simp [run], ?_⟩
  have : 0 ≤ cs C := sum_nonneg fun x hx => by
   obtain ⟨p, hpm, rfl⟩ := List.mem_map.mp hx
   rw [hpq p (hp.mem_iff.mpr (List.mem_append_left _ hpm))]; exact hc _
  have h1 : rs c [] = 0 := rfl
  have h2 : fc c [] = 0 := rfl
  (subst_vars; lia)
 | cons x0 fs ih =>
  intro pq C D d hp hpq hcov
  obtain ⟨⟨s, k⟩, b⟩ := x0
  obtain ⟨hc0, hcov⟩ := hcov
  obtain ⟨C1, D1, hp1, hlen, hcost⟩ : ∃ C1 D1, (if s < 0 ∧ 0 ≤ k then (c k, k) :: pq else pq).Perm (C1 ++ D1) ∧ (C1.length : Int) = C.length + (if b = true ∧ s < 0 ∧ 0 ≤ k then 1 else 0) ∧ cs C1 = cs C + (if b = true ∧ s < 0 ∧ 0 ≤ k then c k else 0) := by
   by_cases hsk : s < 0 ∧ 0 ≤ k
   ·rw [if_pos hsk]
    by_cases hb : b = true
    ·exact ⟨(c k, k) :: C, D, hp.cons _, by rw [if_pos ⟨hb, hsk⟩]; simp, by rw [if_pos ⟨hb, hsk⟩, cs_cons]; grind only⟩
    ·exact ⟨C, (c k, k) :: D, (hp.cons _).trans List.perm_middle.symm, by rw [if_neg (fun z => hb z.1)]; simp, by rw [if_neg (fun z => hb z.1)]; simp⟩
   ·rw [if_neg hsk]
    exact ⟨C, D, hp, by rw [if_neg (fun z => hsk z.2)]; simp, by rw [if_neg (fun z => hsk z.2)]; simp⟩
  have hpq1 : ∀ p ∈ (if s < 0 ∧ 0 ≤ k then (c k, k) :: pq else pq), p.1 = c p.2 := by
   intro p hpm
   split at hpm
   ·rcases List.mem_cons.mp hpm with rfl | h
    ·rfl
    ·exact hpq p h
   ·exact hpq p hpm
  have hadj : d + C.length + adj ((s, k), b) = d + s + C1.length := by unfold adj; simp only; (subst_vars; grind only)
  rw [hadj] at hcov
  have hfc : fc c (((s, k), b) :: fs) = (if b = true ∧ s < 0 ∧ 0 ≤ k then c k else 0) + fc c fs := fc_cons c _ fs
  rw [List.map_cons, run]
  generalize (if s < 0 ∧ 0 ≤ k then (c k, k) :: pq else pq) = pq1 at *
  by_cases hd : d + s < 0
  ·rw [if_pos hd]
   have hC1 : 1 ≤ C1.length := by have := hcov.nonneg; (subst_vars; grind only)
   obtain ⟨x, C2, rfl⟩ := List.exists_cons_of_ne_nil (show C1 ≠ [] by intro z; rw [z] at hC1; simp at hC1)
   cases pq1 with
   | nil => exact absurd hp1.symm.eq_nil (by simp)
   | cons a q =>
    obtain ⟨hm1, hm2⟩ := minL_spec q a
    simp only
    generalize minL a q = m at *
    have hxm : x ∈ a :: q := hp1.mem_iff.mpr (by simp)
    have hle : m.1 ≤ x.1 := by have := hm2 x hxm; unfold ple plt at this; lia
    have hmc : m.1 = c m.2 := hpq1 m hm1
    have her : (a :: q).Perm (m :: (a :: q).erase m) := List.perm_cons_erase hm1
    have hpq2 : ∀ p ∈ (a :: q).erase m, p.1 = c p.2 := fun p hpm => hpq1 p (List.mem_of_mem_erase hpm)
    obtain ⟨C3, D3, hp3, hl3, hs3⟩ : ∃ C3 D3, ((a :: q).erase m).Perm (C3 ++ D3) ∧ C3.length = C2.length ∧ m.1 + cs C3 ≤ cs (x :: C2) := by
     by_cases hmC : m ∈ x :: C2
     ·have h1 := List.perm_cons_erase hmC
      refine ⟨(x :: C2).erase m, D1, ?_, by rw [List.length_erase_of_mem hmC]; simp, ?_⟩
      ·exact (her.symm.trans (hp1.trans (h1.append_right D1))).cons_inv
      ·have := cs_perm h1; rw [cs_cons m] at this; grind
     ·have hmD : m ∈ D1 := by
       have := hp1.mem_iff.mp hm1
       rcases List.mem_append.mp this with h | h
       ·exact absurd h hmC
       ·exact h
      have h1 := List.perm_cons_erase hmD
      refine ⟨C2, x :: D1.erase m, ?_, rfl, by rw [cs_cons]; lia⟩
      refine (her.symm.trans (hp1.trans ?_)).cons_inv (a := m)
      refine ((List.Perm.append_left (x :: C2) h1).trans ?_)
      have e1 : (x :: C2 ++ m :: D1.erase m).Perm (m :: (x :: C2 ++ D1.erase m)) := List.perm_middle
      refine e1.trans (List.Perm.cons m ?_)
      exact (List.perm_middle (a := x) (l₁ := C2) (l₂ := D1.erase m)).symm
    obtain ⟨res, hr1, hr2⟩ := ih _ C3 D3 0 hp3 hpq2 (hcov.mono (by simp at hl3 ⊢; (subst_vars; grind only)))
    refine ⟨m.2 :: res, by rw [hr1]; rfl, ?_⟩
    rw [hfc, rs_cons]
    (subst_vars; grind only)
  ·rw [if_neg hd]
   obtain ⟨res, hr1, hr2⟩ := ih pq1 C1 D1 (d + s) hp1 hpq1 (by rwa [Int.add_assoc] at hcov ⊢)
   exact ⟨res, hr1, by rw [hfc]; (subst_vars; omega)⟩
noncomputable abbrev S2 := Int × Int
noncomputable def hkeys (r : List S2) : List Int := (r.filter fun x => decide (0 ≤ x.2)).map (·.2)
noncomputable def fsum (res : List Int) (r : List S2) : Int := ((r.filter fun x => decide (x.2 ∉ res)).map (·.1)).sum
theorem fsum_nil (res : List Int) : fsum res [] = 0 := rfl
theorem fsum_cons (res : List Int) (x : S2) (r : List S2) : fsum res (x :: r) = (if x.2 ∈ res then 0 else x.1) + fsum res r := by
 unfold fsum
 by_cases h : x.2 ∈ res
 ·rw [List.filter_cons_of_neg (by simpa using h), if_pos h]; simp
 ·rw [List.filter_cons_of_pos (by simpa using h), if_neg h]; simp
theorem fsum_app (res : List Int) (a b : List S2) : fsum res (a ++ b) = fsum res a + fsum res b := by
 induction a with
 | nil => simp [fsum_nil]
 | cons x a ih => rw [List.cons_append, fsum_cons, fsum_cons, ih]; lia
theorem fsum_congr {res res' : List Int} : ∀ {r : List S2}, (∀ x ∈ r, x.2 ∈ res ↔ x.2 ∈ res') → fsum res r = fsum res' r
 | [], _ => rfl
 | x :: r, h => by
  have e := fsum_congr (r := r) fun y hy => h y (List.mem_cons_of_mem _ hy)
  have hx := h x List.mem_cons_self
  rw [fsum_cons, fsum_cons, e]
  by_cases hm : x.2 ∈ res
  ·rw [if_pos hm, if_pos (hx.mp hm)]
  ·rw [if_neg hm, if_neg (fun z => hm (hx.mpr z))]
theorem hkeys_cons (x : S2) (r : List S2) : hkeys (x :: r) = if 0 ≤ x.2 then x.2 :: hkeys r else hkeys r := by
 unfold hkeys
 by_cases h : 0 ≤ x.2
 ·rw [List.filter_cons_of_pos (by simpa using h), if_pos h]; rfl
 ·rw [List.filter_cons_of_neg (by simpa using h), if_neg h]
theorem hkeys_mem {r : List S2} {k : Int} : k ∈ hkeys r ↔ 0 ≤ k ∧ ∃ x ∈ r, x.2 = k := by
 unfold hkeys
 rw [List.mem_map]
 constructor
 ·rintro ⟨x, hx, rfl⟩; simp at hx; exact ⟨hx.2, x, hx.1, rfl⟩
 ·rintro ⟨h0, x, hx, rfl⟩; exact ⟨x, by simp [hx, h0], rfl⟩
noncomputable def pk (pq : List Pr) : List Int := pq.map (·.2)
noncomputable def cnt (res : List Int) (pq : List Pr) : Nat := (pq.filter fun p => decide (p.2 ∈ res)).length
theorem cnt_cons (res : List Int) (p : Pr) (pq : List Pr) : cnt res (p :: pq) = (if p.2 ∈ res then 1 else 0) + cnt res pq := by
 unfold cnt
 by_cases h : p.2 ∈ res
 ·rw [List.filter_cons_of_pos (by simpa using h), if_pos h]; simp; omega
 ·rw [List.filter_cons_of_neg (by simpa using h), if_neg h]; simp
theorem cnt_perm {res : List Int} {a b : List Pr} (h : a.Perm b) : cnt res a = cnt res b := (h.filter _).length_eq
theorem cnt_congr {res res' : List Int} : ∀ {pq : List Pr}, (∀ p ∈ pq, p.2 ∈ res ↔ p.2 ∈ res') → cnt res pq = cnt res' pq
 | [], _ => rfl
 | p :: pq, h => by
  have e := cnt_congr (pq := pq) fun y hy => h y (List.mem_cons_of_mem _ hy)
  have hx := h p List.mem_cons_self
  rw [cnt_cons, cnt_cons, e]
  by_cases hm : p.2 ∈ res
  ·rw [if_pos hm, if_pos (hx.mp hm)]
  ·rw [if_neg hm, if_neg (fun z => hm (hx.mpr z))]
theorem cnt_nil_res (pq : List Pr) : cnt [] pq = 0 := by unfold cnt; simp
theorem run_struct (c : Int → Int) : ∀ (r : List S2) (pq : List Pr) (d : Int) (res : List Int), run c pq d r = some res → 0 ≤ d → (∀ x ∈ r, x.1 = 1 ∨ x.1 = -1) → (pk pq ++ hkeys r).Nodup → (∀ k ∈ pk pq, 0 ≤ k) →
  (∀ k ∈ res, k ∈ pk pq ++ hkeys r) ∧ (∀ r1 r2, r = r1 ++ r2 → 0 ≤ d + fsum res r1 + cnt res pq) ∧
  (res = [] ∨ ∃ r1 r2, r = r1 ++ r2 ∧ (∀ k ∈ res, k ∈ pk pq ++ hkeys r1) ∧ d + fsum res r1 + cnt res pq = 0) := by
 intro r
 induction r with
 | nil =>
  intro pq d res h hd hs hn hk0
  simp [run] at h
  subst h
  refine ⟨by simp, fun r1 r2 e => ?_, .inl rfl⟩
  have : r1 = [] := by
   cases r1 with
   | nil => rfl
   | cons _ _ => cases e
  subst this
  rw [fsum_nil, cnt_nil_res]; omega
 | cons x0 r ih =>
  intro pq d res h hd hs hn hk0
  obtain ⟨s, k⟩ := x0
  have hs0 := hs (s, k) List.mem_cons_self
  have hsr : ∀ x ∈ r, x.1 = 1 ∨ x.1 = -1 := fun x hx => hs x (List.mem_cons_of_mem _ hx)
  simp only at hs0
  have hkr : 0 ≤ k → k ∉ hkeys r ∧ k ∉ pk pq := fun hk => by
   rw [hkeys_cons, if_pos hk] at hn
   have := List.nodup_append.mp hn
   exact ⟨(List.nodup_cons.mp this.2.1).1, fun z => this.2.2 k z k List.mem_cons_self rfl⟩
  have hnr : (pk pq ++ hkeys r).Nodup := by
   rw [hkeys_cons] at hn
   split at hn
   ·exact hn.sublist (List.Sublist.append_left (List.sublist_cons_self _ _) _)
   ·exact hn
  rw [run] at h
  obtain ⟨pq1, hpq1, hn1, hk1, hmem1, hcnt1⟩ : ∃ pq1, pq1 = (if s < 0 ∧ 0 ≤ k then (c k, k) :: pq else pq) ∧ (pk pq1 ++ hkeys r).Nodup ∧ (∀ k ∈ pk pq1, 0 ≤ k) ∧
    (∀ x, x ∈ pk pq1 → x ∈ pk pq ∨ (x = k ∧ 0 ≤ k)) ∧ (∀ res' : List Int, (∀ x ∈ res', x ∈ pk pq1 ++ hkeys r) → (s : Int) + cnt res' pq1 = (if k ∈ res' then 0 else s) + cnt res' pq) := by
   by_cases hsk : s < 0 ∧ 0 ≤ k
   ·refine ⟨_, rfl, ?_, ?_, ?_, ?_⟩ <;> rw [if_pos hsk]
    ·have := hkr hsk.2
     simp only [pk, List.map_cons, List.cons_append, List.nodup_cons]
     exact ⟨fun z => (List.mem_append.mp z).elim this.2 this.1, hnr⟩
    ·intro x hx
     rcases List.mem_cons.mp hx with rfl | hx
     ·exact hsk.2
     ·exact hk0 x hx
    ·intro x hx
     rcases List.mem_cons.mp hx with rfl | hx
     ·exact .inr ⟨rfl, hsk.2⟩
     ·exact .inl hx
    ·intro res' _
     rw [cnt_cons]
     by_cases hm : k ∈ res'
     ·simp only [if_pos hm]; (subst_vars; omega)
     ·simp only [if_neg hm]; (subst_vars; grind only)
   ·refine ⟨_, rfl, ?_, ?_, ?_, ?_⟩ <;> rw [if_neg hsk]
    ·exact hnr
    ·exact hk0
    ·exact fun x hx => .inl hx
    ·intro res' hm
     have : k ∉ res' := fun z => by
      rcases List.mem_append.mp (hm k z) with h1 | h1
      ·have hk := hk0 k h1; exact (hkr hk).2 h1
      ·have hk := (hkeys_mem.mp h1).1; exact (hkr hk).1 h1
     rw [if_neg this]
  rw [← hpq1] at h
  have up : ∀ x, x ∈ pk pq1 ++ hkeys r → x ∈ pk pq ++ hkeys ((s, k) :: r) := fun x hx => by
   rw [hkeys_cons]
   rcases List.mem_append.mp hx with h1 | h1
   ·rcases hmem1 x h1 with h2 | ⟨rfl, h2⟩
    ·exact List.mem_append_left _ h2
    ·rw [if_pos h2]; exact List.mem_append_right _ List.mem_cons_self
   ·refine List.mem_append_right _ ?_
    split
    ·exact List.mem_cons_of_mem _ h1
    ·exact h1
  have up1 : ∀ x r1, x ∈ pk pq1 ++ hkeys r1 → x ∈ pk pq ++ hkeys ((s, k) :: r1) := fun x r1 hx => by
   rw [hkeys_cons]
   rcases List.mem_append.mp hx with h1 | h1
   ·rcases hmem1 x h1 with h2 | ⟨rfl, h2⟩
    ·exact List.mem_append_left _ h2
    ·rw [if_pos h2]; exact List.mem_append_right _ List.mem_cons_self
   ·refine List.mem_append_right _ ?_
    split
    ·exact List.mem_cons_of_mem _ h1
    ·exact h1
  have back : ∀ (D : Int), D = d + s → (∀ x ∈ res, x ∈ pk pq1 ++ hkeys r) → (∀ r1 r2, r = r1 ++ r2 → 0 ≤ D + fsum res r1 + cnt res pq1) → (res = [] ∨ ∃ r1 r2, r = r1 ++ r2 ∧ (∀ k ∈ res, k ∈ pk pq1 ++ hkeys r1) ∧ D + fsum res r1 + cnt res pq1 = 0) →
    (∀ k' ∈ res, k' ∈ pk pq ++ hkeys ((s, k) :: r)) ∧ (∀ r1 r2, (s, k) :: r = r1 ++ r2 → 0 ≤ d + fsum res r1 + cnt res pq) ∧
    (res = [] ∨ ∃ r1 r2, (s, k) :: r = r1 ++ r2 ∧ (∀ k' ∈ res, k' ∈ pk pq ++ hkeys r1) ∧ d + fsum res r1 + cnt res pq = 0) := by
   rintro D rfl hm ha hc'
   have hc1 := hcnt1 res hm
   refine ⟨fun x hx => up x (hm x hx), fun r1 r2 e => ?_, ?_⟩
   ·cases r1 with
    | nil => rw [fsum_nil]; lia
    | cons y r1 =>
     simp only [List.cons_append, List.cons.injEq] at e
     obtain ⟨rfl, e⟩ := e
     have := ha r1 r2 e
     rw [fsum_cons]; simp only; lia
   ·rcases hc' with rfl | ⟨r1, r2, e, h1, h2⟩
    ·exact .inl rfl
    ·refine .inr ⟨(s, k) :: r1, r2, by rw [e]; rfl, fun x hx => up1 x r1 (h1 x hx), ?_⟩
     rw [fsum_cons]; simp only; grind
  by_cases hds : d + s < 0
  ·rw [if_pos hds] at h
   cases pq1 with
   | nil => cases h
   | cons a q =>
    simp only at h
    obtain ⟨hm1, hm2⟩ := minL_spec q a
    generalize minL a q = m at *
    obtain ⟨res', hr, rfl⟩ := Option.map_eq_some_iff.mp h
    have her : (a :: q).Perm (m :: (a :: q).erase m) := List.perm_cons_erase hm1
    have hpkp : (pk (a :: q) ++ hkeys r).Perm (m.2 :: (pk ((a :: q).erase m) ++ hkeys r)) := (her.map (·.2)).append_right _
    have hn2 := (hpkp.nodup_iff.mp hn1)
    have hm2n := (List.nodup_cons.mp hn2).1
    obtain ⟨i1, i2, i3⟩ := ih _ 0 res' hr (Int.le_refl _) hsr (List.nodup_cons.mp hn2).2 (fun x hx => hk1 x ((her.map (·.2)).mem_iff.mpr (List.mem_cons_of_mem _ hx)))
    have hmr : m.2 ∉ res' := fun z => hm2n (i1 _ z)
    have hcn : cnt (m.2 :: res') (a :: q) = 1 + cnt res' ((a :: q).erase m) := by
     rw [cnt_perm her, cnt_cons, if_pos List.mem_cons_self, cnt_congr (res' := res')]
     intro p hp
     have hne : p.2 ≠ m.2 := fun z => hm2n (List.mem_append_left _ (by rw [← z]; exact List.mem_map.mpr ⟨p, hp, rfl⟩))
     simp [hne]
    have hfs : ∀ r1 r2, r = r1 ++ r2 → fsum (m.2 :: res') r1 = fsum res' r1 := fun r1 r2 e => fsum_congr fun x hx => by
     have hne : x.2 ≠ m.2 := fun z => by
      have hm0 : 0 ≤ m.2 := hk1 m.2 (List.mem_map.mpr ⟨m, hm1, rfl⟩)
      exact hm2n (List.mem_append_right _ (hkeys_mem.mpr ⟨hm0, x, by rw [e]; exact List.mem_append_left _ hx, z⟩))
     simp [hne]
    have hds' : d + s = -1 := by (subst_vars; omega)
    refine back (-1) hds'.symm (fun x hx => ?_) (fun r1 r2 e => ?_) ?_
    ·rcases List.mem_cons.mp hx with rfl | hx
     ·exact List.mem_append_left _ (List.mem_map.mpr ⟨m, hm1, rfl⟩)
     ·exact hpkp.mem_iff.mpr (List.mem_cons_of_mem _ (i1 x hx))
    ·rw [hfs r1 r2 e, hcn]; have := i2 r1 r2 e; push_cast; lia
    ·right
     rcases i3 with rfl | ⟨r1, r2, e, h1, h2⟩
     ·exact ⟨[], r, rfl, fun x hx => by simp at hx; subst hx; exact List.mem_append_left _ (List.mem_map.mpr ⟨m, hm1, rfl⟩), by rw [fsum_nil, hcn, cnt_nil_res]; rfl⟩
     ·refine ⟨r1, r2, e, fun x hx => ?_, by rw [hfs r1 r2 e, hcn]; push_cast; lia⟩
      rcases List.mem_cons.mp hx with rfl | hx
      ·exact List.mem_append_left _ (List.mem_map.mpr ⟨m, hm1, rfl⟩)
      ·rcases List.mem_append.mp (h1 x hx) with h3 | h3
       ·exact List.mem_append_left _ ((her.map (·.2)).mem_iff.mpr (List.mem_cons_of_mem _ h3))
       ·exact List.mem_append_right _ h3
  ·rw [if_neg hds] at h
   obtain ⟨i1, i2, i3⟩ := ih pq1 (d + s) res h (by walk_at "q") hsr hn1 hk1
   exact back _ rfl i1 i2 i3
set_option tactic.hygienic true
theorem ins_le {T : Tbl} {e : Int × Int} {d v : Int} (h : T.lookup d = some v) : ∃ v', (insT T e).lookup d = some v' ∧ v' ≤ v := by
 unfold insT
 split
 ·rename_i hc
  rw [setT_lookup]
  split
  ·rename_i hd; subst hd
   rw [h] at hc
   exact ⟨_, rfl, hc.2⟩
  ·exact ⟨v, h, Int.le_refl _⟩
 ·exact ⟨v, h, Int.le_refl _⟩
set_option tactic.hygienic false
set_option tactic.hygienic true
theorem ins_new {T : Tbl} {e : Int × Int} (h0 : 0 ≤ e.1) : ∃ v', (insT T e).lookup e.1 = some v' ∧ v' ≤ e.2 := by
 unfold insT
 split
 ·rw [setT_lookup, if_pos rfl]; exact ⟨_, rfl, Int.le_refl _⟩
 ·rename_i hc
  cases hl : T.lookup e.1 with
  | none => rw [hl] at hc; exact absurd ⟨h0, Int.le_refl _⟩ hc
  | some v =>
   rw [hl] at hc
   refine ⟨v, rfl, ?_⟩
   have : ¬ e.2 ≤ v := fun z => hc ⟨h0, z⟩
   omega
set_option tactic.hygienic false
set_option tactic.hygienic true
theorem ins_from {T : Tbl} {e : Int × Int} {d v : Int} (h : (insT T e).lookup d = some v) : T.lookup d = some v ∨ ((d, v) = e ∧ 0 ≤ d) := by
 unfold insT at h
 split at h
 ·rename_i hc
  rw [setT_lookup] at h
  split at h
  ·rename_i hd; subst hd; injection h with h; subst h; exact .inr ⟨rfl, hc.1⟩
  ·exact .inl h
 ·exact .inl h
set_option tactic.hygienic false
theorem fold_le : ∀ (W : Tbl) {T : Tbl} {d v : Int}, T.lookup d = some v → ∃ v', (W.foldl insT T).lookup d = some v' ∧ v' ≤ v
 | [], T, d, v, h => ⟨v, h, Int.le_refl _⟩
 | e :: W, T, d, v, h => by
  obtain ⟨v1, h1, h2⟩ := ins_le (e := e) h
  obtain ⟨v2, h3, h4⟩ := fold_le W h1
  exact ⟨v2, h3, by omega⟩
theorem fold_new : ∀ (W : Tbl) {T : Tbl} {e : Int × Int}, e ∈ W → 0 ≤ e.1 → ∃ v', (W.foldl insT T).lookup e.1 = some v' ∧ v' ≤ e.2
 | [], T, e, h, _ => by cases h
 | x :: W, T, e, h, h0 => by
  rcases List.mem_cons.mp h with rfl | h
  ·obtain ⟨v1, h1, h2⟩ := ins_new (T := T) h0
   obtain ⟨v2, h3, h4⟩ := fold_le W h1
   exact ⟨v2, h3, by omega⟩
  ·exact fold_new W h h0
theorem fold_from : ∀ (W : Tbl) {T : Tbl} {d v : Int}, (W.foldl insT T).lookup d = some v → T.lookup d = some v ∨ ((d, v) ∈ W ∧ 0 ≤ d)
 | [], T, d, v, h => .inl h
 | e :: W, T, d, v, h => by
  rcases fold_from W h with h | ⟨h, h0⟩
  ·rcases ins_from h with h | ⟨rfl, h0⟩
   ·exact .inl h
   ·exact .inr ⟨List.mem_cons_self, h0⟩
  ·exact .inr ⟨List.mem_cons_of_mem _ h, h0⟩
theorem mem_of_look : ∀ {T : Tbl} {d v : Int}, T.lookup d = some v → (d, v) ∈ T
 | [], _, _, h => by cases h
 | a :: T, d, v, h => by
  obtain ⟨a1, a2⟩ := a
  rw [List.lookup_cons] at h
  cases hb : (d == a1) with
  | true =>
   rw [hb] at h; injection h with h; have : d = a1 := by simpa using hb
   subst this; subst h; exact List.mem_cons_self
  | false => rw [hb] at h; exact List.mem_cons_of_mem _ (mem_of_look h)
noncomputable def rem (f : Fl) : Int := if f.2 = true then 0 else f.1.1
noncomputable def hcost (c : Int → Int) (f : Fl) : Int := if f.2 = true then c f.1.2 else 0
def FlOk (fs : List Fl) : Prop := ∀ f ∈ fs, f.2 = true → 0 ≤ f.1.2
noncomputable def PathOk : Int → List Fl → Prop
 | d, [] => True
 | d, f :: fs => 0 ≤ d + rem f ∧ PathOk (d + rem f) fs
noncomputable def tot (fs : List Fl) : Int := (fs.map rem).sum
noncomputable def tc (c : Int → Int) (fs : List Fl) : Int := (fs.map (hcost c)).sum
theorem tot_cons (f : Fl) (fs : List Fl) : tot (f :: fs) = rem f + tot fs := by simp [tot]
theorem tc_cons (c : Int → Int) (f : Fl) (fs : List Fl) : tc c (f :: fs) = hcost c f + tc c fs := by simp [tc]
theorem least_sound (c : Int → Int) : ∀ (fs : List Fl) (T : Tbl) (d v : Int), FlOk fs → PathOk d fs → 0 ≤ d → T.lookup d = some v →
  ∃ v', ((fs.map (·.1)).foldl (stepT c) T).lookup (d + tot fs) = some v' ∧ v' ≤ v + tc c fs := by
 intro fs
 induction fs with
 | nil =>
  intro T d v _ _ _ h
  exact ⟨v, by simpa [tot] using h, by simp [tc]⟩
 | cons x0 fs ih =>
  intro T d v hf hp h0 h
  obtain ⟨⟨s, k⟩, b⟩ := x0
  have hm := mem_of_look h
  have hf' : FlOk fs := fun f hfm => hf f (List.mem_cons_of_mem _ hfm)
  obtain ⟨hp1, hp2⟩ := hp
  have one : ∃ v1, (stepT c T (s, k)).lookup (d + rem ((s, k), b)) = some v1 ∧ v1 ≤ v + hcost c ((s, k), b) := by
   cases b with
   | true =>
    have hk := hf ((s, k), true) List.mem_cons_self rfl
    simp only at hk
    have : (d, v + c k) ∈ waysT c T (s, k) := by
     unfold waysT; rw [if_pos hk]
     exact List.mem_append_right _ (List.mem_map.mpr ⟨(d, v), hm, rfl⟩)
    obtain ⟨v1, h1, h2⟩ := fold_new (waysT c T (s, k)) (T := []) this h0
    refine ⟨v1, ?_, by simpa [hcost] using h2⟩
    unfold stepT; simpa [rem] using h1
   | false =>
    have : (d + s, v) ∈ waysT c T (s, k) := by
     unfold waysT
     exact List.mem_append_left _ (List.mem_map.mpr ⟨(d, v), hm, rfl⟩)
    obtain ⟨v1, h1, h2⟩ := fold_new (waysT c T (s, k)) (T := []) this (by simpa [rem] using hp1)
    refine ⟨v1, ?_, by simpa [hcost] using h2⟩
    unfold stepT; simpa [rem] using h1
  obtain ⟨v1, h1, h2⟩ := one
  obtain ⟨v2, h3, h4⟩ := ih (stepT c T (s, k)) _ v1 hf' hp2 hp1 h1
  refine ⟨v2, ?_, by rw [tc_cons]; grind only⟩
  rw [tot_cons, ← Int.add_assoc]; exact h3
set_option tactic.hygienic true
theorem least_complete (c : Int → Int) : ∀ (steps : List S2) (T : Tbl) (n : Nat) (d v : Int), (∀ s ∈ steps, s.1 ≤ 1) → KeysIn T n → (steps.foldl (stepT c) T).lookup d = some v →
  ∃ d0 v0 fs, T.lookup d0 = some v0 ∧ fs.map (·.1) = steps ∧ FlOk fs ∧ PathOk d0 fs ∧ d0 + tot fs = d ∧ v = v0 + tc c fs := by
 intro steps
 induction steps with
 | nil =>
  intro T n d v _ _ h
  exact ⟨d, v, [], h, rfl, (fun f hf => by cases hf), trivial, by simp [tot], by simp [tc]⟩
 | cons x0 steps ih =>
  intro T n d v hs hk h
  obtain ⟨s, k⟩ := x0
  have hs0 := hs (s, k) List.mem_cons_self
  obtain ⟨d1, v1, fs, h1, h2, h3, h4, h5, h6⟩ := ih (stepT c T (s, k)) (n + 1) d v (fun x hx => hs x (List.mem_cons_of_mem _ hx)) (stepT_keys hk hs0) h
  rcases fold_from _ h1 with h7 | ⟨h7, h8⟩
  ·cases h7
  ·unfold waysT at h7
   rcases List.mem_append.mp h7 with h9 | h9
   ·obtain ⟨⟨d0, v0⟩, hm, he⟩ := List.mem_map.mp h9
    simp only [Prod.mk.injEq] at he
    obtain ⟨rfl, rfl⟩ := he
    refine ⟨d0, v0, ((s, k), false) :: fs, lookup_mem hk.1 hm, by rw [List.map_cons, h2], ?_, ⟨by simpa [rem] using h8, by simpa [rem] using h4⟩, ?_, ?_⟩
    ·intro f hf hb
     rcases List.mem_cons.mp hf with rfl | hf
     ·cases hb
     ·exact h3 f hf hb
    ·rw [tot_cons]; simp only [rem]; simp; omega
    ·rw [tc_cons]; simp only [hcost]; simp; omega
   ·split at h9
    ·rename_i hk0
     obtain ⟨⟨d0, v0⟩, hm, he⟩ := List.mem_map.mp h9
     simp only [Prod.mk.injEq] at he
     obtain ⟨rfl, rfl⟩ := he
     refine ⟨d0, v0, ((s, k), true) :: fs, lookup_mem hk.1 hm, by rw [List.map_cons, h2], ?_, ⟨by simpa [rem] using h8, by simpa [rem] using h4⟩, ?_, ?_⟩
     ·intro f hf hb
      rcases List.mem_cons.mp hf with rfl | hf
      ·exact hk0
      ·exact h3 f hf hb
     ·rw [tot_cons]; simp only [rem]; simp; omega
     ·rw [tc_cons]; simp only [hcost]; simp; omega
    ·cases h9
set_option tactic.hygienic false
theorem cov_of_path : ∀ (fs : List Fl) (d D : Int), FlOk fs → (∀ f ∈ fs, f.1.1 = 1 ∨ f.1.1 = -1) → 0 ≤ d → d ≤ D → PathOk d fs → Cov D fs
 | [], d, D, _, _, h0, h1, _ => by unfold Cov; omega
 | f :: fs, d, D, hf, hs, h0, h1, hp => by
  obtain ⟨p1, p2⟩ := hp
  have hr : rem f ≤ adj f := by
   have hs1 := hs f List.mem_cons_self
   unfold rem adj
   by_cases hb : f.2 = true
   ·have := hf f List.mem_cons_self hb
    simp only [hb, if_true, true_and]
    split <;> omega
   ·simp [hb]
  exact ⟨by omega, cov_of_path fs _ _ (fun g hg => hf g (List.mem_cons_of_mem _ hg)) (fun g hg => hs g (List.mem_cons_of_mem _ hg)) p1 (by omega) p2⟩
theorem path_prefix : ∀ (a : List Fl) {b : List Fl} {d : Int}, 0 ≤ d → PathOk d (a ++ b) → 0 ≤ d + tot a
 | [], b, d, h0, _ => by simpa [tot] using h0
 | f :: a, b, d, h0, h => by
  have := path_prefix a (b := b) h.1 h.2
  rw [tot_cons]; omega
theorem path_of : ∀ (fs : List Fl) (d : Int), (∀ a b, fs = a ++ b → 0 ≤ d + tot a) → PathOk d fs
 | [], _, _ => trivial
 | f :: fs, d, h => by
  have h1 := h [f] fs rfl
  rw [tot_cons] at h1
  have e0 : tot [] = 0 := rfl
  exact ⟨by omega, path_of fs _ fun a b e => by have := h (f :: a) b (by rw [e]; rfl); rw [tot_cons] at this; omega⟩
noncomputable def sadj (fs : List Fl) : Int := (fs.map adj).sum
theorem sadj_cons (f : Fl) (fs : List Fl) : sadj (f :: fs) = adj f + sadj fs := by simp [sadj]
theorem cov_of : ∀ (fs : List Fl) (D : Int), (∀ a b, fs = a ++ b → 0 ≤ D + sadj a) → Cov D fs
 | [], D, h => by have := h [] [] rfl; simpa [sadj, Cov] using this
 | f :: fs, D, h => by
  have h1 := h [] (f :: fs) rfl
  have e0 : sadj [] = 0 := rfl
  exact ⟨by omega, cov_of fs _ fun a b e => by have := h (f :: a) b (by rw [e]; rfl); rw [sadj_cons] at this; omega⟩
theorem tot_app (a b : List Fl) : tot (a ++ b) = tot a + tot b := by simp [tot]
noncomputable def negS (s : S2) : S2 := (-1 * s.1, s.2)
theorem fsum_neg (res : List Int) : ∀ x : List S2, fsum res (x.map negS) = - fsum res x
 | [] => rfl
 | s :: x => by
  rw [List.map_cons, fsum_cons, fsum_cons, fsum_neg res x]
  have e1 : (negS s).2 = s.2 := rfl
  have e2 : (negS s).1 = -1 * s.1 := rfl
  rw [e1, e2]
  split <;> omega
theorem fsum_rev (res : List Int) : ∀ x : List S2, fsum res x.reverse = fsum res x
 | [] => rfl
 | s :: x => by rw [List.reverse_cons, fsum_app, fsum_rev res x, fsum_cons, fsum_cons, fsum_nil]; (subst_vars; omega)
theorem fsum_filter (E L : List Int) : ∀ x : List S2, fsum L (x.filter fun s => decide (s.2 ∉ E)) = fsum (E ++ L) x
 | [] => rfl
 | s :: x => by
  rw [fsum_cons]
  by_cases h : s.2 ∈ E
  ·rw [List.filter_cons_of_neg (by simpa using h), fsum_filter E L x, if_pos (List.mem_append_left _ h)]; omega
  ·rw [List.filter_cons_of_pos (by simpa using h), fsum_cons, fsum_filter E L x]
   congr 1
   by_cases h2 : s.2 ∈ L
   ·rw [if_pos h2, if_pos (List.mem_append_right _ h2)]
   ·rw [if_neg h2, if_neg (fun z => (List.mem_append.mp z).elim h h2)]
theorem flt_right (E : List Int) (steps : List S2) : flt (-1) E steps.reverse = ((steps.filter fun s => decide (s.2 ∉ E)).map negS).reverse := by
 unfold flt
 rw [List.filter_reverse, List.map_reverse]; rfl
theorem flt_left (steps : List S2) : flt 1 [] steps = steps := by
 unfold flt
 rw [List.filter_eq_self.mpr (by simp)]
 have : (fun s : S2 => (1 * s.1, s.2)) = id := by funext s; simp
 rw [this]; simp
theorem hkeys_app (a b : List S2) : hkeys (a ++ b) = hkeys a ++ hkeys b := by simp [hkeys]
theorem hkeys_neg (x : List S2) : hkeys (x.map negS) = hkeys x := by
 induction x with
 | nil => rfl
 | cons s x ih => rw [List.map_cons, hkeys_cons, hkeys_cons, ih]; rfl
theorem hkeys_rev (x : List S2) : hkeys x.reverse = (hkeys x).reverse := by simp [hkeys, List.filter_reverse]
theorem hkeys_sub (p : S2 → Bool) (x : List S2) : (hkeys (x.filter p)).Sublist (hkeys x) := (List.filter_sublist.filter _).map _
theorem left_facts {c : Int → Int} {steps : List S2} {E : List Int} (hs : ∀ x ∈ steps, x.1 = 1 ∨ x.1 = -1) (hn : (hkeys steps).Nodup) (h : run c [] 0 steps = some E) :
  (∀ k ∈ E, k ∈ hkeys steps) ∧ (∀ a b, steps = a ++ b → 0 ≤ fsum E a) ∧ ∃ P Q, steps = P ++ Q ∧ (∀ k ∈ E, k ∈ hkeys P) ∧ fsum E P = 0 := by
 obtain ⟨h1, h2, h3⟩ := run_struct c steps [] 0 E h (Int.le_refl _) hs (by simpa [pk] using hn) (by simp [pk])
 have ec : cnt E [] = 0 := rfl
 refine ⟨by simpa [pk] using h1, fun a b e => by have := h2 a b e; rw [ec] at this; simpa using this, ?_⟩
 rcases h3 with rfl | ⟨P, Q, e, m, z⟩
 ·exact ⟨[], steps, rfl, by simp, rfl⟩
 ·exact ⟨P, Q, e, by simpa [pk] using m, by rw [ec] at z; simpa using z⟩
theorem not_later {E : List Int} {P Q : List S2} (hn : (hkeys (P ++ Q)).Nodup) (h : ∀ k ∈ E, k ∈ hkeys P) : ∀ x ∈ Q, x.2 ∉ E := fun x hx hk => by
 rw [hkeys_app] at hn
 have h1 := h _ hk
 exact (List.nodup_append.mp hn).2.2 _ h1 _ (hkeys_mem.mpr ⟨(hkeys_mem.mp h1).1, x, hx, rfl⟩) rfl
theorem not_before {E : List Int} {P Q : List S2} (hn : (hkeys (P ++ Q)).Nodup) (h : ∀ k ∈ E, k ∈ hkeys Q) : ∀ x ∈ P, x.2 ∉ E := fun x hx hk => by
 rw [hkeys_app] at hn
 have h1 := h _ hk
 exact (List.nodup_append.mp hn).2.2 _ (hkeys_mem.mpr ⟨(hkeys_mem.mp h1).1, x, hx, rfl⟩) _ h1 rfl
theorem both_facts {c : Int → Int} {steps : List S2} {E L : List Int} (hs : ∀ x ∈ steps, x.1 = 1 ∨ x.1 = -1) (hn : (hkeys steps).Nodup) (h : run c [] 0 steps = some E) (hL : run c [] 0 (flt (-1) E steps.reverse) = some L) :
  (∀ k ∈ E ++ L, k ∈ hkeys steps) ∧ (∀ a b, steps = a ++ b → 0 ≤ fsum (E ++ L) a) ∧ fsum (E ++ L) steps = 0 := by
 obtain ⟨l1, l2, l3⟩ := left_facts hs hn h
 rw [flt_right] at hL
 have hnT : (hkeys (steps.filter fun s => decide (s.2 ∉ E))).Nodup := hn.sublist (hkeys_sub _ _)
 obtain ⟨r1, r2, P, Q, e, hP, hz⟩ := left_facts (c := c) (E := L) (by
  intro x hx
  rw [List.mem_reverse] at hx
  obtain ⟨y, hy, rfl⟩ := List.mem_map.mp hx
  have := hs y ((List.mem_filter.mp hy).1)
  unfold negS; simp only; omega) (by rw [hkeys_rev, hkeys_neg]; exact (List.reverse_perm _).nodup_iff.mpr hnT) hL
 have suf : ∀ a b, steps = a ++ b → fsum (E ++ L) b ≤ 0 := fun a b e => by
  have := r2 ((b.filter fun s => decide (s.2 ∉ E)).map negS).reverse ((a.filter fun s => decide (s.2 ∉ E)).map negS).reverse (by rw [e, List.filter_append, List.map_append, List.reverse_append])
  rw [fsum_rev, fsum_neg, fsum_filter] at this
  lia
 have hmem : ∀ k ∈ L, k ∈ hkeys steps := fun k hk => by
  have := r1 k hk
  rw [hkeys_rev, hkeys_neg, List.mem_reverse] at this
  exact (hkeys_sub _ _).subset this
 have total : fsum (E ++ L) steps = 0 := by
  have h1 := suf [] steps rfl
  have e' : (steps.filter fun s => decide (s.2 ∉ E)).map negS = Q.reverse ++ P.reverse := by
   have := congrArg List.reverse e; simpa using this
  obtain ⟨S2', S1', eT, eS2, eS1⟩ := List.map_eq_append_iff.mp e'
  obtain ⟨A, B, eA, eA2, eA1⟩ := List.filter_eq_append_iff.mp eT
  have hzB : fsum (E ++ L) B = 0 := by
   rw [← fsum_filter, eA1]
   have : fsum L P.reverse = 0 := by rw [fsum_rev]; exact hz
   rw [← eS1, fsum_neg] at this; lia
  have hzA : 0 ≤ fsum (E ++ L) A := by
   have h3 := l2 A B eA
   have hk : ∀ k ∈ L, k ∈ hkeys S1' := fun k hk => by
    have := hP k hk
    rw [← List.reverse_reverse P, hkeys_rev, List.mem_reverse, ← eS1, hkeys_neg] at this
    exact this
   rw [eT] at hnT
   have h4 := not_before hnT hk
   have e5 : fsum (E ++ L) A = fsum E A := by
    rw [← fsum_filter, eA2]
    have : fsum E A = fsum [] (A.filter fun s => decide (s.2 ∉ E)) := by rw [fsum_filter]; simp
    rw [this, eA2]
    exact fsum_congr fun x hx => by simp [h4 x hx]
   lia
  rw [eA, fsum_app] at h1 ⊢
  lia
 refine ⟨fun k hk => (List.mem_append.mp hk).elim (l1 k) (hmem k), fun a b e => ?_, total⟩
 have h1 := suf a b e
 rw [e, fsum_app] at total
 grind only
theorem bal_of : ∀ (T : List S2) (d : Int), (∀ a b, T = a ++ b → 0 ≤ d + (a.map (·.1)).sum) → d + (T.map (·.1)).sum = 0 → balGo T d true = true
 | [], d, _, h => by simp at h; simp [balGo, h]
 | (s, k) :: T, d, h, h0 => by
  have h1 := h [(s, k)] T rfl
  simp at h1
  rw [balGo, Bool.true_and, decide_eq_true h1]
  refine bal_of T _ (fun a b e => ?_) (by simp at h0; omega)
  have := h ((s, k) :: a) b (by rw [e]; rfl)
  simp at this; omega
theorem bal_both {steps : List S2} {res : List Int} (h1 : ∀ a b, steps = a ++ b → 0 ≤ fsum res a) (h2 : fsum res steps = 0) : balGo (steps.filter fun s => decide (s.2 ∉ res)) 0 true = true := by
 refine bal_of _ 0 (fun a b e => ?_) (by rw [Int.zero_add]; exact h2)
 obtain ⟨A, B, eA, eA2, eA1⟩ := List.filter_eq_append_iff.mp e
 have := h1 A B eA
 unfold fsum at this
 rw [eA2] at this; rw [Int.zero_add]; exact this
noncomputable def negF (f : Fl) : Fl := (negS f.1, f.2)
noncomputable def outF (E : List Int) (fs : List Fl) : List Fl := fs.filter fun f => decide (f.1.2 ∉ E)
theorem out_map (E : List Int) (fs : List Fl) : (outF E fs).map (·.1) = (fs.map (·.1)).filter fun s => decide (s.2 ∉ E) := by
 unfold outF; rw [List.filter_map]; rfl
theorem suf_le {E : List Int} : ∀ (fs : List Fl), FlOk fs → (∀ f ∈ fs, f.1.1 = 1 ∨ f.1.1 = -1) → 0 ≤ sadj (((outF E fs).map negF).reverse) + fsum E (fs.map (·.1)) ∧ ((∀ f ∈ fs, f.1.2 ∉ E) → 0 ≤ sadj (((outF E fs).map negF).reverse) + tot fs)
 | [], _, _ => by simp [outF, sadj, fsum, tot]
 | f :: fs, hf, hs => by
  obtain ⟨i1, i2⟩ := suf_le fs (fun g hg => hf g (List.mem_cons_of_mem _ hg)) (fun g hg => hs g (List.mem_cons_of_mem _ hg)) (E := E)
  have hs1 := hs f List.mem_cons_self
  have sr : ∀ x : List Fl, sadj x.reverse = sadj x := fun x => sum_perm ((List.reverse_perm x).map _)
  rw [sr] at i1 i2 ⊢
  rw [List.map_cons, fsum_cons, tot_cons]
  by_cases h : f.1.2 ∈ E
  ·have e : outF E (f :: fs) = outF E fs := by unfold outF; rw [List.filter_cons_of_neg (by simpa using h)]
   rw [e, if_pos h]
   exact ⟨by lia, fun z => absurd h (z f List.mem_cons_self)⟩
  ·have e : outF E (f :: fs) = f :: outF E fs := by unfold outF; rw [List.filter_cons_of_pos (by simpa using h)]
   rw [e, if_neg h, List.map_cons, sadj_cons]
   have ha : 0 ≤ adj (negF f) + f.1.1 ∧ 0 ≤ adj (negF f) + rem f := by
    have hf1 := hf f List.mem_cons_self
    unfold adj rem negF negS
    simp only
    by_cases hb : f.2 = true
    ·have := hf1 hb
     simp only [hb, true_and, if_true]
     split <;> grind
    ·simp [hb]; lia
   refine ⟨by lia, fun z => ?_⟩
   have := i2 fun g hg => z g (List.mem_cons_of_mem _ hg)
   lia
theorem fc_le (c : Int → Int) (hc : ∀ k, 0 ≤ c k) (E : List Int) : ∀ fs : List Fl, fc c fs + fc c (((outF E fs).map negF).reverse) ≤ tc c fs := by
 intro fs
 induction fs with
 | nil =>
  simp [fc, tc, outF]
 | cons f fs ih =>
  have ih := ih
  have sr : ∀ x : List Fl, fc c x.reverse = fc c x := fun x => sum_perm ((List.reverse_perm x).map _)
  rw [sr] at ih ⊢
  rw [fc_cons, tc_cons]
  have h0 := hc f.1.2
  have key : (if f.2 = true ∧ f.1.1 < 0 ∧ 0 ≤ f.1.2 then c f.1.2 else 0) + (if f.2 = true ∧ (negF f).1.1 < 0 ∧ 0 ≤ f.1.2 then c f.1.2 else 0) ≤ hcost c f := by
   unfold hcost negF negS
   simp only
   by_cases hb : f.2 = true
   ·simp only [hb, true_and, if_true]
    split <;> split <;> omega
   ·simp [hb]
  have k2 : 0 ≤ (if f.2 = true ∧ (negF f).1.1 < 0 ∧ 0 ≤ f.1.2 then c f.1.2 else 0) := by split <;> omega
  by_cases h : f.1.2 ∈ E
  ·have e : outF E (f :: fs) = outF E fs := by unfold outF; rw [List.filter_cons_of_neg (by simpa using h)]
   rw [e]; omega
  ·have e : outF E (f :: fs) = f :: outF E fs := by unfold outF; rw [List.filter_cons_of_pos (by simpa using h)]
   rw [e, List.map_cons, fc_cons]
   have e3 : (negF f).2 = f.2 := rfl
   have e4 : (negF f).1.2 = f.1.2 := rfl
   rw [e3, e4]; omega
theorem cheap_opt {c : Int → Int} (hc : ∀ k, 0 ≤ c k) {steps : List S2} (hs : ∀ x ∈ steps, x.1 = 1 ∨ x.1 = -1) (hn : (hkeys steps).Nodup) {fs : List Fl} (hm : fs.map (·.1) = steps) (hf : FlOk fs) (hp : PathOk 0 fs) (h0 : tot fs = 0) :
  ∃ L, cheapF c steps = some L ∧ rs c L ≤ tc c fs := by
 have hsf : ∀ f ∈ fs, f.1.1 = 1 ∨ f.1.1 = -1 := fun f hfm => hs f.1 (by rw [← hm]; exact List.mem_map.mpr ⟨f, hfm, rfl⟩)
 obtain ⟨E, hE, cE⟩ := run_opt c hc fs [] [] [] 0 (List.Perm.refl _) (by simp) (by simpa using cov_of_path fs 0 0 hf hsf (Int.le_refl _) (Int.le_refl _) hp)
 rw [hm] at hE
 obtain ⟨l1, l2, P, Q, e, m, z⟩ := left_facts hs hn hE
 have hE' : hiddenF c steps 1 [] = some E := by unfold hiddenF; rw [if_pos rfl, flt_left]; exact hE
 have hcov : Cov 0 (((outF E fs).map negF).reverse) := by
  refine cov_of _ 0 fun a b eab => ?_
  have e1 : (outF E fs).map negF = b.reverse ++ a.reverse := by
   have := congrArg List.reverse eab; simpa using this
  obtain ⟨x, y, exy, ex, ey⟩ := List.map_eq_append_iff.mp e1
  obtain ⟨X, Y, eXY, eX, eY⟩ := List.filter_eq_append_iff.mp exy
  have ha : a = ((outF E Y).map negF).reverse := by
   have : outF E Y = y := eY
   rw [this, ey, List.reverse_reverse]
  rw [Int.zero_add, ha]
  have hXp : 0 ≤ tot X := by have := path_prefix X (b := Y) (d := 0) (Int.le_refl _) (by rw [← eXY]; exact hp); omega
  have hfa : ∀ {A B : List Fl}, fs = A ++ B → FlOk B ∧ (∀ f ∈ B, f.1.1 = 1 ∨ f.1.1 = -1) ∧ tot B ≤ 0 := fun {A B} e => by
   refine ⟨fun f hfm => hf f (by rw [e]; exact List.mem_append_right _ hfm), fun f hfm => hsf f (by rw [e]; exact List.mem_append_right _ hfm), ?_⟩
   have := path_prefix A (b := B) (d := 0) (Int.le_refl _) (by rw [← e]; exact hp)
   rw [e, tot_app] at h0; omega
  obtain ⟨fY, sY, tY⟩ := hfa eXY
  have hPQ : fs.map (·.1) = P ++ Q := by rw [hm, e]
  obtain ⟨fP, fQ, efs, eP, eQ⟩ := List.map_eq_append_iff.mp hPQ
  have hnot : ∀ f ∈ fQ, f.1.2 ∉ E := fun f hfm => not_later (by rw [← e]; exact hn) m f.1 (by rw [← eQ]; exact List.mem_map.mpr ⟨f, hfm, rfl⟩)
  rw [eXY] at efs
  rcases List.append_eq_append_iff.mp efs with ⟨M, e5, e6⟩ | ⟨M, e5, e6⟩
  ·-- the suffix begins within P
   subst e6
   obtain ⟨s1, _⟩ := suf_le (E := E) M (fun f hfm => fY f (List.mem_append_left _ hfm)) (fun f hfm => sY f (List.mem_append_left _ hfm))
   obtain ⟨fQ1, sQ1, tQ1⟩ := hfa (A := X ++ M) (B := fQ) (by rw [eXY, List.append_assoc])
   obtain ⟨_, s2⟩ := suf_le (E := E) fQ fQ1 sQ1
   have s2 := s2 hnot
   have hM : fsum E (M.map (·.1)) ≤ 0 := by
    have hX := l2 (X.map (·.1)) (M.map (·.1) ++ fQ.map (·.1)) (by rw [← hm, eXY]; simp)
    have : fsum E P = fsum E (X.map (·.1)) + fsum E (M.map (·.1)) := by rw [← eP, e5, List.map_append, fsum_app]
    omega
   have eo : ((outF E (M ++ fQ)).map negF).reverse = ((outF E fQ).map negF).reverse ++ ((outF E M).map negF).reverse := by unfold outF; rw [List.filter_append, List.map_append, List.reverse_append]
   have es : ∀ u v : List Fl, sadj (u ++ v) = sadj u + sadj v := fun u v => by simp [sadj]
   rw [eo, es]; omega
  ·-- it lies within Q
   have hY : ∀ f ∈ Y, f.1.2 ∉ E := fun f hfm => hnot f (by rw [e6]; exact List.mem_append_right _ hfm)
   have := (suf_le (E := E) Y fY sY).2 hY
   omega
 obtain ⟨L, hL, cL⟩ := run_opt c hc _ [] [] [] 0 (List.Perm.refl _) (by simp) (by simpa using hcov)
 have hmap : (((outF E fs).map negF).reverse).map (·.1) = flt (-1) E steps.reverse := by
  rw [flt_right, List.map_reverse, List.map_map, ← hm, ← out_map, List.map_map]; rfl
 rw [hmap] at hL
 have hL' : hiddenF c steps (-1) E = some L := by unfold hiddenF; rw [if_neg (by decide)]; exact hL
 refine ⟨E ++ L, by unfold cheapF; rw [hE', Option.bind_some, hL']; rfl, ?_⟩
 have hle := fc_le c hc E fs
 have ez : cs [] = 0 := rfl
 have er : rs c (E ++ L) = rs c E + rs c L := by simp [rs]
 rw [er]; omega
theorem one_le (c : Int → Int) (hc : ∀ k, 0 ≤ c k) (a : Int) : ∀ ks : List Int, ks.Nodup → (ks.map fun k => if k = a then c k else 0).sum ≤ c a
 | [], _ => by simpa using hc a
 | k :: ks, hn => by
  have hn' := List.nodup_cons.mp hn
  rw [List.map_cons, List.sum_cons]
  by_cases h : k = a
  ·subst h
   have : (ks.map fun j => if j = k then c j else 0) = ks.map fun _ => 0 := List.map_congr_left fun j hj => if_neg (fun z => hn'.1 (by rw [← z]; exact hj))
   rw [this, if_pos rfl]
   have : ∀ l : List Int, (l.map fun _ => (0 : Int)).sum = 0 := fun l => by induction l with
    | nil => rfl
    | cons _ _ ih => simpa using ih
   rw [this]; omega
  ·rw [if_neg h]; have := one_le c hc a ks hn'.2; omega
theorem all_le (c : Int → Int) (hc : ∀ k, 0 ≤ c k) {ks : List Int} (hn : ks.Nodup) : ∀ res : List Int, (ks.map fun k => if k ∈ res then c k else 0).sum ≤ rs c res
 | [] => by
  have : (ks.map fun k => if k ∈ ([] : List Int) then c k else 0) = ks.map fun _ => 0 := by simp
  rw [this]
  have : ∀ l : List Int, (l.map fun _ => (0 : Int)).sum = 0 := fun l => by induction l with
   | nil => rfl
   | cons _ _ ih => simpa using ih
  rw [this]; exact Int.le_refl _
 | a :: res => by
  have h1 := one_le c hc a ks hn
  have h2 := all_le c hc hn res
  have h3 : ∀ l : List Int, (l.map fun k => if k ∈ a :: res then c k else 0).sum ≤ (l.map fun k => if k = a then c k else 0).sum + (l.map fun k => if k ∈ res then c k else 0).sum := fun l => by
   induction l with
   | nil => simp
   | cons k l ih =>
    simp only [List.map_cons, List.sum_cons]
    have hk := hc k
    have : (if k ∈ a :: res then c k else 0) ≤ (if k = a then c k else 0) + (if k ∈ res then c k else 0) := by
     by_cases e : k = a
     ·subst e; simp; split <;> omega
     ·by_cases e2 : k ∈ res
      ·simp [e, e2]
      ·simp [e, e2]
    omega
  have := h3 ks
  rw [rs_cons]; omega
noncomputable def flags (res : List Int) (steps : List S2) : List Fl := steps.map fun s => (s, decide (s.2 ∈ res))
theorem flags_tot (res : List Int) : ∀ steps : List S2, tot (flags res steps) = fsum res steps
 | [] => rfl
 | s :: r => by
  have ih := flags_tot res r
  unfold flags at ih ⊢
  rw [List.map_cons, tot_cons, fsum_cons, ih]
  congr 1
  simp [rem]
theorem flags_tc (c : Int → Int) {res : List Int} : ∀ steps : List S2, (∀ k ∈ res, 0 ≤ k) → tc c (flags res steps) = ((hkeys steps).map fun k => if k ∈ res then c k else 0).sum
 | [], _ => rfl
 | s :: r, h => by
  have ih := flags_tc c r h
  unfold flags at ih ⊢
  rw [List.map_cons, tc_cons, hkeys_cons, ih]
  by_cases hk : 0 ≤ s.2
  ·rw [if_pos hk, List.map_cons, List.sum_cons]
   congr 1
   simp [hcost]
  ·rw [if_neg hk]
   have : s.2 ∉ res := fun z => hk (h _ z)
   simp [hcost, this]
theorem flags_path {res : List Int} {steps : List S2} (h : ∀ a b, steps = a ++ b → 0 ≤ fsum res a) : PathOk 0 (flags res steps) := path_of _ 0 fun a b e => by
 obtain ⟨x, y, exy, ex, ey⟩ := List.map_eq_append_iff.mp e
 have : tot a = fsum res x := by rw [← ex]; exact flags_tot res x
 have := h x y exy
 omega
theorem cheap_least {c : Int → Int} (hc : ∀ k, 0 ≤ c k) {steps : List S2} (hs : ∀ x ∈ steps, x.1 = 1 ∨ x.1 = -1) (hn : (hkeys steps).Nodup) :
  (cheapF c steps = none → (leastT c steps).lookup 0 = none) ∧
  ∀ L, cheapF c steps = some L → (leastT c steps).lookup 0 = some ((L.map c).sum) ∧ balGo (steps.filter fun s => decide (s.2 ∉ L)) 0 true = true ∧ (∀ k ∈ L, k ∈ hkeys steps) ∧ L.length ≤ 2 * steps.length := by
 have hk0 : KeysIn [((0 : Int), (0 : Int))] 0 := ⟨by simp, by simp⟩
 have comp : ∀ v, (leastT c steps).lookup 0 = some v → ∃ L, cheapF c steps = some L ∧ rs c L ≤ v := fun v hv => by
  obtain ⟨d0, v0, fs, h1, h2, h3, h4, h5, h6⟩ := least_complete c steps [(0, 0)] 0 0 v (fun x hx => by rcases hs x hx with h | h <;> omega) hk0 hv
  have h7 := mem_of_look h1
  simp at h7
  obtain ⟨rfl, rfl⟩ := h7
  obtain ⟨L, hL, hle⟩ := cheap_opt hc hs hn h2 h3 h4 (by omega)
  exact ⟨L, hL, by omega⟩
 constructor
 ·intro hnone
  cases hv : (leastT c steps).lookup 0 with
  | none => rfl
  | some v => obtain ⟨L, hL, _⟩ := comp v hv; rw [hnone] at hL; cases hL
 ·intro L hL
  have hL0 := hL
  unfold cheapF at hL
  obtain ⟨E, hE, hL⟩ := Option.bind_eq_some_iff.mp hL
  obtain ⟨R, hR, rfl⟩ := Option.map_eq_some_iff.mp hL
  have lE := hidden_len hE
  have lR := hidden_len hR
  unfold hiddenF at hE hR
  rw [if_pos rfl, flt_left] at hE
  rw [if_neg (by decide)] at hR
  obtain ⟨b1, b2, b3⟩ := both_facts hs hn hE hR
  refine ⟨?_, bal_both b2 b3, b1, by rw [List.length_append]; omega⟩
  have hfl : FlOk (flags (E ++ R) steps) := fun f hfm hb => by
   obtain ⟨s, hsm, rfl⟩ := List.mem_map.mp hfm
   have : s.2 ∈ E ++ R := by simpa using hb
   exact (hkeys_mem.mp (b1 _ this)).1
  obtain ⟨v, hv, hle⟩ := least_sound c (flags (E ++ R) steps) [(0, 0)] 0 0 hfl (flags_path b2) (Int.le_refl _) rfl
  have em : (flags (E ++ R) steps).map (·.1) = steps := by unfold flags; rw [List.map_map]; exact List.map_id steps
  rw [em, flags_tot, b3] at hv
  rw [flags_tc c steps (fun k hk => (hkeys_mem.mp (b1 _ hk)).1)] at hle
  have := all_le c hc hn (E ++ R)
  obtain ⟨L', hL', hle'⟩ := comp v hv
  rw [hL0] at hL'
  injection hL' with hL'
  subst hL'
  have hvv : v = rs c (E ++ R) := by omega
  rw [hvv] at hv
  exact hv
def Shp (t : Itm) : Prop := (∃ c : Int, 1 ≤ c ∧ c ≤ 1000000000 ∧ (t = ([40], 1, c) ∨ t = ([41], -1, c))) ∨ ∃ m, t = (m, 0, 0) ∧ m ∈ [[42], [34]] ++ moreL
theorem itemOf_shp (x : Int) : Shp (itemOf x) := by
 have m0 : 0 ≤ Int.fmod (Int.fdiv x 8) 1000000000 := Int.fmod_nonneg_of_pos _ (by decide)
 have m1 : Int.fmod (Int.fdiv x 8) 1000000000 < 1000000000 := Int.fmod_lt_of_pos _ (by decide)
 have h0 : 0 ≤ Int.fmod (Int.fmod (Int.fdiv x 8) 1000000000) 8 := Int.fmod_nonneg_of_pos _ (by decide)
 have h1 : Int.fmod (Int.fmod (Int.fdiv x 8) 1000000000) 8 < 8 := Int.fmod_lt_of_pos _ (by decide)
 unfold itemOf
 dsimp only
 generalize Int.fmod x 8 = kd at *
 generalize Int.fmod (Int.fdiv x 8) 1000000000 = mo at *
 generalize Int.fmod mo 8 = q at *
 split
 ·exact .inl ⟨mo + 1, by lia, by lia, .inl rfl⟩
 ·split
  ·exact .inl ⟨mo + 1, by lia, by lia, .inr rfl⟩
  ·split
   ·refine .inr ⟨_, rfl, List.mem_append_right _ ?_⟩
    have hq : q.toNat < moreL.length := by have : moreL.length = 8 := rfl; omega
    rw [List.getD_eq_getElem?_getD, List.getElem?_eq_getElem hq]
    exact List.getElem_mem hq
   ·refine .inr ⟨_, rfl, List.mem_append_left _ ?_⟩
    split <;> simp
theorem shp_star {t : Itm} (h : Shp t) : t.1 = [42] → t = starI := by
 intro e
 rcases h with ⟨c, _, _, rfl | rfl⟩ | ⟨m, rfl, _⟩
 ·simp at e
 ·simp at e
 ·simp only at e; subst e; rfl
theorem shp_ok {t : Itm} (h : Shp t) : ItmOk t := by
 rcases h with ⟨c, _, _, rfl | rfl⟩ | ⟨m, rfl, h⟩
 ·exact ⟨by simp, by simp⟩
 ·exact ⟨by simp, by simp⟩
 ·have : ∀ m ∈ [[42], [34]] ++ moreL, (∀ c ∈ m, c < 128) ∧ m.length ≤ 10 := by decide
  exact this m h
noncomputable def pcB (b : Bool) (t : Itm) : Pc :=
 (if t.2.1 ≠ 0 ∧ b = false then [91] ++ t.1 ++ [93] else t.1,
  if t.1 = [42] then none else if t.2.1 ≠ 0 ∧ b = true then some ([92] ++ t.1) else if t.2.1 ≠ 0 then some ([91] ++ t.1 ++ [93]) else some (signs signTab t.1).flatten)
theorem pcOf_b (out : List Int) (k : Nat) (t : Itm) : pcOf out k t = pcB (decide ((k : Int) ∈ out)) t := by
 unfold pcOf pcB
 by_cases h : (k : Int) ∈ out <;> simp only [h, decide_true, decide_false, not_true, not_false_iff, and_true, and_false, reduceCtorEq]
theorem shp_pc {t : Itm} (h : Shp t) (out : List Int) (k : Nat) : pcOf out k t ∈ pcTab := by
 rw [pcOf_b]
 generalize decide ((k : Int) ∈ out) = b
 rcases h with ⟨c, _, _, e⟩ | ⟨m, rfl, h⟩
 ·rcases e with rfl | rfl
  ·cases b with
   | true => exact (by decide : (([40], some [92, 40]) : Pc) ∈ pcTab)
   | false => exact (by decide : (([91, 40, 93], some [91, 40, 93]) : Pc) ∈ pcTab)
  ·cases b with
   | true => exact (by decide : (([41], some [92, 41]) : Pc) ∈ pcTab)
   | false => exact (by decide : (([91, 41, 93], some [91, 41, 93]) : Pc) ∈ pcTab)
 ·have h1 : ∀ m ∈ [[42], [34]] ++ moreL, ∀ b : Bool, pcB b (m, 0, 0) ∈ pcTab := by decide
  exact h1 m h b
theorem gU_all {P : Unt → Prop} (hc : P ([41], -1)) (h1 : ∀ u ∈ neg1 [[40], [63], [62], [46], [42], [63]], P u) (h2 : ∀ u ∈ neg1 [[46], [42]], P u) : ∀ (s p : Bool) (l : List (Option (List Unt))), (∀ us, some us ∈ l → ∀ u ∈ us, P u) → ∀ u ∈ gU s p l, P u
 | _, _, [], _, u, hu => by cases hu
 | s, p, some x :: r, h, u, hu => by
  rcases List.mem_append.mp hu with hu | hu
  ·exact h x List.mem_cons_self u hu
  ·exact gU_all hc h1 h2 s false r (fun us hus => h us (List.mem_cons_of_mem _ hus)) u hu
 | s, p, none :: r, h, u, hu => by
  have ih := fun s' => gU_all hc h1 h2 s' true r (fun us hus => h us (List.mem_cons_of_mem _ hus)) u
  rw [gU] at hu
  split at hu
  ·exact ih _ hu
  ·rcases List.mem_append.mp hu with hu | hu
   ·rcases List.mem_append.mp hu with hu | hu
    ·split at hu
     ·simp at hu; subst hu; exact hc
     ·cases hu
    ·split at hu
     ·exact h1 u hu
     ·exact h2 u hu
   ·exact ih _ hu
theorem wf1 {c : Nat} (h : c < 128) (h2 : c ≠ 92) : WF [c] := ⟨c, h, .inl ⟨rfl, h2⟩⟩
theorem wf2 {c : Nat} (h : c < 128) (h2 : c ≠ 34) : WF [92, c] := ⟨c, h, .inr ⟨rfl, h2⟩⟩
noncomputable def wfB (u : List Nat) : Bool := match u with
 | [c] => decide (c < 128) && decide (c ≠ 92)
 | [b, c] => decide (b = 92) && decide (c < 128) && decide (c ≠ 34)
 | _ => false
theorem wf_of {u : List Nat} (h : wfB u = true) : WF u := by
 unfold wfB at h
 split at h
 ·simp at h; exact wf1 h.1 h.2
 ·simp at h; obtain ⟨⟨rfl, h1⟩, h2⟩ := h; exact wf2 h1 h2
 ·cases h
set_option tactic.hygienic true
theorem cell_some {row : List Itm} {out : List Int} {us : List Unt} (h : some us ∈ row.zipIdx.map (cell out)) : ∃ t k, t ∈ row ∧ k < row.length ∧ t.1 ≠ [42] ∧ us = (if t.2.1 ≠ 0 ∧ (k : Int) ∈ out then [([92] ++ t.1, (k : Int))] else if t.2.1 ≠ 0 then [([91], -1), (t.1, (k : Int)), ([93], -1)] else neg1 (signs signTab t.1)) := by
 obtain ⟨⟨t, k⟩, hm, e⟩ := List.mem_map.mp h
 have hm1 := List.mem_zipIdx hm
 unfold cell at e
 simp only at e
 split at e
 ·cases e
 ·rename_i h42
  injection e with e
  have hkk := hm1.2.1
  refine ⟨t, k, ?_, by simpa using hkk, h42, e.symm⟩
  rw [hm1.2.2]; exact List.getElem_mem _
set_option tactic.hygienic false
theorem cell_wf {row : List Itm} {out : List Int} {us : List Unt} (hr : ∀ t ∈ row, Shp t) (h : some us ∈ row.zipIdx.map (cell out)) : (∀ u ∈ us, WF u.1 ∧ -1 ≤ u.2 ∧ u.2 < row.length) ∧ us.length ≤ 4 ∧ (us.filter fun u => decide (u.1 = [40] ∨ u.1 = [41])).length ≤ 2 := by
 obtain ⟨t, k, ht, hk, h42, rfl⟩ := cell_some h
 have hk' : (k : Int) < row.length := by (subst_vars; lia)
 rcases hr t ht with ⟨c, _, _, rfl | rfl⟩ | ⟨m, rfl, hm⟩
 ·by_cases hko : (k : Int) ∈ out
  ·simp [hko]; exact ⟨wf_of (by decide), hk⟩
  ·simp [hko]; exact ⟨⟨wf_of (by decide), by walk_at "q"⟩, ⟨wf_of (by decide), hk⟩, wf_of (by decide), by omega⟩
 ·by_cases hko : (k : Int) ∈ out
  ·simp [hko]; exact ⟨wf_of (by decide), hk⟩
  ·simp [hko]; exact ⟨⟨wf_of (by decide), by omega⟩, ⟨wf_of (by decide), hk⟩, wf_of (by decide), by omega⟩
 ·have h1 : ∀ m ∈ [[42], [34]] ++ moreL, m ≠ [42] → (∀ u ∈ signs signTab m, wfB u = true) ∧ (signs signTab m).length ≤ 4 ∧ ((neg1 (signs signTab m)).filter fun u => decide (u.1 = [40] ∨ u.1 = [41])).length ≤ 2 := by decide
  obtain ⟨a, b, d⟩ := h1 m hm h42
  rw [if_neg (by simp), if_neg (by simp)]
  refine ⟨fun u hu => ?_, by simpa [neg1] using b, d⟩
  obtain ⟨v, hv, rfl⟩ := List.mem_map.mp hu
  exact ⟨wf_of (a v hv), by simp, by simp; walk_at "q"⟩
theorem gU_len : ∀ (s p : Bool) (l : List (Option (List Unt))), (∀ us, some us ∈ l → us.length ≤ 4 ∧ (us.filter fun u => decide (u.1 = [40] ∨ u.1 = [41])).length ≤ 2) → (gU s p l).length ≤ 7 * l.length ∧ ((gU s p l).filter fun u => decide (u.1 = [40] ∨ u.1 = [41])).length ≤ 2 * l.length
 | _, _, [], _ => by simp [gU]
 | s, p, some x :: r, h => by
  obtain ⟨i1, i2⟩ := gU_len s false r (fun us hus => h us (List.mem_cons_of_mem _ hus))
  obtain ⟨j1, j2⟩ := h x List.mem_cons_self
  rw [gU, List.filter_append, List.length_append, List.length_append, List.length_cons]
  grind only
 | s, p, none :: r, h => by
  have ih := fun s' => gU_len s' true r (fun us hus => h us (List.mem_cons_of_mem _ hus))
  rw [gU, List.length_cons]
  split
  ·have := ih s; lia
  ·have := ih true
   rw [List.filter_append, List.filter_append, List.length_append, List.length_append, List.length_append, List.length_append]
   have a1 : (if s = true then ([([41], -1)] : List Unt) else []).length ≤ 1 := by split <;> simp
   have a2 : ((if s = true then ([([41], -1)] : List Unt) else []).filter fun u => decide (u.1 = [40] ∨ u.1 = [41])).length ≤ 1 := Nat.le_trans (List.length_filter_le _ _) a1
   have a3 : (if anyS true r = true then neg1 [[40], [63], [62], [46], [42], [63]] else neg1 [[46], [42]]).length ≤ 6 ∧ ((if anyS true r = true then neg1 [[40], [63], [62], [46], [42], [63]] else neg1 [[46], [42]]).filter fun u => decide (u.1 = [40] ∨ u.1 = [41])).length ≤ 1 := by split <;> decide
   grind only
theorem bal_false : ∀ (l : List Stp2) (d : Int), balGo l d false = false
 | [], d => by simp [balGo]
 | (s, k) :: l, d => by rw [balGo, Bool.false_and]; exact bal_false l _
theorem mm_cons (u : List Nat) (k : Int) (r : List Unt) : marksOf ((u, k) :: r) = (if u = [34] then 1 else 0) + marksOf r := by
 unfold marksOf
 by_cases h : u = [34]
 ·rw [List.filter_cons_of_pos (by simpa using h), if_pos h]; simp; lia
 ·rw [List.filter_cons_of_neg (by simpa using h), if_neg h]; simp
theorem mm_mem {r : List Unt} : [34] ∈ r.map (·.1) ↔ marksOf r ≠ 0 := by
 induction r with
 | nil => simp [marksOf]
 | cons a r ih =>
  obtain ⟨u, k⟩ := a
  rw [mm_cons, List.map_cons, List.mem_cons, ih]
  by_cases h : u = [34]
  ·simp [h]
  ·rw [if_neg h]; simp [Ne.symm h]
theorem one_step {u : List Nat} {k d : Int} {l : List Stp2} {r : List (List Nat)} (hd : 0 ≤ d) (hu : u = [40] ∨ u = [41]) (h : ∀ d', 0 ≤ d' → balGo l d' true = cntU r d') : balGo ((if u = [40] then 1 else -1, k) :: l) d true = cntU (u :: r) d := by
 rw [balGo, cntU, Bool.true_and]
 rcases hu with rfl | rfl
 ·simp only [if_true]
  rw [decide_eq_true (by lia), h _ (by lia)]
 ·rw [if_neg (by decide), if_neg (by decide), if_pos rfl]
  by_cases hn : d - 1 < 0
  ·rw [if_pos hn, decide_eq_false (by walk_at "q"), bal_false]
  ·rw [if_neg hn, decide_eq_true (by walk_at "q"), show d + -1 = d - 1 by walk_at "q", h _ (by walk_at "q")]
theorem cnt_skip {u : List Nat} {r : List (List Nat)} {d : Int} (h : ¬ (u = [40] ∨ u = [41])) : cntU (u :: r) d = cntU r d := by
 rw [cntU, if_neg (fun z => h (.inl z)), if_neg (fun z => h (.inr z))]
theorem cnt_bal : ∀ (us : List Unt) (m h : Nat) (d : Int), m = h + marksOf us → 0 ≤ d →
  (h % 2 = 0 → balGo (stGo m h us) d true = cntU (keepU (us.map (·.1))) d) ∧ (h % 2 = 1 → marksOf us ≠ 0 → balGo (stGo m h us) d true = cntU (inU (us.map (·.1))) d) ∧ (h % 2 = 1 → marksOf us = 0 → balGo (stGo m h us) d true = cntU (us.map (·.1)) d) := by
 intro r
 induction r with
 | nil =>
  intro m h d hm hd
  simp [stGo, balGo, keepU, inU, cntU]
 | cons x0 r ih =>
  intro m h d hm hd
  obtain ⟨u, k⟩ := x0
  rw [mm_cons] at hm
  rw [mm_cons, List.map_cons, stGo]
  by_cases hu : u = [34]
  ·subst hu
   rw [if_pos rfl] at hm ⊢
   rw [if_pos rfl]
   obtain ⟨i1, i2, i3⟩ := ih m (h + 1) d (by (subst_vars; lia)) hd
   refine ⟨fun he => ?_, fun ho hne => ?_, fun ho hz => by (subst_vars; grind only)⟩
   ·by_cases hr : marksOf r = 0
    ·have hnm : [34] ∉ r.map (·.1) := fun z => mm_mem.mp z hr
     rw [keep_q0 hnm, cnt_skip (by decide)]
     exact i3 (by (subst_vars; grind only)) hr
    ·rw [keep_q1 (mm_mem.mpr hr)]
     exact i2 (by omega) hr
   ·rw [in_q]; exact i1 (by (subst_vars; grind only))
  ·rw [if_neg hu] at hm ⊢
   rw [if_neg hu, Nat.zero_add, keep_cons hu, in_cons hu]
   have ih := fun d' hd' => ih m h d' (by (subst_vars; lia)) hd'
   by_cases hb : u = [40] ∨ u = [41]
   ·refine ⟨fun he => ?_, fun ho hne => ?_, fun ho hz => ?_⟩
    ·rw [if_pos ⟨hb, .inl he⟩]
     exact one_step hd hb fun d' hd' => (ih d' hd').1 he
    ·rw [if_neg (fun z => by rcases z.2 with z | z <;> lia)]
     exact (ih d hd).2.1 ho hne
    ·rw [if_pos ⟨hb, .inr (by grind)⟩]
     exact one_step hd hb fun d' hd' => (ih d' hd').2.2 ho hz
   ·rw [if_neg (fun z => hb z.1)]
    refine ⟨fun he => ?_, fun ho hne => (ih d hd).2.1 ho hne, fun ho hz => ?_⟩
    ·rw [cnt_skip hb]; exact (ih d hd).1 he
    ·rw [cnt_skip hb]; exact (ih d hd).2.2 ho hz
theorem units_all {row : List Itm} (out : List Int) (hr : ∀ t ∈ row, Shp t) : ∀ u ∈ unitsOf row out, WF u.1 ∧ -1 ≤ u.2 ∧ (u.2 < row.length) := by
 rw [units_eq out fun t ht => shp_star (hr t ht)]
 have base : ∀ us : List (List Nat), (∀ u ∈ us, wfB u = true) → ∀ u ∈ neg1 us, WF u.1 ∧ -1 ≤ u.2 ∧ (u.2 < row.length) := fun us h u hu => by
  obtain ⟨v, hv, rfl⟩ := List.mem_map.mp hu
  exact ⟨wf_of (h v hv), by simp, by simp; walk_at "q"⟩
 intro u hu
 rcases List.mem_append.mp hu with hu | hu
 ·rcases List.mem_append.mp hu with hu | hu
  ·exact base _ (by decide) u hu
  ·exact gU_all ⟨wf_of (by decide), by simp, by simp; walk_at "q"⟩ (base _ (by decide)) (base _ (by decide)) _ _ _ (fun us hus => (cell_wf hr hus).1) u hu
 ·exact base _ (by decide) u hu
theorem units_len {row : List Itm} (out : List Int) (hr : ∀ t ∈ row, Shp t) : (unitsOf row out).length ≤ 7 * row.length + 6 ∧ ((unitsOf row out).filter fun u => decide (u.1 = [40] ∨ u.1 = [41])).length ≤ 2 * row.length + 2 := by
 rw [units_eq out fun t ht => shp_star (hr t ht)]
 obtain ⟨a, b⟩ := gU_len false false (row.zipIdx.map (cell out)) fun us hus => (cell_wf hr hus).2
 rw [List.length_map, List.length_zipIdx] at a b
 rw [List.filter_append, List.filter_append, List.length_append, List.length_append, List.length_append, List.length_append]
 have e1 : (neg1 [[40], [63], [115], [58]]).length = 4 := rfl
 have e2 : (neg1 [[41], [92, 90]]).length = 2 := rfl
 have e3 : ((neg1 [[40], [63], [115], [58]]).filter fun u => decide (u.1 = [40] ∨ u.1 = [41])).length = 1 := by decide
 have e4 : ((neg1 [[41], [92, 90]]).filter fun u => decide (u.1 = [40] ∨ u.1 = [41])).length = 1 := by decide
 grind
theorem flat_len : ∀ us : List (List Nat), (∀ u ∈ us, WF u) → us.flatten.length ≤ 2 * us.length
 | [], _ => by simp
 | u :: r, h => by
  have ih := flat_len r fun v hv => h v (List.mem_cons_of_mem _ hv)
  have : u.length ≤ 2 := by
   obtain ⟨c, _, ⟨rfl, _⟩ | ⟨rfl, _⟩⟩ := h u List.mem_cons_self <;> simp
  rw [List.flatten_cons, List.length_append, List.length_cons]; lia
theorem right_ok {row : List Itm} (out : List Int) (hr : ∀ t ∈ row, Shp t) (hl : row.length ≤ 20) : RightOk row out := by
 have hall := units_all out hr
 have hwf : ∀ u ∈ (unitsOf row out).map (·.1), WF u := fun u hu => by
  obtain ⟨v, hv, rfl⟩ := List.mem_map.mp hu
  exact (hall v hv).1
 obtain ⟨l1, l2⟩ := units_len out hr
 refine ⟨text_eq out fun t ht => shp_star (hr t ht), hwf, fun p hp => ?_, ?_, by grind, ?_⟩
 ·obtain ⟨⟨t, k⟩, hm, rfl⟩ := List.mem_map.mp hp
  have hm1 := List.mem_zipIdx hm
  exact shp_pc (hr t (by rw [hm1.2.2]; exact List.getElem_mem _)) out k
 ·exact ((cnt_bal (unitsOf row out) _ 0 0 (by simp) (Int.le_refl _)).1 rfl).symm
 ·have := flat_len _ hwf
  rw [List.length_map] at this; (subst_vars; omega)
set_option tactic.hygienic true
theorem st_all (m : Nat) : ∀ (us : List Unt) (h : Nat), (∀ x ∈ stGo m h us, (x.1 = 1 ∨ x.1 = -1) ∧ ∃ u ∈ us, x.2 = u.2) ∧ (stGo m h us).length ≤ (us.filter fun u => decide (u.1 = [40] ∨ u.1 = [41])).length := by
 intro r
 induction r with
 | nil =>
  intro h
  simp [stGo]
 | cons x0 r ih =>
  intro h
  obtain ⟨u, k⟩ := x0
  have up : ∀ h', ∀ x ∈ stGo m h' r, (x.1 = 1 ∨ x.1 = -1) ∧ ∃ v ∈ (u, k) :: r, x.2 = v.2 := fun h' x hx => by
   obtain ⟨a, v, hv, e⟩ := (ih h').1 x hx
   exact ⟨a, v, List.mem_cons_of_mem _ hv, e⟩
  have hge : (r.filter fun u => decide (u.1 = [40] ∨ u.1 = [41])).length ≤ (((u, k) :: r).filter fun u => decide (u.1 = [40] ∨ u.1 = [41])).length := ((List.sublist_cons_self _ r).filter _).length_le
  rw [stGo]
  split
  ·exact ⟨up _, Nat.le_trans (ih _).2 hge⟩
  ·split
   ·rename_i hb
    refine ⟨fun x hx => ?_, ?_⟩
    ·rcases List.mem_cons.mp hx with rfl | hx
     ·refine ⟨?_, (u, k), List.mem_cons_self, rfl⟩
      simp only; split
      ·exact .inl rfl
      ·exact .inr rfl
     ·exact up _ x hx
    ·rw [List.filter_cons_of_pos (by simpa using hb.1)]
     have := (ih h).2
     simp only [List.length_cons]; walk_at "q"
   ·exact ⟨up _, Nat.le_trans (ih _).2 hge⟩
set_option tactic.hygienic false
noncomputable def kz (us : List Unt) : List Int := (us.map (·.2)).filter fun k => decide (0 ≤ k)
theorem st_keys (m : Nat) : ∀ (us : List Unt) (h : Nat), ((stGo m h us).map (·.2)).Sublist (us.map (·.2))
 | [], h => by simp [stGo]
 | (u, k) :: r, h => by
  rw [stGo, List.map_cons]
  split
  ·exact (st_keys m r _).cons _
  ·split
   ·rw [List.map_cons]; exact (st_keys m r _).cons_cons _
   ·exact (st_keys m r _).cons _
theorem hkeys_map : ∀ r : List S2, hkeys r = (r.map (·.2)).filter fun k => decide (0 ≤ k)
 | [] => rfl
 | x :: r => by
  rw [hkeys_cons, List.map_cons, hkeys_map r]
  by_cases h : 0 ≤ x.2
  ·rw [if_pos h, List.filter_cons_of_pos (by simpa using h)]
  ·rw [if_neg h, List.filter_cons_of_neg (by simpa using h)]
theorem kz_app (a b : List Unt) : kz (a ++ b) = kz a ++ kz b := by simp [kz]
theorem kz_neg (us : List (List Nat)) : kz (neg1 us) = [] := by simp [kz, neg1]
theorem kz_gU (out : List Int) : ∀ (r : List Itm) (k : Nat) (s p : Bool), (kz (gU s p ((r.zipIdx k).map (cell out)))).Sublist ((List.range' k r.length).map fun n : Nat => (n : Int)) := by
 intro r
 induction r with
 | nil =>
  intro k s p
  simp [gU, kz]
 | cons t r ih =>
  intro k s p
  have ih := fun s p => ih (k + 1) s p
  rw [List.zipIdx_cons, List.map_cons, List.length_cons, List.range'_succ, List.map_cons]
  unfold cell
  simp only
  split
  ·rw [gU]
   split
   ·exact (ih _ _).cons _
   ·rw [kz_app, kz_app]
    have e1 : kz (if s = true then ([([41], -1)] : List Unt) else []) = [] := by split <;> rfl
    rw [e1]
    have e2 : ∀ b : Bool, kz (if b = true then neg1 [[40], [63], [62], [46], [42], [63]] else neg1 [[46], [42]]) = [] := fun b => by cases b <;> rfl
    rw [e2]
    exact (ih _ _).cons _
  ·rw [gU, kz_app]
   split
   ·have : kz [([92] ++ t.1, (k : Int))] = [(k : Int)] := by simp [kz]
    rw [this]; exact (ih _ _).cons_cons _
   ·split
    ·have : kz [([91], -1), (t.1, (k : Int)), ([93], -1)] = [(k : Int)] := by simp [kz]
     rw [this]; exact (ih _ _).cons_cons _
    ·rw [kz_neg]; exact (ih _ _).cons _
theorem range_nodup (k n : Nat) : ((List.range' k n).map fun n : Nat => (n : Int)).Nodup := by
 have h : (List.range' k n).Nodup := List.nodup_range'
 exact List.Pairwise.map _ (fun a b hab z => hab (by grind only)) h
theorem moves_nodup {row : List Itm} (hr : ∀ t ∈ row, Shp t) : (hkeys (movesOf row)).Nodup := by
 have h1 : (hkeys (movesOf row)).Sublist (kz (unitsOf row [])) := by
  rw [hkeys_map]
  exact (st_keys _ _ _).filter _
 refine (range_nodup 0 row.length).sublist (h1.trans ?_)
 rw [units_eq [] fun t ht => shp_star (hr t ht), kz_app, kz_app, kz_neg, kz_neg]
 simpa using kz_gU [] row 0 false false
theorem shp_cost {t : Itm} (h : Shp t) : 0 ≤ t.2.2 ∧ t.2.2 ≤ 2000000000 := by
 rcases h with ⟨c, _, _, rfl | rfl⟩ | ⟨m, rfl, h⟩
 ·simp only; lia
 ·simp only; lia
 ·simp
theorem row_cost {row : List Itm} (hr : ∀ t ∈ row, Shp t) (k : Int) : 0 ≤ costOf row k ∧ costOf row k ≤ 2000000000 := by
 unfold costOf
 rw [List.getD_eq_getElem?_getD]
 cases h : row[k.toNat]? with
 | none => simp
 | some t => exact shp_cost (hr t (List.mem_of_getElem? h))
theorem law_ok {row : List Itm} (hr : ∀ t ∈ row, Shp t) (hl : row.length = 8) : LawOk row := by
 have hst := st_all (marksOf (unitsOf row [])) (unitsOf row []) 0
 have hall := units_all [] hr
 obtain ⟨l1, l2⟩ := units_len [] hr
 have hlen : (movesOf row).length ≤ 18 := by have := hst.2; unfold movesOf stepsOf; grind
 have h11 : ∀ x ∈ movesOf row, x.1 = 1 ∨ x.1 = -1 := fun x hx => (hst.1 x hx).1
 have hks : StepsOk row (movesOf row) := fun x hx => by
  obtain ⟨_, u, hu, e⟩ := hst.1 x hx
  rw [e]; exact (hall u hu).2.2
 obtain ⟨c1, c2⟩ := cheap_least (c := costOf row) (fun k => (row_cost hr k).1) h11 (moves_nodup hr)
 refine ⟨fun t ht => shp_ok (hr t ht), fun out => right_ok out hr (by lia), by lia, hks, fun x hx => by rcases h11 x hx with h | h <;> lia, c1, fun L hL => ?_, fun k => row_cost hr k⟩
 obtain ⟨d1, d2, d3, d4⟩ := c2 L hL
 refine ⟨d1, d2, fun k hk => ?_, by lia⟩
 obtain ⟨h0, x, hx, rfl⟩ := hkeys_mem.mp (d3 k hk)
 exact ⟨h0, hks x hx⟩
theorem drawn_ok (xs : List Int) : LawOk (drawn xs) := by
 refine law_ok (fun t ht => ?_) ?_
 ·unfold drawn at ht
  obtain ⟨x, _, rfl⟩ := List.mem_map.mp ht
  exact itemOf_shp x
 ·unfold drawn
  have : fillL.length = 8 := rfl
  simp [this]
end Mine
end
section
namespace Mine
open PySem PySem.Calls PyProof.Rows PySem.W PySem.SeqAt PySem.MeetsSeq PySem.Builtin PySem.Builtin.Str
theorem nocell {names : List (Str × NameKind)} (h : ∀ p ∈ names, (p.2 == .cell) = false) : ∀ L, cellsFrom L names [] = [] := by
 induction names with
 | nil => intro L; rfl
 | cons p r ih =>
  intro L
  obtain ⟨x, k⟩ := p
  have h1 := h _ List.mem_cons_self
  simp only at h1
  rw [cellsFrom, h1]
  exact ih (fun q hq => h q (List.mem_cons_of_mem _ hq)) L
theorem look_all {names : List (Str × NameKind)} {c : NameKind → Prop} (h : ∀ p ∈ names, c p.2) {x : Str} {k : NameKind} (e : names.lookup x = some k) : c k := by
 induction names with
 | nil => cases e
 | cons p r ih =>
  obtain ⟨y, j⟩ := p
  rw [List.lookup_cons] at e
  cases hb : (x == y) with
  | true => rw [hb] at e; injection e with e; subst e; exact h _ List.mem_cons_self
  | false => rw [hb] at e; exact ih (fun q hq => h q (List.mem_cons_of_mem _ hq)) e
noncomputable def ckeys (names : List (Str × NameKind)) : List Str := ((names.filter fun p => p.2 == .cell).map (·.1)).reverse
theorem cells_keys : ∀ (r : List (Str × NameKind)) (L : Nat) (acc : List (Str × Addr)), (cellsFrom L r acc).map (·.1) = ckeys r ++ acc.map (·.1)
 | [], L, acc => rfl
 | (x, k) :: r, L, acc => by
  rw [cellsFrom]
  cases hb : (k == .cell) with
  | true =>
   rw [if_pos rfl, cells_keys r]
   unfold ckeys
   rw [List.filter_cons]; simp [hb]
  | false =>
   rw [if_neg (by decide), cells_keys r]
   unfold ckeys
   rw [List.filter_cons]; simp [hb]
theorem look_nodup {α : Type} : ∀ {l : List (Str × α)} {x : Str} {c : α}, (l.map (·.1)).Nodup → (x, c) ∈ l → l.lookup x = some c
 | [], _, _, _, h => by cases h
 | (y, d) :: l, x, c, hn, h => by
  have hn' := List.nodup_cons.mp hn
  rw [List.lookup_cons]
  rcases List.mem_cons.mp h with h | h
  ·injection h with h1 h2; subst h1; subst h2; simp
  ·have hne : x ≠ y := fun z => hn'.1 (by rw [← z]; exact List.mem_map.mpr ⟨_, h, rfl⟩)
   have : (x == y) = false := by simpa using hne
   rw [this]; exact look_nodup hn'.2 h
theorem look_some {α : Type} : ∀ {l : List (Str × α)} {x : Str}, x ∈ l.map (·.1) → (l.lookup x).isSome = true
 | [], _, h => by cases h
 | (y, d) :: l, x, h => by
  rw [List.lookup_cons]
  cases hb : (x == y) with
  | true => rfl
  | false =>
   rcases List.mem_cons.mp h with h | h
   ·have : x = y := h
    subst this; simp at hb
   ·exact look_some h
theorem cells1 {names : List (Str × NameKind)} (hn : (ckeys names).Nodup) {L : Nat} {x : Str} {c : Addr} (h : (x, c) ∈ cellsFrom L names []) : (cellsFrom L names []).lookup x = some c :=
 look_nodup (by rw [cells_keys]; simpa using hn) h
theorem cells2 {names : List (Str × NameKind)} {L : Nat} {x : Str} (h : names.lookup x = some .cell) : ((cellsFrom L names []).lookup x).isSome = true := by
 refine look_some ?_
 rw [cells_keys, List.map_nil, List.append_nil]
 unfold ckeys
 rw [List.mem_reverse]
 induction names with
 | nil => cases h
 | cons p r ih =>
  obtain ⟨y, k⟩ := p
  rw [List.lookup_cons] at h
  cases hb : (x == y) with
  | true =>
   rw [hb] at h; injection h with h; subst h
   have : x = y := by simpa using hb
   subst this
   rw [List.filter_cons_of_pos (by rfl)]; exact List.mem_cons_self
  | false =>
   rw [hb] at h
   exact ((List.sublist_cons_self _ r).filter _).map _ |>.subset (ih h)
theorem len1 {vals : List Value} (h : vals.length = 1) : ∃ a, vals = [a] := List.length_eq_one_iff.mp h
theorem len2 {vals : List Value} (h : vals.length = 2) : ∃ a b, vals = [a, b] := by
 cases vals with
 | nil => cases h
 | cons a l => obtain ⟨b, rfl⟩ := len1 (Nat.succ.inj h); exact ⟨a, b, rfl⟩
theorem len3 {vals : List Value} (h : vals.length = 3) : ∃ a b c, vals = [a, b, c] := by
 cases vals with
 | nil => cases h
 | cons a l => obtain ⟨b, c, rfl⟩ := len2 (Nat.succ.inj h); exact ⟨a, b, c, rfl⟩
theorem len4 {vals : List Value} (h : vals.length = 4) : ∃ a b c d, vals = [a, b, c, d] := by
 cases vals with
 | nil => cases h
 | cons a l => obtain ⟨b, c, d, rfl⟩ := len3 (Nat.succ.inj h); exact ⟨a, b, c, d, rfl⟩
noncomputable def okNames (names : List (Str × NameKind)) (ns : List Str) : Bool :=
 (ns.all fun x => names.lookup x == some .local || names.lookup x == some .cell) && (names.all fun p => p.2 != .free) && decide (ckeys names).Nodup
theorem okN1 {names : List (Str × NameKind)} {ns : List Str} (h : okNames names ns = true) : ∀ x ∈ ns, names.lookup x = some .local ∨ names.lookup x = some .cell := fun x hx => by
 have := List.all_eq_true.mp (Bool.and_eq_true_iff.mp (Bool.and_eq_true_iff.mp h).1).1 x hx
 rcases Bool.or_eq_true_iff.mp this with e | e
 ·exact .inl (eq_of_beq e)
 ·exact .inr (eq_of_beq e)
theorem okN2 {names : List (Str × NameKind)} {ns : List Str} (h : okNames names ns = true) : ∀ x : Str, names.lookup x ≠ some .free := fun x hx => by
 refine look_all (c := fun k => k ≠ .free) (fun p hp e => ?_) hx rfl
 have := List.all_eq_true.mp (Bool.and_eq_true_iff.mp (Bool.and_eq_true_iff.mp h).1).2 p hp
 rw [e] at this; cases this
theorem okN3 {names : List (Str × NameKind)} {ns : List Str} (h : okNames names ns = true) : (ckeys names).Nodup := of_decide_eq_true (Bool.and_eq_true_iff.mp h).2
section
variable {K : Ktx} {d : Nat} {a : Addr} {fd : FuncData} {body : List Stmt} {names nm : List Str} {P : PS} {S : FS}
theorem SoundF.ofD (lim : K.h0.NoLimit) (hf : (∃ o, K.h0.get? a = some o ∧ o.data = .func fd) ∧ K.h0.CodeRec fd.code fd.qualname) (hok : okNames fd.scope.names names = true) (hbody : fd.body = .stmts body) (hbind : ∀ vals, vals.length = names.length → bindArgs fd ⟨vals, []⟩ = pure (names.zip vals)) (hn : nm.take names.length = names) (hu : nm.Nodup)
  (hL : ∀ L, RefL K d (callEnvC fd L a) nm body P) (hS : ∀ ms σ Q X, S ms σ Q X → ms.length = names.length ∧ P (args ms) σ (retQ Q) (fun _ => False))
  (hclo : fd.closure = []) (hco : fd.scope.isCoroutine = false) (hgen : fd.scope.isGenerator = false) (hk : fd.scope.kind = .function) : SoundF K (d + 1) a S := by
 obtain ⟨⟨o, ho, hof⟩, hcd⟩ := hf
 exact SoundF.of ho hof lim hcd hbody hbind hn hu (okN1 hok) (okN2 hok) (fun L x c h => cells1 (okN3 hok) h) (fun L x h => cells2 h) hL hS hclo hco hgen hk
theorem SoundF.ofDX (lim : K.h0.NoLimit) (hf : (∃ o, K.h0.get? a = some o ∧ o.data = .func fd) ∧ K.h0.CodeRec fd.code fd.qualname) (hok : okNames fd.scope.names names = true) (hbody : fd.body = .stmts body) (hbind : ∀ vals, vals.length = names.length → bindArgs fd ⟨vals, []⟩ = pure (names.zip vals)) (hn : nm.take names.length = names) (hu : nm.Nodup)
  (hL : ∀ L, RefL K d (callEnvC fd L a) nm body P) (hS : ∀ ms σ Q X, S ms σ Q X → ms.length = names.length ∧ P (args ms) σ (retQ Q) X)
  (hclo : fd.closure = []) (hco : fd.scope.isCoroutine = false) (hgen : fd.scope.isGenerator = false) (hk : fd.scope.kind = .function) : SoundF K (d + 1) a S := by
 obtain ⟨⟨o, ho, hof⟩, hcd⟩ := hf
 exact SoundF.ofX ho hof lim hcd hbody hbind hn hu (okN1 hok) (okN2 hok) (fun L x c h => cells1 (okN3 hok) h) (fun L x h => cells2 h) hL hS hclo hco hgen hk
end
theorem SF_strip {K : Ktx} (G : Good K) (G2 : Good2 K) : SoundF K (5 + 1) 45 S_strip := by
 with_reducible refine SoundF.ofD (d := 5) (names := nm_strip.take 1) (nm := nm_strip) (body := bd_strip) (P := P_strip) G.lim (G.fn 45 fd_strip (fd_stripS.2 _) (by decide)) ?_ bd_stripS.2 ?_ (by with_unfolding_all rfl) (by decide) (fun L => R_strip G G2 (by decide) L) ?_ (by with_unfolding_all rfl) (by with_unfolding_all rfl) (by with_unfolding_all rfl) (by with_unfolding_all rfl)
 ·with_unfolding_all decide
 ·intro vals hv; obtain ⟨a, rfl⟩ := len1 hv; with_unfolding_all exact rfl
 ·exact fun ms σ Q X h => sp_strip ms σ Q X h
theorem SF_escape {K : Ktx} (G : Good K) (G2 : Good2 K) : SoundF K (5 + 1) 76 S_escape := by
 with_reducible refine SoundF.ofD (d := 5) (names := nm_escape.take 1) (nm := nm_escape) (body := bd_escape) (P := P_escape) G.lim (G.fn 76 fd_escape (fd_escapeS.2 _) (by decide)) ?_ bd_escapeS.2 ?_ (by with_unfolding_all rfl) (by decide) (fun L => R_escape G G2 (by decide) L) ?_ (by with_unfolding_all rfl) (by with_unfolding_all rfl) (by with_unfolding_all rfl) (by with_unfolding_all rfl)
 ·with_unfolding_all decide
 ·intro vals hv; obtain ⟨a, rfl⟩ := len1 hv; with_unfolding_all exact rfl
 ·exact fun ms σ Q X h => sp_escape ms σ Q X h
theorem SF_joinp {K : Ktx} (G : Good K) (G2 : Good2 K) : SoundF K (5 + 1) 90 S_joinp := by
 with_reducible refine SoundF.ofD (d := 5) (names := nm_joinp.take 2) (nm := nm_joinp) (body := bd_joinp) (P := P_joinp) G.lim (G.fn 90 fd_joinp (fd_joinpS.2 _) (by decide)) ?_ bd_joinpS.2 ?_ (by with_unfolding_all rfl) (by decide) (fun L => R_joinp G G2 (by decide) L) ?_ (by with_unfolding_all rfl) (by with_unfolding_all rfl) (by with_unfolding_all rfl) (by with_unfolding_all rfl)
 ·with_unfolding_all decide
 ·intro vals hv; obtain ⟨a, b, rfl⟩ := len2 hv; with_unfolding_all exact rfl
 ·exact fun ms σ Q X h => sp_joinp ms σ Q X h
theorem SF_sd {K : Ktx} (G : Good K) (G2 : Good2 K) : SoundF K (5 + 1) 111 S_sd := by
 with_reducible refine SoundF.ofD (d := 5) (names := nm_sd.take 3) (nm := nm_sd) (body := bd_sd) (P := P_sd) G.lim (G.fn 111 fd_sd (fd_sdS.2 _) (by decide)) ?_ bd_sdS.2 ?_ (by with_unfolding_all rfl) (by decide) (fun L => R_sd G G2 (by decide) L) ?_ (by with_unfolding_all rfl) (by with_unfolding_all rfl) (by with_unfolding_all rfl) (by with_unfolding_all rfl)
 ·with_unfolding_all decide
 ·intro vals hv; obtain ⟨a, b, c, rfl⟩ := len3 hv; with_unfolding_all exact rfl
 ·exact fun ms σ Q X h => sp_sd ms σ Q X h
theorem SF_item {K : Ktx} (G : Good K) (G2 : Good2 K) : SoundF K (5 + 1) 125 S_item := by
 with_reducible refine SoundF.ofD (d := 5) (names := nm_item.take 1) (nm := nm_item) (body := bd_item) (P := P_item) G.lim (G.fn 125 fd_item (fd_itemS.2 _) (by decide)) ?_ bd_itemS.2 ?_ (by with_unfolding_all rfl) (by decide) (fun L => R_item G G2 (by decide) L) ?_ (by with_unfolding_all rfl) (by with_unfolding_all rfl) (by with_unfolding_all rfl) (by with_unfolding_all rfl)
 ·with_unfolding_all decide
 ·intro vals hv; obtain ⟨a, rfl⟩ := len1 hv; with_unfolding_all exact rfl
 ·exact fun ms σ Q X h => sp_item ms σ Q X h
theorem SF_sign {K : Ktx} (G : Good K) (G2 : Good2 K) : SoundF K (5 + 1) 132 S_sign := by
 with_reducible refine SoundF.ofD (d := 5) (names := nm_sign.take 1) (nm := nm_sign) (body := bd_sign) (P := P_sign) G.lim (G.fn 132 fd_sign (fd_signS.2 _) (by decide)) ?_ bd_signS.2 ?_ (by with_unfolding_all rfl) (by decide) (fun L => R_sign G G2 (by decide) L) ?_ (by with_unfolding_all rfl) (by with_unfolding_all rfl) (by with_unfolding_all rfl) (by with_unfolding_all rfl)
 ·with_unfolding_all decide
 ·intro vals hv; obtain ⟨a, rfl⟩ := len1 hv; with_unfolding_all exact rfl
 ·exact fun ms σ Q X h => sp_sign ms σ Q X h
theorem SF_steps {K : Ktx} (G : Good K) (G2 : Good2 K) : SoundF K (5 + 1) 142 S_steps := by
 with_reducible refine SoundF.ofD (d := 5) (names := nm_steps.take 1) (nm := nm_steps) (body := bd_steps) (P := P_steps) G.lim (G.fn 142 fd_steps (fd_stepsS.2 _) (by decide)) ?_ bd_stepsS.2 ?_ (by with_unfolding_all rfl) (by decide) (fun L => R_steps G G2 (by decide) L) ?_ (by with_unfolding_all rfl) (by with_unfolding_all rfl) (by with_unfolding_all rfl) (by with_unfolding_all rfl)
 ·with_unfolding_all decide
 ·intro vals hv; obtain ⟨a, rfl⟩ := len1 hv; with_unfolding_all exact rfl
 ·exact fun ms σ Q X h => sp_steps ms σ Q X h
theorem SF_taken {K : Ktx} (G : Good K) (G2 : Good2 K) : SoundF K (5 + 1) 149 S_taken := by
 with_reducible refine SoundF.ofD (d := 5) (names := nm_taken.take 1) (nm := nm_taken) (body := bd_taken) (P := P_taken) G.lim (G.fn 149 fd_taken (fd_takenS.2 _) (by decide)) ?_ bd_takenS.2 ?_ (by with_unfolding_all rfl) (by decide) (fun L => R_taken G G2 (by decide) L) ?_ (by with_unfolding_all rfl) (by with_unfolding_all rfl) (by with_unfolding_all rfl) (by with_unfolding_all rfl)
 ·with_unfolding_all decide
 ·intro vals hv; obtain ⟨a, rfl⟩ := len1 hv; with_unfolding_all exact rfl
 ·exact fun ms σ Q X h => sp_taken ms σ Q X h
theorem SF_least {K : Ktx} (G : Good K) (G2 : Good2 K) : SoundF K (5 + 1) 173 S_least := by
 with_reducible refine SoundF.ofD (d := 5) (names := nm_least.take 2) (nm := nm_least) (body := bd_least) (P := P_least) G.lim (G.fn 173 fd_least (fd_leastS.2 _) (by decide)) ?_ bd_leastS.2 ?_ (by with_unfolding_all rfl) (by decide) (fun L => R_least G G2 (by decide) L) ?_ (by with_unfolding_all rfl) (by with_unfolding_all rfl) (by with_unfolding_all rfl) (by with_unfolding_all rfl)
 ·with_unfolding_all decide
 ·intro vals hv; obtain ⟨a, b, rfl⟩ := len2 hv; with_unfolding_all exact rfl
 ·exact fun ms σ Q X h => sp_least ms σ Q X h
theorem SF_paren {K : Ktx} (G : Good K) (G2 : Good2 K) : SoundF K (6 + 1) 52 S_paren := by
 with_reducible refine SoundF.ofD (d := 6) (names := nm_paren.take 1) (nm := nm_paren) (body := bd_paren) (P := P_paren) G.lim (G.fn 52 fd_paren (fd_parenS.2 _) (by decide)) ?_ bd_parenS.2 ?_ (by with_unfolding_all rfl) (by decide) (fun L => R_paren G G2 (by decide) ((SF_strip G G2).mono (by decide)) L) ?_ (by with_unfolding_all rfl) (by with_unfolding_all rfl) (by with_unfolding_all rfl) (by with_unfolding_all rfl)
 ·with_unfolding_all decide
 ·intro vals hv; obtain ⟨a, rfl⟩ := len1 hv; with_unfolding_all exact rfl
 ·exact fun ms σ Q X h => sp_paren ms σ Q X h
theorem SF_tr {K : Ktx} (G : Good K) (G2 : Good2 K) : SoundF K (6 + 1) 83 S_tr := by
 with_reducible refine SoundF.ofD (d := 6) (names := nm_tr.take 3) (nm := nm_tr) (body := bd_tr) (P := P_tr) G.lim (G.fn 83 fd_tr (fd_trS.2 _) (by decide)) ?_ bd_trS.2 ?_ (by with_unfolding_all rfl) (by decide) (fun L => R_tr G G2 (by decide) ((SF_escape G G2).mono (by decide)) L) ?_ (by with_unfolding_all rfl) (by with_unfolding_all rfl) (by with_unfolding_all rfl) (by with_unfolding_all rfl)
 ·with_unfolding_all decide
 ·intro vals hv; obtain ⟨a, b, c, rfl⟩ := len3 hv; with_unfolding_all exact rfl
 ·exact fun ms σ Q X h => sp_tr ms σ Q X h
theorem SF_su {K : Ktx} (G : Good K) (G2 : Good2 K) : SoundF K (6 + 1) 118 S_su := by
 with_reducible refine SoundF.ofD (d := 6) (names := nm_su.take 2) (nm := nm_su) (body := bd_su) (P := P_su) G.lim (G.fn 118 fd_su (fd_suS.2 _) (by decide)) ?_ bd_suS.2 ?_ (by with_unfolding_all rfl) (by decide) (fun L => R_su G G2 (by decide) ((SF_sd G G2).mono (by decide)) L) ?_ (by with_unfolding_all rfl) (by with_unfolding_all rfl) (by with_unfolding_all rfl) (by with_unfolding_all rfl)
 ·with_unfolding_all decide
 ·intro vals hv; obtain ⟨a, b, rfl⟩ := len2 hv; with_unfolding_all exact rfl
 ·exact fun ms σ Q X h => sp_su ms σ Q X h
theorem SF_push {K : Ktx} (G : Good K) (G2 : Good2 K) : SoundF K (6 + 1) 97 S_push := by
 with_reducible refine SoundF.ofD (d := 6) (names := nm_push.take 2) (nm := nm_push) (body := bd_push) (P := P_push) G.lim (G.fn 97 fd_push (fd_pushS.2 _) (by decide)) ?_ bd_pushS.2 ?_ (by with_unfolding_all rfl) (by decide) (fun L => R_push G G2 (by decide) ((SF_sd G G2).mono (by decide)) L) ?_ (by with_unfolding_all rfl) (by with_unfolding_all rfl) (by with_unfolding_all rfl) (by with_unfolding_all rfl)
 ·with_unfolding_all decide
 ·intro vals hv; obtain ⟨a, b, rfl⟩ := len2 hv; with_unfolding_all exact rfl
 ·exact fun ms σ Q X h => sp_push ms σ Q X h
theorem SF_units {K : Ktx} (G : Good K) (G2 : Good2 K) : SoundF K (6 + 1) 137 S_units := by
 with_reducible refine SoundF.ofD (d := 6) (names := nm_units.take 2) (nm := nm_units) (body := bd_units) (P := P_units) G.lim (G.fn 137 fd_units (fd_unitsS.2 _) (by decide)) ?_ bd_unitsS.2 ?_ (by with_unfolding_all rfl) (by decide) (fun L => R_units G G2 (by decide) ((SF_sign G G2).mono (by decide)) L) ?_ (by with_unfolding_all rfl) (by with_unfolding_all rfl) (by with_unfolding_all rfl) (by with_unfolding_all rfl)
 ·with_unfolding_all decide
 ·intro vals hv; obtain ⟨a, b, rfl⟩ := len2 hv; with_unfolding_all exact rfl
 ·exact fun ms σ Q X h => sp_units ms σ Q X h
theorem SF_translate {K : Ktx} (G : Good K) (G2 : Good2 K) : SoundF K (7 + 1) 64 S_translate := by
 with_reducible refine SoundF.ofD (d := 7) (names := nm_translate.take 1) (nm := nm_translate) (body := bd_translate) (P := P_translate) G.lim (G.fn 64 fd_translate (fd_translateS.2 _) (by decide)) ?_ bd_translateS.2 ?_ (by with_unfolding_all rfl) (by decide) (fun L => R_translate G G2 (by decide) ((SF_tr G G2).mono (by decide)) ((SF_joinp G G2).mono (by decide)) L) ?_ (by with_unfolding_all rfl) (by with_unfolding_all rfl) (by with_unfolding_all rfl) (by with_unfolding_all rfl)
 ·with_unfolding_all decide
 ·intro vals hv; obtain ⟨a, rfl⟩ := len1 hv; with_unfolding_all exact rfl
 ·exact fun ms σ Q X h => sp_translate ms σ Q X h
theorem SF_pop {K : Ktx} (G : Good K) (G2 : Good2 K) : SoundF K (7 + 1) 104 S_pop := by
 with_reducible refine SoundF.ofDX (d := 7) (names := nm_pop.take 1) (nm := nm_pop) (body := bd_pop) (P := P_pop) G.lim (G.fn 104 fd_pop (fd_popS.2 _) (by decide)) ?_ bd_popS.2 ?_ (by with_unfolding_all rfl) (by decide) (fun L => R_pop G G2 (by decide) ((SF_su G G2).mono (by decide)) L) ?_ (by with_unfolding_all rfl) (by with_unfolding_all rfl) (by with_unfolding_all rfl) (by with_unfolding_all rfl)
 ·with_unfolding_all decide
 ·intro vals hv; obtain ⟨a, rfl⟩ := len1 hv; with_unfolding_all exact rfl
 ·exact fun ms σ Q X h => sp_pop ms σ Q X h
theorem SF_hidden {K : Ktx} (G : Good K) (G2 : Good2 K) : SoundF K (8 + 1) 161 S_hidden := by
 with_reducible refine SoundF.ofDX (d := 8) (names := nm_hidden.take 4) (nm := nm_hidden) (body := bd_hidden) (P := P_hidden) G.lim (G.fn 161 fd_hidden (fd_hiddenS.2 _) (by decide)) ?_ bd_hiddenS.2 ?_ (by with_unfolding_all rfl) (by decide) (fun L => R_hidden G G2 (by decide) ((SF_push G G2).mono (by decide)) ((SF_pop G G2).mono (by decide)) L) ?_ (by with_unfolding_all rfl) (by with_unfolding_all rfl) (by with_unfolding_all rfl) (by with_unfolding_all rfl)
 ·with_unfolding_all decide
 ·intro vals hv; obtain ⟨a, b, c, d, rfl⟩ := len4 hv; with_unfolding_all exact rfl
 ·exact fun ms σ Q X h => sp_hidden ms σ Q X h
theorem SF_right {K : Ktx} (G : Good K) (G2 : Good2 K) : SoundF K (8 + 1) 154 S_right := by
 with_reducible refine SoundF.ofD (d := 8) (names := nm_right.take 2) (nm := nm_right) (body := bd_right) (P := P_right) G.lim (G.fn 154 fd_right (fd_rightS.2 _) (by decide)) ?_ bd_rightS.2 ?_ (by with_unfolding_all rfl) (by decide) (fun L => R_right G G2 (by decide) ((SF_units G G2).mono (by decide)) ((SF_translate G G2).mono (by decide)) ((SF_paren G G2).mono (by decide)) ((SF_taken G G2).mono (by decide)) ((SF_steps G G2).mono (by decide)) L) ?_ (by with_unfolding_all rfl) (by with_unfolding_all rfl) (by with_unfolding_all rfl) (by with_unfolding_all rfl)
 ·with_unfolding_all decide
 ·intro vals hv; obtain ⟨a, b, rfl⟩ := len2 hv; with_unfolding_all exact rfl
 ·exact fun ms σ Q X h => sp_right ms σ Q X h
theorem SF_cheap {K : Ktx} (G : Good K) (G2 : Good2 K) : SoundF K (9 + 1) 168 S_cheap := by
 with_reducible refine SoundF.ofD (d := 9) (names := nm_cheap.take 2) (nm := nm_cheap) (body := bd_cheap) (P := P_cheap) G.lim (G.fn 168 fd_cheap (fd_cheapS.2 _) (by decide)) ?_ bd_cheapS.2 ?_ (by with_unfolding_all rfl) (by decide) (fun L => R_cheap G G2 (by decide) ((SF_hidden G G2).mono (by decide)) L) ?_ (by with_unfolding_all rfl) (by with_unfolding_all rfl) (by with_unfolding_all rfl) (by with_unfolding_all rfl)
 ·with_unfolding_all decide
 ·intro vals hv; obtain ⟨a, b, rfl⟩ := len2 hv; with_unfolding_all exact rfl
 ·exact fun ms σ Q X h => sp_cheap ms σ Q X h
theorem SF_law {K : Ktx} (G : Good K) (G2 : Good2 K) {a0 : Addr} {xs : List Int} (O : OldInts K a0 xs) (hf : (∃ o, K.h0.get? 178 = some o ∧ o.data = .func fd_law) ∧ K.h0.CodeRec fd_law.code fd_law.qualname) : SoundF K (10 + 1) 178 (S_law a0 xs) := by
 with_reducible refine SoundF.ofD (d := 10) (names := nm_law.take 1) (nm := nm_law) (body := bd_law) (P := (P_law a0 xs)) G.lim hf ?_ bd_lawS.2 ?_ (by with_unfolding_all rfl) (by decide) (fun L => R_law G G2 O (by decide) ((SF_item G G2).mono (by decide)) ((SF_steps G G2).mono (by decide)) ((SF_units G G2).mono (by decide)) ((SF_cheap G G2).mono (by decide)) ((SF_right G G2).mono (by decide)) ((SF_least G G2).mono (by decide)) ((SF_taken G G2).mono (by decide)) L) ?_ (by with_unfolding_all rfl) (by with_unfolding_all rfl) (by with_unfolding_all rfl) (by with_unfolding_all rfl)
 ·with_unfolding_all decide
 ·intro vals hv; obtain ⟨a, rfl⟩ := len1 hv; with_unfolding_all exact rfl
 ·exact fun ms σ Q X h => sp_law a0 xs ms σ Q X h
end Mine
end
section
namespace Mine
open PySem PySem.W PySem.Calls PyProof.Rows
noncomputable abbrev rw_ := PySem.Challenge.rw_kl0420_01
theorem said : rw_.wellSaid = true := by kernel_rfl
theorem left_0 (w : World) (o : OsState) : (topFrom treeTable pw w 4210 ⟨H0 w.params, #[], {}, 276, o⟩).map (fun s => (openSeen (Vw pw) looseL (importedModules pw.main.body) (fun s => xlAt (Vw pw) [] s && recOk [] s) true s, seenOf s)) = some (openGood (Vw pw) looseL, seenIs pw) := by
 have h := left_tw w o
 unfold lhs topF at h
 unfold tb0 at h
 rw [← Fast.te14082659384304107361, ← Fast.te14364793385576792824, ← Fast.te4187177175401517315, ← Fast.te5923862056798008813] at h
 exact h
theorem left_all : LeftO pw (Vw pw) looseL (fun s => xlAt (Vw pw) [] s && recOk [] s) seenOf (fun _ => seenIs pw) 4210 := fun w => by
 obtain ⟨⟨h, gs, d, k, os⟩, e, e'⟩ := Option.map_eq_some_iff.mp (open_0 w)
 simp only [Prod.mk.injEq] at e'
 obtain ⟨rfl, rfl, rfl, rfl⟩ := e'
 unfold openEnds
 rw [e]
 exact left_0 w os
structure SeenH (h : Heap) : Prop where
 nm : ∀ p ∈ namesL, h.nsMap mainGlobals p.1 = some (.ref p.2)
 fn : ∀ d ∈ defsL, ∃ fd, fdOf pw d.2.1 (pmOf d.2.2) (d.1 - 1) = some fd ∧ h.get? d.1 = some { cls := .type "function", data := .func fd } ∧ h.CodeRec fd.code fd.qualname
 o56 : h.get? 56 = some obj56
 o57 : h.get? 57 = some obj57
 o66 : h.get? 66 = some obj66
 o78 : h.get? 78 = some (tabObj #[])
 o82 : h.get? 82 = some obj82
set_option tactic.hygienic true
theorem codeName_rec {h : Heap} {c : Addr} {q : Str} (e : codeName h c = some q) : h.CodeRec (.ref c) q := by
 unfold codeName at e
 split at e
 ·rename_i o ho
  split at e
  ·rename_i vs hd
   split at e
   ·rename_i x t hx
    injection e with e; subst e
    exact ⟨c, o, vs, t, rfl, ho, hd, hx⟩
   ·cases e
  ·cases e
 ·cases e
set_option tactic.hygienic false
theorem nsMap_keep {h h' : Heap} {a : Addr} {x : Str} {v : Value} (e : h.nsMap a x = some v) (k : ∀ b o, h.get? b = some o → h'.get? b = some o) : h'.nsMap a x = some v := by
 unfold Heap.nsMap at e ⊢
 cases q : h.get? a with
 | none => rw [q] at e; cases e
 | some o => rw [q] at e; rw [k _ _ q]; exact e
theorem fd_facts {p : Program} {k : Nat} {pm : Value} {c : Addr} {fd : FuncData} (h : fdOf p k pm c = some fd) : fd.code = .ref c ∧ (fdOf p k .none 0).map (·.qualname) = some fd.qualname := by
 delta fdOf at h ⊢
 generalize p.main.body[k]? = o at *
 cases o with
 | none => cases h
 | some st => cases st <;> first | cases h; done | (injection h with h; subst h; exact ⟨rfl, rfl⟩)
theorem fd_some : (defsL.all fun d => (fdOf pw d.2.1 (pmOf d.2.2) (d.1 - 1)).isSome) = true := by kernel_rfl
theorem fd_there (d : Addr × Nat × Nat) (hd : d ∈ defsL) : ∃ fd, fdOf pw d.2.1 (pmOf d.2.2) (d.1 - 1) = some fd ∧ fd.code = .ref (d.1 - 1) ∧ (fdOf pw d.2.1 .none 0).map (·.qualname) = some fd.qualname := by
 obtain ⟨fd, h⟩ := Option.isSome_iff_exists.mp (List.all_eq_true.mp fd_some d hd)
 exact ⟨fd, h, fd_facts h⟩
theorem map_mem {α β : Type} {f g : α → β} {l : List α} (e : l.map f = l.map g) : ∀ x ∈ l, f x = g x := List.map_inj_left.mp e
theorem seen_of (w : World) (s : Shared) (e : seenOf s = seenIs pw) : SeenH s.heap := by
 unfold seenOf seenIs at e
 simp only [Prod.mk.injEq, List.map_cons, List.map_nil, List.cons.injEq, and_true] at e
 obtain ⟨e1, e2, e3, e4, e5, e6, e7⟩ := e
 refine ⟨map_mem e1, fun d hd => ?_, e3, e4, e5, e6, e7⟩
 have h := map_mem e2 d hd
 simp only [Prod.mk.injEq] at h
 obtain ⟨fd, f1, f2, f3⟩ := fd_there d hd
 refine ⟨fd, f1, ?_, ?_⟩
 ·rw [h.1]; unfold funObj; rw [f1]; rfl
 ·rw [f2]; exact codeName_rec (h.2.trans f3)
theorem seen_keeps (w : World) (h h' : Heap) (x : SeenH h) (k : ∀ b o, h.get? b = some o → h'.get? b = some o) : SeenH h' :=
 ⟨fun p hp => nsMap_keep (x.nm p hp) k, fun d hd => (let ⟨fd, f1, f2, f3⟩ := x.fn d hd; ⟨fd, f1, k _ _ f2, f3.keeps k⟩), k _ _ x.o56, k _ _ x.o57, k _ _ x.o66, k _ _ x.o78, k _ _ x.o82⟩
end Mine
end
section
namespace Mine
open PySem PySem.Calls PyProof.Rows PySem.W PySem.SeqAt PySem.MeetsSeq PySem.Builtin PySem.Builtin.Str
noncomputable abbrev KK (w : World) (s₁ : Shared) : Ktx := { prog := pw, w := w, h0 := ghostOf s₁.heap [(82, 78)], os := s₁.os }
theorem tabs_at {h : Heap} (Y : SeenH h) : TabsAt [(82, 78)] h := fun q hq => by
 rw [List.mem_singleton.mp hq]
 exact ⟨⟨_, _, _, _, _, _, _, _, _, Y.o82, rfl, rfl, rfl, rfl, rfl, rfl, rfl, rfl, by decide⟩, Y.o78⟩
theorem ns_of_map {h : Heap} {a : Addr} {m : Str → Option Value} (n : h.Ns a m) (x : Str) : m x = h.nsMap a x := by
 obtain ⟨o, es, ep, e, hd, _, r⟩ := n
 unfold Heap.nsMap
 rw [e]; simp only [hd]
 exact (r x).symm
noncomputable def freeB (x : Str) : Bool := decide (x ≠ "__name__") && decide (x ∉ startupNames) && decide (x ∉ looseW (Vw pw) looseL) && decide (x ∉ (recsOf (Vw pw)).map (·.name)) && decide (x ∉ (litsOf (Vw pw)).map (·.1)) && decide (x ∉ (clssOf (Vw pw) (looseW (Vw pw) looseL)).map (·.name))
theorem blt_boot : bltL.map (fun p => bootBuiltins p.1) = bltL.map (fun p => some p.2) := by kernel_rfl
theorem blt_free : (bltL.all fun p => freeB p.1) = true := by kernel_rfl
theorem look_mem {α : Type} : ∀ {l : List (Nat × α)} {x : Nat} {v : α}, l.lookup x = some v → (x, v) ∈ l
 | [], _, _, e => by cases e
 | (y, u) :: l, x, v, e => by
  rw [List.lookup_cons] at e
  cases hb : x == y with
  | true => rw [hb] at e; cases e; rw [eq_of_beq hb]; exact .head _
  | false => rw [hb] at e; exact .tail _ (look_mem e)
theorem rec_ghost {h : Heap} (hT : TabsAt [(82, 78)] h) {cd : Value} {q : Str} (x : h.CodeRec cd q) : (ghostOf h [(82, 78)]).CodeRec cd q := by
 obtain ⟨c, o, vs, t, c1, c2, c3, c4⟩ := x
 refine ⟨c, o, vs, t, c1, ghost_get hT c2 (fun q => ?_), c3, c4⟩
 rw [q] at c3
 injection c3 with c3
 subst c3
 cases c4
theorem mem_look {α : Type} : ∀ {l : List (Str × α)} {x : Str} {v : α}, l.lookup x = some v → (x, v) ∈ l
 | [], _, _, e => by cases e
 | (y, u) :: l, x, v, e => by
  rw [List.lookup_cons] at e
  cases hb : x == y with
  | true => rw [hb] at e; cases e; rw [eq_of_beq hb]; exact .head _
  | false => rw [hb] at e; exact .tail _ (mem_look e)
section
variable {w : World} {s₁ : Shared} {mean : ExcName → Option Value} {mg mb : Str → Option Value}
theorem fn_ne {fd : FuncData} : ({ cls := .type "function", data := .func fd } : Obj) ≠ tabObj #[] := fun q => by cases q
theorem good_K (T : Top (Vw pw) (looseW (Vw pw) looseL) mean mg mb s₁.heap) (Y : SeenH s₁.heap) : Good (KK w s₁) := by
 have hT := tabs_at Y
 refine ⟨fun x v e => ?_, fun a fd e ha => ?_, ?_⟩
 ·refine ⟨mg, ghost_ns hT T.g, ?_⟩
  rcases List.mem_append.mp (mem_look e) with hm | hm
  ·obtain ⟨p, hp, e⟩ := List.mem_map.mp hm
   injection e with e1 e2
   subst e1; subst e2
   exact .inl ((ns_of_map T.g _).trans (Y.nm _ hp))
  ·have h1 := map_mem blt_boot _ hm
   have h2 := List.all_eq_true.mp blt_free _ hm
   simp only [freeB, Bool.and_eq_true, decide_eq_true_iff] at h2
   obtain ⟨⟨⟨⟨⟨a1, a2⟩, a3⟩, a4⟩, a5⟩, a6⟩ := h2
   exact .inr ⟨T.free x a2 a3 a4 a5 a6, mb, ghost_ns hT T.b, (T.builtins x a1).trans h1⟩
 ·obtain ⟨y, hy, hf⟩ := Option.bind_eq_some_iff.mp e
  obtain ⟨fd', f1, f2, f3⟩ := Y.fn (a, y) (look_mem hy)
  have ee : fd' = fd := Option.some.inj (f1.symm.trans hf)
  subst ee
  refine ⟨⟨_, ghost_get hT f2 fn_ne, rfl⟩, ?_⟩
  exact rec_ghost hT f3
 ·obtain ⟨mc, a, r⟩ := T.nolimit
  exact ⟨mc, ghost_ns hT a, r⟩
noncomputable def kvs66 : List (Int × Value) := specL.zipIdx.map fun x => ((x.1 : Int), .str ⟨#[92, x.1]⟩ (372 + 6 * x.2))
theorem spec_K (Y : SeenH s₁.heap) : SpecK (KK w s₁) := by
 have hT := tabs_at Y
 refine ⟨kvs66, ⟨obj66, _, _, ghost_get hT Y.o66 (fun q => by cases q), ⟨rfl, rfl, rfl⟩, rfl, ?_, ?_, by decide⟩, ?_, ?_⟩
 ·intro e he
  simp only [List.mem_toArray, List.mem_map] at he
  obtain ⟨x, hx, rfl⟩ := he
  have hs : x.1 < 1000 := by
   have : ∀ y ∈ specL.zipIdx, y.1 < 1000 := by decide
   exact this x hx
  refine ⟨x.1, by simp [intKind, Value.isInt], ?_⟩
  have : ∀ y ∈ specL.zipIdx, (y.1 : Int) = hashInt y.1 := by decide
  exact this x hx
 ·show PySem.Pairs (intKind pw w) (specL.zipIdx.map fun x => ({ hash := (x.1 : Int), key := .int x.1 (368 + 6 * x.2), val := .str ⟨#[92, x.1]⟩ (372 + 6 * x.2) } : DictEntry)) kvs66
  unfold kvs66
  generalize specL.zipIdx = l
  induction l with
  | nil => exact .nil
  | cons x l ih => exact .cons (by simp [intKind, Value.isInt]) rfl ih
 ·intro c hc
  have : ∀ c ∈ specials, ∃ t, valueAt kvs66 c = some (.str (toS [92, c]) t) := by
   intro c hc
   simp only [specials, List.mem_cons, List.not_mem_nil, or_false] at hc
   rcases hc with rfl | rfl | rfl | rfl | rfl | rfl | rfl | rfl | rfl | rfl | rfl | rfl | rfl | rfl | rfl | rfl | rfl | rfl | rfl | rfl | rfl | rfl | rfl | rfl <;> exact ⟨_, rfl⟩
  exact this c hc
 ·intro c hc
  unfold valueAt
  rw [Option.map_eq_none_iff, List.find?_eq_none]
  intro kv hkv
  have h2 : ∀ kv ∈ kvs66, ∃ n ∈ specials, kv.1 = (n : Int) := by
   intro kv hkv
   unfold kvs66 at hkv
   obtain ⟨x, hx, rfl⟩ := List.mem_map.mp hkv
   refine ⟨x.1, ?_, rfl⟩
   have : ∀ y ∈ specL.zipIdx, y.1 ∈ specials := by decide
   exact this x hx
  obtain ⟨n, hn, e⟩ := h2 kv hkv
  simp only [decide_eq_true_eq]
  intro q
  rw [e] at q
  exact hc ((show n = c by exact_mod_cast q) ▸ hn)
theorem good2_K (T : Top (Vw pw) (looseW (Vw pw) looseL) mean mg mb s₁.heap) (Y : SeenH s₁.heap) : Good2 (KK w s₁) := by
 have hT := tabs_at Y
 refine ⟨spec_K Y, ⟨?_, ?_, ?_⟩, ⟨⟨_, _, _, ghost_get hT Y.o57 (fun q => by cases q)⟩, _, ghost_get hT Y.o56 (fun q => by cases q)⟩, ?_⟩
 ·exact (ghost_code hT).1
 ·obtain ⟨bm, ob, h1, h2, h3, h4, h5, h6⟩ := T.bmain
  refine ⟨mg, ghost_ns hT T.g, bm, ob, h1, h2, ?_, ?_, ghost_get hT h3 (fun q => by rw [q] at h4; cases h4), h4, h5, h6⟩
  ·rintro rfl
   obtain ⟨o, es, ep, e, hd, _⟩ := T.g
   rw [h3] at e; cases e
   rw [h6] at hd; cases hd
  ·rintro rfl
   have := Y.o78
   rw [h3] at this; cases this
   cases h4
 ·obtain ⟨mc, a, r⟩ := T.nolimit
  exact ⟨mc, ghost_ns hT a, r⟩
 ·exact ⟨82, obj82, by decide, ghost_get hT Y.o82 (fun q => by cases q)⟩
theorem old_K (Y : SeenH s₁.heap) {a : Addr} {vs : List Value} {xs : List Int} (hL : s₁.heap.IsList a vs.toArray) (hI : IntsAre vs xs) (hl : xs.length ≤ 63) : OldInts (KK w s₁) a xs := by
 refine ⟨vs, ghost_list (tabs_at Y) hL, fun h => ?_, by rw [szL]; grind⟩
 clear hL hl
 induction hI with
 | nil => exact .nil
 | cons n t _ ih => exact .cons (.int n t) ih
noncomputable def σ0 : Sto := fun b => if b = 78 then some .tab else none
set_option tactic.hygienic true
theorem start_K (Y : SeenH s₁.heap) (hg : s₁.gens = #[]) : SInv (KK w s₁) σ0 s₁ := by
 have hT := tabs_at Y
 refine ⟨fun b o e => of_hideAll _ e, fun b o e => ?_, fun a mo e => ?_, rfl, .of_eq hg⟩
 ·have hb : b ≠ 78 := fun q => by
   subst q
   have := hideAll_none (h := s₁.heap) [78] (List.mem_singleton.mpr rfl)
   exact absurd (e.symm.trans this) (by simp)
  simp [σ0, hb]
 ·unfold σ0 at e
  split at e
  ·rename_i h; subst h; cases e
   exact ⟨#[], Y.o78, by simp [TriplesOk]⟩
  ·cases e
set_option tactic.hygienic false
theorem law_call (T : Top (Vw pw) (looseW (Vw pw) looseL) mean mg mb s₁.heap) (Y : SeenH s₁.heap) (hg : s₁.gens = #[]) {a : Addr} {vs : List Value} {xs : List Int} (hL : s₁.heap.IsList a vs.toArray) (hI : IntsAre vs xs) (hl : xs.length ≤ 63) {Q : Value → Shared → Prop} {E : Value → Shared → Prop}
  (q : ∀ s', OldK s₁.heap s'.heap → s'.os = s₁.os → AllBare s'.gens → Q (.bool true) s') : wpAny (model pw w) callerA (call (.ref 178) [.ref a]) Q E s₁ := by
 have hT := tabs_at Y
 have I := start_K (w := w) Y hg
 obtain ⟨fd, f1, f2, f3⟩ := Y.fn (178, 29, 6) (by simp [defsL])
 have ef : fd = fd_law := Option.some.inj (f1.symm.trans (fd_lawS.2 w.params))
 have G := good_K (w := w) T Y
 have S := SF_law G (good2_K T Y) (old_K Y hL hI hl) (by rw [← ef]; exact ⟨⟨_, ghost_get hT f2 fn_ne, rfl⟩, rec_ghost hT f3⟩)
 refine wpAny_call (codeAny_mono (S callerA s₁ σ0 [.ref a] [.ref a] (fun m σ' => m = .bool true ∧ σ' 78 = some .tab) (fun _ => False) ⟨rfl, by decide, by decide⟩ I ⟨[], rfl, by simp⟩ (.cons (.ref a) .nil) ⟨rfl, hl, drawn_ok xs, by simp [σ0], ?_⟩) ?_)
 ·exact fun σ' hge => ⟨rfl, hge _ _ (by simp [σ0])⟩
 ·rintro r s' hr
  cases r with
  | error e => obtain ⟨σ', _, _, _, hf⟩ := hr; exact hf.elim
  | ok f => cases f with
   | ret v =>
    obtain ⟨m, σ', r, I', st, rfl, h78⟩ := hr
    cases r with
    | bool b =>
     refine q s' ⟨fun b o e => ?_, fun b o e => ?_⟩ I'.os I'.bare
     ·by_cases hb : b = 78
      ·subst hb
       obtain ⟨ps, e1, _⟩ := I'.sto _ _ h78
       have := Y.o78
       rw [e] at this; cases this
       exact .inr (.inl ⟨⟨82, obj82, _, Y.o82, rfl, rfl, rfl⟩, rfl, #[], ps, rfl, by simpa using e1⟩)
      ·exact .inl (I'.old b o (ghost_ne e (by simpa using hb)))
     ·by_cases hb : b = 78
      ·subst hb
       obtain ⟨ps, e1, _⟩ := I'.sto _ _ h78
       exact ⟨_, e1⟩
      ·exact ⟨o, I'.old b o (ghost_ne e (by simpa using hb))⟩
   | next => exact hr.elim
   | brk => exact hr.elim
   | cont => exact hr.elim
end
end Mine
end
section
open PySem PySem.Calls PyProof.Rows PySem.W
set_option maxRecDepth 100000 in
set_option maxHeartbeats 0 in
theorem PySem.Challenge.cw_kl0420_01_holds : PySem.Challenge.rw_kl0420_01.Holds := by
 refine holds_law Mine.said fun said => holds_open (r := PySem.Challenge.rw_kl0420_01.row) (q := Mine.Vw Mine.pw) (loose := Mine.looseL) (Xt := fun s => xlAt (Mine.Vw Mine.pw) [] s && recOk [] s) (XP := XL (Mine.Vw Mine.pw) []) (Yf := Mine.seenOf) (Ya := fun _ => Mine.seenIs Mine.pw) (YP := fun _ h => Mine.SeenH h) (N := 4210)
  Mine.left_all Mine.seen_of Mine.seen_keeps (fun s e => xl_of s (Bool.and_eq_true_iff.mp e).1) XL.keeps (by rfl) (by rfl) (by rfl) (fun s e => recFacts_of (Bool.and_eq_true_iff.mp e).2) (by rfl) said (by decide +kernel) ⟨rfl, rfl, rfl, rfl, rfl, by decide +kernel⟩ ?hw ?hc
 case hw => w_witness2
 case hc =>
  intro w s₀ s₁ mg mb G Y fa o pm cd doc dV kV ho hd hcd hD hmg hg args vals as hpre hlay hrd hwl hlo
  refine Ground.open G ?_
  intro T B D TE TW
  clear hd hcd hD
  wrow_args hpre hlay hrd hwl hlo
  have h1 : mg (Str.ofString "law") = some (.ref fa) := hmg
  have h2 := (Mine.ns_of_map T.g (Str.ofString "law")).trans (Y.nm (Str.ofString "law", 178) (by unfold Mine.namesL; simp only [List.mem_cons, true_or, or_true]))
  rw [h1] at h2
  injection h2 with h2
  injection h2 with h2
  subst h2
  clear h1 hmg
  refine Mine.law_call T Y hg ‹s₁.heap.IsList _ _› ‹IntsAre _ _› (by omega) fun s' k1 k2 k3 => ⟨.inl ⟨.bool true, .bool true, [], rfl, fun _ => rfl, .bool true, by kernel_rfl, fun _ => ⟨.nil, fun _ h => nomatch h⟩⟩, k1, k2, k3⟩
end
