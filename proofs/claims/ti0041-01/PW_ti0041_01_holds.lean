import PyProof.Rows.All
import Wide.All
import OpenK.AllK
import Wide.FinOn
import PySem.Challenge.RW_ti0041_01
set_option Elab.async false
section
open PySem PySem.W PyProof.Rows
set_option Elab.async false
namespace Mine
/-- the statements that the head's view keeps: all but the four that set `__name__` -/
def keepL : List Nat := (List.range 71).filter fun i => i != 0 && i != 3 && i != 55 && i != 62
def vw : Program := PySem.W.view PySem.Challenge.pw_ti0041_01 keepL
section
local macro_rules | `(tactic| o_head $_) => `(tactic| assumption)
set_option maxRecDepth 100000 in
set_option maxHeartbeats 8000000 in
theorem kk (h : (PySem.Challenge.rw_ti0041_01.row).Holds) : (PySem.Challenge.rw_ti0041_01.row).Holds := by k_head
end
abbrev looseN : List PySem.Str := [PySem.Str.ofString "EXACT_TOKEN_TYPES"]
abbrev RRow : RowW := (PySem.Challenge.rw_ti0041_01.row).toRowW
abbrev asK : List Addr := [2, 3, 6, 15, 17, 18, 20, 21, 22, 25, 27, 28, 30, 31, 32, 34, 35, 37, 38, 39, 41, 42, 44, 45, 46, 48, 49, 51, 52, 53, 55, 56, 58, 59, 60, 62, 63, 65, 66, 67, 69, 70, 72, 73, 74, 76, 77, 79, 80, 81, 83, 84, 86, 87, 88, 90, 91, 93, 94, 95, 98, 99, 100, 103, 104, 105, 107, 108, 110, 111, 112, 115, 116, 117, 120, 121]
theorem as_ok : ∀ P, asK = (Mine.kk.heap_1 P).map (·.1) := fun _ => by kernel_rfl
noncomputable abbrev Hk : Hook := kmHook Mine.kk.heap_1 asK as_ok [101]
-- the library's own quick twins of what is run (PySem.W.Fast): topRun, openSeen, treeTable, importEnds, fenceModules?, start
open PySem.W.Fast in
theorem left_f : ∀ w : World, (openEnds treeTable PySem.Challenge.pw_ti0041_01 (w.withFollow "special-get-raises" false) 3998).map (fun s => (openSeen vw looseN (importedModules PySem.Challenge.pw_ti0041_01.main.body) (fun s => xlAt vw [] s && recOk (RowW.records RRow) s) true s, Hk.obs s)) = some (openGood vw looseN, Hk.val (w.withFollow "special-get-raises" false)) := by
  intro w
  unfold openEnds fencedOpening topFrom
  rw [te14082659384304107361, te4187177175401517315, te14364793385576792824, te10274390034422433532, te14289696077712309145, te1435165496053646825]
  kernel_rfl
open PySem.W.Fast in
theorem left_t : ∀ w : World, (openEnds treeTable PySem.Challenge.pw_ti0041_01 (w.withFollow "special-get-raises" true) 3998).map (fun s => (openSeen vw looseN (importedModules PySem.Challenge.pw_ti0041_01.main.body) (fun s => xlAt vw [] s && recOk (RowW.records RRow) s) true s, Hk.obs s)) = some (openGood vw looseN, Hk.val (w.withFollow "special-get-raises" true)) := by
  intro w
  unfold openEnds fencedOpening topFrom
  rw [te14082659384304107361, te4187177175401517315, te14364793385576792824, te10274390034422433532, te14289696077712309145, te1435165496053646825]
  kernel_rfl
theorem left_ok : LeftO RRow.prog vw looseN (fun s => xlAt vw [] s && recOk (RowW.records RRow) s) Hk.obs Hk.val 3998 :=
  fun w => byRow2 "special-get-raises" (P := fun w => (openEnds treeTable PySem.Challenge.pw_ti0041_01 w 3998).map (fun s => (openSeen vw looseN (importedModules PySem.Challenge.pw_ti0041_01.main.body) (fun s => xlAt vw [] s && recOk (RowW.records RRow) s) true s, Hk.obs s)) = some (openGood vw looseN, Hk.val w)) left_f left_t w
open PySem.W.Fast in
theorem law_said : OpenLaw.wellSaid PySem.Challenge.rw_ti0041_01 = true := by
  rw [te9446332074065402090]
  kernel_rfl
theorem row_well : OpenRow.wellSaid (PySem.Challenge.rw_ti0041_01.row) = true := row_said law_said
theorem row_opens : (chainsOk vw && opensWell RRow.prog && (frees RRow && RRow.within.isEmpty)) = true := by decide +kernel
section
local macro_rules | `(tactic| o_law) => `(tactic| refine holds_law law_said fun said => ?_)
local macro_rules | `(tactic| k_head) => `(tactic|
  refine holds_open (r := PySem.Challenge.rw_ti0041_01.row) (q := vw) (loose := looseN) (Xt := fun s => xlAt vw [] s && recOk (RowW.records RRow) s) (XP := XL vw []) (Yf := Hook.obs (kmHook Mine.kk.heap_1 asK as_ok [101])) (Ya := Hook.val (kmHook Mine.kk.heap_1 asK as_ok [101])) (YP := Hook.says (kmHook Mine.kk.heap_1 asK as_ok [101])) (N := 3998)
    left_ok (Hook.of (kmHook Mine.kk.heap_1 asK as_ok [101])) (Hook.keeps (kmHook Mine.kk.heap_1 asK as_ok [101])) (fun s e => xl_of s (Bool.and_eq_true_iff.mp e).1) XL.keeps (by rfl) (by rfl) (by rfl) (fun s e => recFacts_of (Bool.and_eq_true_iff.mp e).2) (by rfl) row_well row_opens ⟨rfl, rfl, rfl, rfl, rfl, by decide +kernel⟩ ?hw ?hc)
set_option maxRecDepth 100000 in
set_option maxHeartbeats 8000000 in
open_top hd for PySem.Challenge.rw_ti0041_01
end
end Mine
end
section
open PySem PySem.W PyProof.Rows PySem.Calls
set_option Elab.async false
set_option linter.unusedVariables false
namespace Mine
abbrev PR : Program := PySem.Challenge.pw_ti0041_01
abbrev MD (w : World) : Model := model PR w
abbrev Led := List (Addr × Obj)
abbrev NE : Value → Shared → Prop := fun _ _ => False

/-- objects that stand in h1 and did not in h0 -/
def New (h0 h1 : Heap) (nw : Led) : Prop := ∀ p ∈ nw, h1.get? p.1 = some p.2 ∧ h0.get? p.1 = none

theorem New.nil {h0 h1 : Heap} : New h0 h1 [] := fun _ h => nomatch h
theorem New.one {h0 h1 : Heap} {a : Addr} {o : Obj} (e : h1.get? a = some o) (f : h0.get? a = none) : New h0 h1 [(a, o)] := fun p hp => by
  rw [List.mem_singleton.mp hp]; exact ⟨e, f⟩
theorem get_none_back {h0 h1 : Heap} (k : h0.StaysIn h1) {a : Addr} (e : h1.get? a = none) : h0.get? a = none := by
  cases q : h0.get? a with
  | none => rfl
  | some o => rw [k _ _ q] at e; cases e
theorem New.later {h0 h1 h2 : Heap} {nw : Led} (n : New h0 h1 nw) (k : h1.StaysIn h2) : New h0 h2 nw := fun p hp => ⟨k _ _ (n p hp).1, (n p hp).2⟩
theorem New.earlier {h0 h1 h2 : Heap} {nw : Led} (k : h0.StaysIn h1) (n : New h1 h2 nw) : New h0 h2 nw := fun p hp => ⟨(n p hp).1, get_none_back k (n p hp).2⟩
theorem New.append {h0 h1 : Heap} {a b : Led} (n : New h0 h1 a) (m : New h0 h1 b) : New h0 h1 (a ++ b) := fun p hp => (List.mem_append.mp hp).elim (n p) (m p)
theorem stays_refl (h : Heap) : h.StaysIn h := fun _ _ e => e
theorem stays_trans {a b c : Heap} (x : a.StaysIn b) (y : b.StaysIn c) : a.StaysIn c := fun _ _ e => y _ _ (x _ _ e)
theorem stays_push (h : Heap) (o : Obj) : h.StaysIn (h.push o) := fun _ _ e => Heap.get?_push_of_some _ e
theorem size_none (h : Heap) {a : Addr} (ha : h.objs.size ≤ a) : h.get? a = none := by
  cases e : h.get? a with
  | none => rfl
  | some o => exact absurd (Heap.lt_size e) (Nat.not_lt.mpr ha)

/-- a word about the heap that growth does not break -/
structure HP where
  on : Heap → Prop
  st : ∀ h h', h.StaysIn h' → on h → on h'

/-- a tree that changes nothing that stood: what it gives (V v nw: the value, what it made) -/
def Tr {α : Type} (w : World) (A : Around) (I : HP) (t : Sem α) (V : α → Led → Prop) : Prop :=
  ∀ (s : Shared) (Q : α → Shared → Prop), I.on s.heap → 0 < s.toks →
    (∀ v nw h' tk, 0 < tk → s.heap.StaysIn h' → I.on h' → New s.heap h' nw → V v nw → Q v { s with heap := h', toks := tk }) → wpAny (MD w) A t Q NE s

theorem Tr.mk {α : Type} {w : World} {A : Around} {I : HP} {t : Sem α} {V : α → Led → Prop}
    (h : ∀ (s : Shared) (Q : α → Shared → Prop), I.on s.heap → 0 < s.toks →
      (∀ v nw h' tk, s.heap.StaysIn h' → New s.heap h' nw → V v nw → Q v { s with heap := h', toks := tk }) → wpAny (MD w) A t Q NE s) : Tr w A I t V := by
  intro s Q hI ht k
  refine wpAny_with_toks (n := 1) ht (wpAny_mono (h s (fun a s' => 1 ≤ s'.toks → Q a s') hI ht ?_) (fun _ _ x => x) fun _ _ x => x.elim)
  intro v nw h' tk st n hv hl
  exact k v nw h' tk hl st (I.st _ _ st hI) n hv

theorem Tr.mono {α : Type} {w : World} {A : Around} {I : HP} {t : Sem α} {V V' : α → Led → Prop} (h : Tr w A I t V) (hv : ∀ v nw, V v nw → V' v nw) : Tr w A I t V' :=
  fun s Q hI ht k => h s Q hI ht fun v nw h' tk tp st i n x => k v nw h' tk tp st i n (hv v nw x)

theorem Tr.pre {α : Type} {w : World} {A : Around} {I J : HP} {t : Sem α} {V : α → Led → Prop} (h : Tr w A J t V) (hi : ∀ h, I.on h → J.on h) : Tr w A I t V :=
  fun s Q hI ht k => h s Q (hi _ hI) ht fun v nw h' tk tp st _ n x => k v nw h' tk tp st (I.st _ _ st hI) n x

/-- and these objects stand -/
def HP.and (I : HP) (nw : Led) : HP := ⟨fun h => I.on h ∧ ∀ p ∈ nw, h.get? p.1 = some p.2, fun _ _ k x => ⟨I.st _ _ k x.1, fun p hp => k _ _ (x.2 p hp)⟩⟩

/-- the kinds of what is given -/
def IsV (x : Value) : Value → Led → Prop := fun v _ => v = x
def IsS (x : Str) : Value → Led → Prop := fun v _ => ∃ t, v = .str x t
def IsI (i : Int) : Value → Led → Prop := fun v _ => ∃ t, v = .int i t
def IsB (b : Bool) : Value → Led → Prop := fun v _ => v = .bool b
def IsT (b : Bool) : Bool → Led → Prop := fun v _ => v = b

abbrev Pu (w : World) (A : Around) (env : Env) (I : HP) (e : Expr) (V : Value → Led → Prop) : Prop := Tr w A I (eval e env) V
abbrev Te (w : World) (A : Around) (env : Env) (I : HP) (e : Expr) (b : Bool) : Prop := Tr w A I (isTrue e env (eval e env)) (IsT b)

section
variable {w : World} {A : Around} {env : Env} {I : HP}

/-- one tree, then another over what it gave -/
theorem Tr.one {α β : Type} {m : Sem α} {f : α → Sem β} {P : α → Led → Prop} {U : β → Led → Prop} {s : Shared} {Q : β → Shared → Prop}
    (hm : Tr w A I m P) (hf : ∀ a n1, P a n1 → Tr w A (I.and n1) (f a) (fun v nu => U v (nu ++ n1))) (hI : I.on s.heap) (ht : 0 < s.toks)
    (k : ∀ v nw h' tk, s.heap.StaysIn h' → New s.heap h' nw → U v nw → Q v { s with heap := h', toks := tk }) :
    wpAny (MD w) A m (fun a s₁ => wpAny (MD w) A (f a) Q NE s₁) NE s := by
  refine hm s _ hI ht fun a n1 h1 tk1 tp1 st1 i1 new1 ha => ?_
  refine hf a n1 ha _ _ ⟨i1, fun p hp => (new1 p hp).1⟩ tp1 fun v nu h' tk tp st _ n hv => ?_
  exact k v _ h' tk (stays_trans st1 st) ((New.earlier st1 n).append (new1.later st)) hv

theorem Tr.two {α β γ : Type} {m : Sem α} {m' : Sem β} {f : α → β → Sem γ} {P : α → Led → Prop} {R : β → Led → Prop} {U : γ → Led → Prop} {s : Shared} {Q : γ → Shared → Prop}
    (hl : Tr w A I m P) (hr : Tr w A I m' R) (hf : ∀ a b n1 n2, P a n1 → R b n2 → Tr w A (I.and (n2 ++ n1)) (f a b) (fun v nu => U v (nu ++ (n2 ++ n1)))) (hI : I.on s.heap) (ht : 0 < s.toks)
    (k : ∀ v nw h' tk, s.heap.StaysIn h' → New s.heap h' nw → U v nw → Q v { s with heap := h', toks := tk }) :
    wpAny (MD w) A m (fun a s₁ => wpAny (MD w) A m' (fun b s₂ => wpAny (MD w) A (f a b) Q NE s₂) NE s₁) NE s := by
  refine hl s _ hI ht fun a n1 h1 tk1 tp1 st1 i1 new1 ha => ?_
  refine hr _ _ i1 tp1 fun b n2 h2 tk2 tp2 st2 i2 new2 hb => ?_
  have nn : New s.heap h2 (n2 ++ n1) := (New.earlier st1 new2).append (new1.later st2)
  refine hf a b n1 n2 ha hb _ _ ⟨i2, fun p hp => (nn p hp).1⟩ tp2 fun v nu h' tk tp st _ n hv => ?_
  exact k v _ h' tk (stays_trans (stays_trans st1 st2) st) ((New.earlier (stays_trans st1 st2) n).append (nn.later st)) hv

theorem Pu.int {i : Int} {k : Nat} {p : Pos} : Pu w A env I (.Constant (.int i) k p) (IsI i) :=
  .mk fun _ _ _ _ k => wpAny_Constant_int (k _ [] _ _ (stays_refl _) .nil ⟨_, rfl⟩)
theorem Pu.bool {b : Bool} {k : Nat} {p : Pos} : Pu w A env I (.Constant (.bool b) k p) (IsB b) :=
  .mk fun _ _ _ _ k => wpAny_Constant_bool (k _ [] _ _ (stays_refl _) .nil rfl)
theorem Pu.str {x : Str} {k : Nat} {p : Pos} : Pu w A env I (.Constant (.str x) k p) (IsS x) :=
  .mk fun _ _ _ _ k => Calls.Constant_str (k _ [] _ _ (stays_refl _) .nil ⟨_, rfl⟩)

theorem Pu.binop {l r : Expr} {op : Operator} {p : Pos} {P R U : Value → Led → Prop} (hl : Pu w A env I l P) (hr : Pu w A env I r R)
    (hf : ∀ a b n1 n2, P a n1 → R b n2 → Tr w A (I.and (n2 ++ n1)) (binaryOp op a b) (fun v nu => U v (nu ++ (n2 ++ n1)))) : Pu w A env I (.BinOp l op r p) U :=
  .mk fun _ _ hI ht k => wpAny_BinOp (Tr.two hl hr hf hI ht k)
theorem Pu.cmp {l r : Expr} {op : CmpOp} {p : Pos} {P R U : Value → Led → Prop} (hl : Pu w A env I l P) (hr : Pu w A env I r R)
    (hf : ∀ a b n1 n2, P a n1 → R b n2 → Tr w A (I.and (n2 ++ n1)) (compareOp op a b) (fun v nu => U v (nu ++ (n2 ++ n1)))) (hm : behindInMarks op r = false := by rfl) : Pu w A env I (.Compare l [op] [r] p) U :=
  .mk fun _ _ hI ht k => wpAny_Compare1 (Tr.two hl hr hf hI ht k) hm

/-- the operations themselves -/
theorem op_add {i j : Int} {a b : Value} {n : Led} {n1 n2 : Led} (ha : IsI i a n1) (hb : IsI j b n2) : Tr w A I (binaryOp .Add a b) (fun v nu => IsI (i + j) v (nu ++ n)) := by
  obtain ⟨t, rfl⟩ := ha; obtain ⟨u, rfl⟩ := hb
  exact .mk fun _ _ _ _ k => PyProof.Rows.add_int (k _ [] _ _ (stays_refl _) .nil ⟨_, rfl⟩)
theorem op_sub {i j : Int} {a b : Value} {n : Led} {n1 n2 : Led} (ha : IsI i a n1) (hb : IsI j b n2) : Tr w A I (binaryOp .Sub a b) (fun v nu => IsI (i - j) v (nu ++ n)) := by
  obtain ⟨t, rfl⟩ := ha; obtain ⟨u, rfl⟩ := hb
  exact .mk fun _ _ _ _ k => PyProof.Rows.sub_int (k _ [] _ _ (stays_refl _) .nil ⟨_, rfl⟩)
theorem op_cat {x y : Str} {a b : Value} {n : Led} {n1 n2 : Led} (ha : IsS x a n1) (hb : IsS y b n2) (hz : x.length + y.length ≤ sizeLine) : Tr w A I (binaryOp .Add a b) (fun v nu => IsS (x ++ y) v (nu ++ n)) := by
  obtain ⟨t, rfl⟩ := ha; obtain ⟨u, rfl⟩ := hb
  exact .mk fun _ _ _ _ k => SB.add (fun t' c => k _ [] _ _ (stays_refl _) .nil ⟨_, rfl⟩) hz
theorem op_in {x y : Str} {a b : Value} {n : Led} {n1 n2 : Led} (ha : IsS y a n1) (hb : IsS x b n2) : Tr w A I (compareOp .In a b) (fun v nu => IsB (Txt.contains x y) v (nu ++ n)) := by
  obtain ⟨t, rfl⟩ := ha; obtain ⟨u, rfl⟩ := hb
  exact .mk fun _ _ _ _ k => SB.contains (k _ [] _ _ (stays_refl _) .nil rfl)
theorem op_notin {x y : Str} {a b : Value} {n : Led} {n1 n2 : Led} (ha : IsS y a n1) (hb : IsS x b n2) : Tr w A I (compareOp .NotIn a b) (fun v nu => IsB (!Txt.contains x y) v (nu ++ n)) := by
  obtain ⟨t, rfl⟩ := ha; obtain ⟨u, rfl⟩ := hb
  exact .mk fun _ _ _ _ k => SB.notContains (k _ [] _ _ (stays_refl _) .nil rfl)
theorem op_eqS {x y : Str} {a b : Value} {n : Led} {n1 n2 : Led} (ha : IsS x a n1) (hb : IsS y b n2) : Tr w A I (compareOp .Eq a b) (fun v nu => IsB (x == y) v (nu ++ n)) := by
  obtain ⟨t, rfl⟩ := ha; obtain ⟨u, rfl⟩ := hb
  exact .mk fun _ _ _ _ k => PyProof.Rows.eq_str (k _ [] _ _ (stays_refl _) .nil rfl)
theorem op_neS {x y : Str} {a b : Value} {n : Led} {n1 n2 : Led} (ha : IsS x a n1) (hb : IsS y b n2) : Tr w A I (compareOp .NotEq a b) (fun v nu => IsB (x != y) v (nu ++ n)) := by
  obtain ⟨t, rfl⟩ := ha; obtain ⟨u, rfl⟩ := hb
  exact .mk fun _ _ _ _ k => PyProof.Rows.ne_str (k _ [] _ _ (stays_refl _) .nil rfl)
theorem op_eqI {i j : Int} {a b : Value} {n : Led} {n1 n2 : Led} (ha : IsI i a n1) (hb : IsI j b n2) : Tr w A I (compareOp .Eq a b) (fun v nu => IsB (i == j) v (nu ++ n)) := by
  obtain ⟨t, rfl⟩ := ha; obtain ⟨u, rfl⟩ := hb
  exact .mk fun _ _ _ _ k => PyProof.Rows.eq_int (k _ [] _ _ (stays_refl _) .nil rfl)
theorem op_neI {i j : Int} {a b : Value} {n : Led} {n1 n2 : Led} (ha : IsI i a n1) (hb : IsI j b n2) : Tr w A I (compareOp .NotEq a b) (fun v nu => IsB (i != j) v (nu ++ n)) := by
  obtain ⟨t, rfl⟩ := ha; obtain ⟨u, rfl⟩ := hb
  exact .mk fun _ _ _ _ k => PyProof.Rows.ne_int (k _ [] _ _ (stays_refl _) .nil rfl)
theorem op_ltI {i j : Int} {a b : Value} {n : Led} {n1 n2 : Led} (ha : IsI i a n1) (hb : IsI j b n2) : Tr w A I (compareOp .Lt a b) (fun v nu => IsB (decide (i < j)) v (nu ++ n)) := by
  obtain ⟨t, rfl⟩ := ha; obtain ⟨u, rfl⟩ := hb
  exact .mk fun _ _ _ _ k => PyProof.Rows.lt_int (k _ [] _ _ (stays_refl _) .nil rfl)
theorem op_gtI {i j : Int} {a b : Value} {n : Led} {n1 n2 : Led} (ha : IsI i a n1) (hb : IsI j b n2) : Tr w A I (compareOp .Gt a b) (fun v nu => IsB (decide (i > j)) v (nu ++ n)) := by
  obtain ⟨t, rfl⟩ := ha; obtain ⟨u, rfl⟩ := hb
  exact .mk fun _ _ _ _ k => PyProof.Rows.gt_int (k _ [] _ _ (stays_refl _) .nil rfl)
end
end Mine
end
section
open PySem PySem.W PyProof.Rows PySem.Calls
set_option Elab.async false
set_option linter.unusedVariables false
namespace Mine
noncomputable abbrev looseL : List Str := looseW Mine.vw [Str.ofString "EXACT_TOKEN_TYPES"] ++ List.map (fun x => x.name) (recsOf Mine.vw) ++
      List.map (fun x => x.fst) (litsOf Mine.vw) ++
    List.map (fun x => x.name) (clssOf Mine.vw (looseW Mine.vw [Str.ofString "EXACT_TOKEN_TYPES"]))
noncomputable abbrev KK (w : World) : Frag := Mine.kk.heap_1 w.params

/-- what a callee leans on in the heap that it starts from -/
structure Base (w : World) (h : Heap) : Prop where
  K : (KK w).In h
  T : ∃ mean mg mb, Top topProg looseL mean mg mb h
theorem Base.stays {w : World} {h h' : Heap} (B : Base w h) (k : h.StaysIn h') : Base w h' :=
  ⟨B.K.keeps k, let ⟨a, b, c, T⟩ := B.T; ⟨a, b, c, T.keeps k⟩⟩

def lk (l : List (Str × Value)) : Str → Option Value := fun x => l.lookup x
theorem lk_cons (l : List (Str × Value)) (x : Str) (v : Value) : (fun y => if y = x then some v else lk l y) = lk ((x, v) :: l) := by
  funext y
  unfold lk
  rw [List.lookup_cons]
  by_cases h : y = x
  · simp [h]
  · have : (y == x) = false := by simp [h]
    rw [if_neg h, this]

abbrev Lo (vs : List Value) (n : Nat) : Obj := { cls := .type "list", data := .seq vs.toArray n }
abbrev To (vs : List Value) : Obj := { cls := .type "tuple", data := .seq vs.toArray }

theorem fr_stays {g h h' : Heap} {L : Addr} {m : Str → Option Value} (F : Fr g L h m) (k : h.StaysIn h') : Fr g L h' m :=
  ⟨F.ns.keeps k, fun b o e => k b o (F.keep b o e), F.above⟩
theorem news_stays {g h h' : Heap} {L : Addr} {news : Led} (N : News g L h news) (k : h.StaysIn h') : News g L h' news :=
  fun p hp => ⟨k _ _ (N p hp).1, (N p hp).2⟩
theorem news_new {g h h' : Heap} {L : Addr} {m : Str → Option Value} {news nw : Led} (F : Fr g L h m) (N : News g L h news) (k : h.StaysIn h') (n : New h h' nw) : News g L h' (nw ++ news) := fun p hp => by
  rcases List.mem_append.mp hp with q | q
  · refine ⟨(n p q).1, fun e => ?_, get_none_back F.keep (n p q).2⟩
    obtain ⟨o, _, _, ho, _⟩ := F.ns
    have := (n p q).2
    rw [e, ho] at this; cases this
  · exact news_stays N k p q

/-- a function's own state: its names, and the objects that it has made and keeps in sight -/
def FR (g : Heap) (L : Addr) (l : List (Str × Value)) (news : Led) : HP :=
  ⟨fun h => Fr g L h (lk l) ∧ News g L h news, fun _ _ k x => ⟨fr_stays x.1 k, news_stays x.2 k⟩⟩

theorem isList_of {h : Heap} {a : Addr} {vs : List Value} {n : Nat} (e : h.get? a = some (Lo vs n)) : h.IsList a vs.toArray := ⟨_, e, rfl, _, rfl⟩
theorem FR.list {g : Heap} {L a : Addr} {l : List (Str × Value)} {news : Led} {vs : List Value} {n : Nat} (hm : (a, Lo vs n) ∈ news) : ∀ h, (FR g L l news).on h → h.IsList a vs.toArray :=
  fun _ x => isList_of (x.2 _ hm).1

structure EnvOk (env : Env) (L : Addr) : Prop where
  loc : env.locals = L
  kind : env.scope.kind = .function
  glob : env.globals = mainGlobals
  blt : env.builtins = builtinsNs

section
variable {w : World} {A : Around} {env : Env} {I : HP} {g : Heap} {L : Addr} {l : List (Str × Value)} {news : Led}

theorem Pu.name {x : Str} {v : Value} {p : Pos} (h : ∀ (s : Shared) (Q : Value → Shared → Prop), I.on s.heap → Q v s → wpAny (MD w) A (loadName env x) Q NE s) (hd : (x == ("__debug__" : Str)) = false := by rfl) :
    Pu w A env I (.Name x p) (IsV v) :=
  .mk fun s _ hI _ k => wpAny_Name (h s _ hI (k v [] _ _ (stays_refl _) .nil rfl)) hd

theorem Pu.loc {x : Str} {v : Value} {p : Pos} (hE : EnvOk env L) (hv : lk l x = some v) (hx : env.kindOf x = some .local) (hd : (x == ("__debug__" : Str)) = false := by rfl) : Pu w A env (FR g L l news) (.Name x p) (IsV v) :=
  .name (fun _ _ hI q => wpAny_loadName_local hE.kind hx (hE.loc ▸ hI.1.ns) hv q) hd

theorem Pu.glob {x : Str} {v : Value} {p : Pos} (hE : EnvOk env L) (hB : ∀ h, I.on h → Base w h) (hx : env.kindOf x = some .globalImplicit) (e : nsIn (KK w) mainGlobals x = some (some v)) (hd : (x == ("__debug__" : Str)) = false := by rfl) :
    Pu w A env I (.Name x p) (IsV v) :=
  .name (fun s _ hI q => by
    obtain ⟨mean, mg, mb, T⟩ := (hB _ hI).T
    rw [loadName_read hE.kind hx]
    exact loadGlobal_global (hE.glob ▸ T.g) (mg_of (hB _ hI).K T.g e) q) hd
theorem Pu.blt {x : Str} {v : Value} {p : Pos} (hE : EnvOk env L) (hB : ∀ h, I.on h → Base w h) (hx : env.kindOf x = some .globalImplicit) (e : nsIn (KK w) mainGlobals x = some none) (hv : bootBuiltins x = some v)
    (hn : x ≠ "__name__" := by decide) (hd : (x == ("__debug__" : Str)) = false := by rfl) : Pu w A env I (.Name x p) (IsV v) :=
  .name (fun s _ hI q => by
    obtain ⟨mean, mg, mb, T⟩ := (hB _ hI).T
    rw [loadName_read hE.kind hx]
    exact loadGlobal_builtin (hE.glob ▸ T.g) (mg_none_of (hB _ hI).K T.g e) (hE.blt ▸ T.b) ((T.builtins x hn).trans hv) q) hd

theorem FR.base (B : Base w g) : ∀ h, (FR g L l news).on h → Base w h := fun _ x => B.stays x.1.keep

-- values seen as kinds
theorem Tr.asS {e : Sem Value} {x : Str} {t : Tok} (h : Tr w A I e (IsV (.str x t))) : Tr w A I e (IsS x) := h.mono fun _ _ e => ⟨t, e⟩
theorem Tr.asI {e : Sem Value} {x : Int} {t : Tok} (h : Tr w A I e (IsV (.int x t))) : Tr w A I e (IsI x) := h.mono fun _ _ e => ⟨t, e⟩
theorem Tr.asB {e : Sem Value} {b : Bool} (h : Tr w A I e (IsV (.bool b))) : Tr w A I e (IsB b) := h.mono fun _ _ e => e

-- tests
theorem Te.cmp {l r : Expr} {op : CmpOp} {p : Pos} {P R : Value → Led → Prop} {b : Bool} (hl : Pu w A env I l P) (hr : Pu w A env I r R)
    (hf : ∀ a c n1 n2, P a n1 → R c n2 → Tr w A (I.and (n2 ++ n1)) (compareOp op a c) (fun v nu => IsB b v (nu ++ (n2 ++ n1)))) (hm : behindInMarks op r = false := by rfl) : Te w A env I (.Compare l [op] [r] p) b :=
  .mk fun s Q hI ht k => wpAny_isTrue_Compare1 (wpAny_mono (Tr.two (Q := fun v s' => v = .bool b ∧ Q b s') hl hr hf hI ht fun v nw h' tk st n hv => ⟨(show v = .bool b from hv), k b nw h' tk st n rfl⟩)
    (fun a s₁ h₁ => wpAny_mono h₁ (fun c s₂ h₂ => wpAny_mono h₂ (fun v s₃ h₃ => by obtain ⟨rfl, q⟩ := h₃; exact wpAny_truthy_bool q) fun _ _ x => x) fun _ _ x => x) fun _ _ x => x) hm
theorem Te.val {e : Expr} {P : Value → Led → Prop} {b : Bool} (h : Pu w A env I e P) (hf : ∀ a n1, P a n1 → Tr w A (I.and n1) (truthy a) (IsT b))
    (he : isTrue e env (eval e env) = (do let v ← eval e env; standAt e.pos; holding [v] (truthy v)) := by rfl) : Te w A env I e b :=
  .mk fun _ _ hI ht k => isTrue_plain (Tr.one h hf hI ht k) he
theorem tt_bool {v : Value} {b : Bool} {n : Led} (h : IsB b v n) : Tr w A I (truthy v) (IsT b) := by
  cases h; exact .mk fun _ _ _ _ k => wpAny_truthy_bool (k _ [] _ _ (stays_refl _) .nil rfl)
theorem tt_str {v : Value} {x : Str} {n : Led} (h : IsS x v n) (hz : (x.length : Int) < 2 ^ 63) : Tr w A I (truthy v) (IsT ((x.length : Int) != 0)) := by
  obtain ⟨t, rfl⟩ := h; exact .mk fun _ _ _ _ k => P.truthy_str (by omega) (k _ [] _ _ (stays_refl _) .nil rfl)
theorem Te.not {x : Expr} {p : Pos} {b : Bool} (h : Te w A env I x b) : Te w A env I (.UnaryOp .Not x p) (!b) :=
  .mk fun s Q hI ht k => isTrue_not (h s _ hI ht fun v nw h' tk _ st _ n hv => by cases hv; exact k _ nw h' tk st n rfl)
theorem Pu.ifexp {t b e : Expr} {p : Pos} {c : Bool} {V : Value → Led → Prop} (ht : Te w A env I t c) (hb : c = true → Pu w A env I b V) (he : c = false → Pu w A env I e V) : Pu w A env I (.IfExp t b e p) V :=
  .mk fun s Q hI h0 k => wpAny_IfExp (ht s _ hI h0 fun v nw h' tk tp st i n hv => by
    cases hv
    cases c with
    | true => exact hb rfl _ _ i tp fun v nu h2 tk2 _ st2 _ n2 hv2 => k v nu h2 tk2 (stays_trans st st2) (New.earlier st n2) hv2
    | false => exact he rfl _ _ i tp fun v nu h2 tk2 _ st2 _ n2 hv2 => k v nu h2 tk2 (stays_trans st st2) (New.earlier st n2) hv2)

-- statements, in a row
variable {s : Shared} {Q : Flow → Shared → Prop} {rest : List Stmt}

theorem st_assign {x : Str} {e : Expr} {p1 p2 : Pos} {V : Value → Led → Prop} (hE : EnvOk env L) (hx : env.kindOf x = some .local) (hp : Pu w A env (FR g L l news) e V)
    (F : Fr g L s.heap (lk l)) (N : News g L s.heap news) (ht : 0 < s.toks)
    (k : ∀ v nw h' tk, 0 < tk → V v nw → Fr g L h' (lk ((x, v) :: l)) → News g L h' (nw ++ news) → wpAny (MD w) A (execs rest env) Q NE { s with heap := h', toks := tk })
    (hsw : swapsWith e (some (.Name x p1)) p2.line env = pure false := by rfl) : wpAny (MD w) A (execs (.Assign [.Name x p1] e p2 :: rest) env) Q NE s := by
  refine wpAny_execs_cons (wpAny_Assign_Name (hp s _ ⟨F, N⟩ ht fun v nw h1 tk1 tp1 st1 i1 n1 hv => ?_) hsw)
  refine wpAny_storeName_local hx (hE.loc ▸ i1.1.ns) (fun h2 hn2 hs2 => ?_) (by rw [hE.kind]; rfl)
  rw [hE.loc] at hn2 hs2
  rw [lk_cons] at hn2
  exact k v nw h2 _ (Nat.succ_pos _) hv (i1.1.set hn2 hs2) (News.set (news_new F N st1 n1) hs2)
theorem st_aug {x : Str} {op : Operator} {e : Expr} {p1 p2 : Pos} {old : Value} {P V : Value → Led → Prop} (hE : EnvOk env L) (hx : env.kindOf x = some .local) (ho : lk l x = some old) (hp : Pu w A env (FR g L l news) e P)
    (hf : ∀ b n, P b n → Tr w A ((FR g L l news).and n) (inplaceOp op old b) V)
    (F : Fr g L s.heap (lk l)) (N : News g L s.heap news) (ht : 0 < s.toks)
    (k : ∀ v nw h' tk, 0 < tk → V v nw → Fr g L h' (lk ((x, v) :: l)) → News g L h' (nw ++ news) → wpAny (MD w) A (execs rest env) Q NE { s with heap := h', toks := tk }) :
    wpAny (MD w) A (execs (.AugAssign (.Name x p1) op e p2 :: rest) env) Q NE s := by
  refine wpAny_execs_cons (wpAny_AugAssign_Name (wpAny_loadName_local hE.kind hx (hE.loc ▸ F.ns) ho ?_))
  refine hp s _ ⟨F, N⟩ ht fun b n1 h1 tk1 tp1 st1 i1 new1 hb => ?_
  refine hf b n1 hb _ _ ⟨i1, fun p hp => (new1 p hp).1⟩ tp1 fun v nw h2 tk2 tp2 st2 i2 new2 hv => ?_
  refine wpAny_storeName_local hx (hE.loc ▸ i2.1.1.ns) (fun h3 hn3 hs3 => ?_) (by rw [hE.kind]; rfl)
  rw [hE.loc] at hn3 hs3
  rw [lk_cons] at hn3
  exact k v nw h3 _ (Nat.succ_pos _) hv (i2.1.1.set hn3 hs3) (News.set (news_new i1.1 i1.2 st2 new2) hs3)
theorem st_if {t : Expr} {b o : List Stmt} {p : Pos} {c : Bool} (hp : Te w A env (FR g L l news) t c) (F : Fr g L s.heap (lk l)) (N : News g L s.heap news) (ht : 0 < s.toks)
    (k : ∀ h' tk, 0 < tk → Fr g L h' (lk l) → News g L h' news → wpAny (MD w) A (execs (if c then b else o) env) (fun f s' => match f with | .next => wpAny (MD w) A (execs rest env) Q NE s' | f => Q f s') NE { s with heap := h', toks := tk }) :
    wpAny (MD w) A (execs (.If t b o p :: rest) env) Q NE s := by
  refine wpAny_execs_cons (wpAny_If (hp s _ ⟨F, N⟩ ht fun v nw h1 tk1 tp1 st1 i1 n1 hv => ?_))
  cases hv
  cases c with
  | true => exact k h1 tk1 tp1 i1.1 i1.2
  | false => exact k h1 tk1 tp1 i1.1 i1.2
theorem st_ret {e : Expr} {p : Pos} {V : Value → Led → Prop} (hp : Pu w A env (FR g L l news) e V) (F : Fr g L s.heap (lk l)) (N : News g L s.heap news) (ht : 0 < s.toks)
    (k : ∀ v nw h' tk, 0 < tk → V v nw → Fr g L h' (lk l) → News g L h' (nw ++ news) → Q (.ret v) { s with heap := h', toks := tk }) : wpAny (MD w) A (execs (.Return (some e) p :: rest) env) Q NE s :=
  wpAny_execs_cons (wpAny_Return_some (hp s _ ⟨F, N⟩ ht fun v nw h1 tk1 tp1 st1 i1 n1 hv => k v nw h1 tk1 tp1 hv i1.1 (news_new F N st1 n1)))
theorem st_nil (k : Q .next s) : wpAny (MD w) A (execs [] env) Q NE s := wpAny_execs_nil k
end
end Mine
end
section
open PySem PySem.W PyProof.Rows PySem.Calls
set_option Elab.async false
set_option linter.unusedVariables false
namespace Mine
structure Rm (A : Around) (k : Nat) : Prop where
  hh : A.handled = none
  hd : A.depth + k < recursionLimit
  hu : A.units + 30 * k + 60 < cLine
theorem Rm.deeper {A : Around} {k : Nat} {env : Env} (h : Rm A (k + 1)) : Rm (A.deeper env) k :=
  ⟨h.hh, by have := h.hd; rw [depth_deeper]; omega, by have := h.hu; rw [units_deeper]; omega⟩
theorem Rm.less {A : Around} {k j : Nat} (h : Rm A k) (hj : j ≤ k) : Rm A j := ⟨h.hh, by have := h.hd; omega, by have := h.hu; omega⟩

def HP.true : HP := ⟨fun _ => True, fun _ _ _ x => x⟩

/-- kinds of a list of values -/
def Up (P : Value → Led → Prop) (v : Value) (nw : Led) : Prop := ∃ n1, (∀ p ∈ n1, p ∈ nw) ∧ P v n1
def LV : List (Value → Led → Prop) → List Value → Led → Prop
  | [], vs, _ => vs = []
  | P :: Ps, vs, nw => ∃ v r, vs = v :: r ∧ Up P v nw ∧ LV Ps r nw
theorem Up.mono {P : Value → Led → Prop} {v : Value} {a b : Led} (h : Up P v a) (k : ∀ p ∈ a, p ∈ b) : Up P v b := let ⟨n, x, y⟩ := h; ⟨n, fun p hp => k p (x p hp), y⟩
theorem LV.mono : ∀ {Ps : List (Value → Led → Prop)} {vs : List Value} {a b : Led}, LV Ps vs a → (∀ p ∈ a, p ∈ b) → LV Ps vs b
  | [], _, _, _, h, _ => h
  | _ :: _, _, _, _, ⟨v, r, e, u, h⟩, k => ⟨v, r, e, u.mono k, h.mono k⟩

abbrev PuL (w : World) (A : Around) (env : Env) (I : HP) (es : List Expr) (V : List Value → Led → Prop) : Prop := Tr w A I (spliced (es.map fun e => (false, eval e env))) V

/-- the end of a body: it hands back v -/
def Ret (g : Heap) (U : Value → Led → Prop) (s : Shared) (fl : Flow) (s' : Shared) : Prop :=
  ∃ v nw h' tk, fl = .ret v ∧ s' = { s with heap := h', toks := tk } ∧ g.StaysIn h' ∧ New g h' nw ∧ U v nw
theorem Ret.intro {g h' : Heap} {L : Addr} {m : Str → Option Value} {nw news : Led} {U : Value → Led → Prop} {s : Shared} {tk : Nat} {v : Value} (F : Fr g L h' m) (N : News g L h' news) (hs : ∀ p ∈ nw, p ∈ news) (hu : U v nw) :
    Ret g U s (.ret v) { s with heap := h', toks := tk } := ⟨v, nw, h', tk, rfl, rfl, F.keep, fun p hp => ⟨(N p (hs p hp)).1, (N p (hs p hp)).2.2⟩, hu⟩

section
variable {w : World} {A : Around} {env : Env} {I : HP} {L : Addr}

theorem PuL.nil : PuL w A env I [] (LV []) := .mk fun _ _ _ _ k => Calls.spliced_nil (k [] [] _ _ (stays_refl _) .nil rfl)
theorem PuL.cons {e : Expr} {es : List Expr} {P : Value → Led → Prop} {Ps : List (Value → Led → Prop)} (h : Pu w A env I e P) (hr : PuL w A env I es (LV Ps)) : PuL w A env I (e :: es) (LV (P :: Ps)) :=
  .mk fun s Q hI ht k => Calls.spliced_cons (h s _ hI ht fun v n1 h1 tk1 tp1 st1 i1 new1 hv => hr _ _ i1 tp1 fun vs n2 h2 tk2 tp2 st2 i2 new2 hvs =>
    k (v :: vs) (n2 ++ n1) h2 tk2 (stays_trans st1 st2) ((New.earlier st1 new2).append (new1.later st2)) ⟨v, vs, rfl, ⟨n1, fun p hp => List.mem_append_right _ hp, hv⟩, hvs.mono fun p hp => List.mem_append_left _ hp⟩)

theorem Pu.callB {x : Str} {id : String} {e : Expr} {es : List Expr} {p1 p : Pos} {V : List Value → Led → Prop} {U : Value → Led → Prop} (hn : Pu w A env I (.Name x p1) (IsV (.builtin id))) (ha : PuL w A env I (e :: es) V)
    (hf : ∀ vs n, V vs n → Tr w A (I.and n) (call (.builtin id) vs) (fun v nu => U v (nu ++ n)))
    (hs : backTo p (starEach (e :: es) env) = (e :: es).map fun e => (false, eval e env) := by rfl) : Pu w A env I (.Call (.Name x p1) (e :: es) [] p) U :=
  .mk fun s Q hI ht k => wpAny_Call_NameR (hn s _ hI ht fun v n1 h1 tk1 tp1 st1 i1 new1 hv => by
    cases hv
    rw [hs]
    refine Calls.callWith_builtin (by simp) (Calls.evalArgs_plain ?_)
    exact Tr.one (f := fun vs => call (.builtin id) vs) ha hf i1 tp1 fun v nw h' tk st n hv => k v nw h' tk (stays_trans st1 st) (New.earlier st1 n) hv)
theorem Pu.callT {x : Str} {T : String} {e : Expr} {es : List Expr} {p1 p : Pos} {V : List Value → Led → Prop} {U : Value → Led → Prop} (hn : Pu w A env I (.Name x p1) (IsV (.type T))) (ha : PuL w A env I (e :: es) V)
    (hf : ∀ vs n, V vs n → Tr w A (I.and n) (call (.type T) vs) (fun v nu => U v (nu ++ n)))
    (hs : backTo p (starEach (e :: es) env) = (e :: es).map fun e => (false, eval e env) := by rfl) : Pu w A env I (.Call (.Name x p1) (e :: es) [] p) U :=
  .mk fun s Q hI ht k => wpAny_Call_NameR (hn s _ hI ht fun v n1 h1 tk1 tp1 st1 i1 new1 hv => by
    cases hv
    rw [hs]
    refine PyProof.Rows.callWith_type (by simp) (Calls.evalArgs_plain ?_)
    exact Tr.one (f := fun vs => call (.type T) vs) ha hf i1 tp1 fun v nw h' tk st n hv => k v nw h' tk (stays_trans st1 st) (New.earlier st1 n) hv)
theorem Pu.callF {x : Str} {f : Addr} {e : Expr} {es : List Expr} {p1 p : Pos} {V : List Value → Led → Prop} {U : Value → Led → Prop} (hB : ∀ h, I.on h → Base w h) (hk : keepIn (KK w) (.ref f) = true) (hn : Pu w A env I (.Name x p1) (IsV (.ref f)))
    (ha : PuL w A env I (e :: es) V) (hf : ∀ vs n, V vs n → Tr w A (I.and n) (call (.ref f) vs) (fun v nu => U v (nu ++ n)))
    (hs : backTo p (starEach (e :: es) env) = (e :: es).map fun e => (false, eval e env) := by rfl) : Pu w A env I (.Call (.Name x p1) (e :: es) [] p) U :=
  .mk fun s Q hI ht k => wpAny_Call_NameR (hn s _ hI ht fun v n1 h1 tk1 tp1 st1 i1 new1 hv => by
    cases hv
    rw [hs]
    refine callWith_of (P := fun h => (KK w).In h) (by simp) (keeps_K hk) (Calls.evalArgs_plain ?_)
    refine ha _ _ i1 tp1 fun vs n2 h2 tk2 tp2 st2 i2 new2 hvs => ⟨(hB _ i2).K, ?_⟩
    refine hf vs n2 hvs _ _ ⟨i2, fun p hp => (new2 p hp).1⟩ tp2 fun v nu h' tk tp st _ n hv => ?_
    exact k v _ h' tk (stays_trans st1 (stays_trans st2 st)) (New.earlier st1 ((New.earlier st2 n).append (new2.later st))) hv)

/-- a call of a def of the text that has no cells -/
theorem Tr.fn {f : Addr} {vals : List Value} {U : Value → Led → Prop} {name qual : Str} {params : Arguments} {body : List Stmt} {scope : Scope} {dV kV doc pm cdv ct oc : Value} {an od : Option Addr} {osl : Array (Option Value)} {binds : List (Str × Value)}
    (hB : ∀ h, I.on h → Base w h) (hR : Rm A 1)
    (ho : (KK w).lookup f = some ⟨oc, od, .func (fnOf name qual params body scope dV kV doc pm an cdv ct), osl⟩) (hcd : codeIn (KK w) cdv qual = true)
    (hbind : bindArgs (fnOf name qual params body scope dV kV doc pm an cdv ct) ⟨vals, []⟩ = pure binds) (hloc : (binds.all fun x => decide (scope.names.lookup x.1 = some .local)) = true)
    (h : ∀ (s : Shared) (g : Heap) (L : Addr), I.on g → Base w g → Fr g L s.heap (lk binds.reverse) → News g L s.heap [] → 0 < s.toks →
      wpAny (MD w) (A.deeper (envOf qual scope L f cdv)) (execs body (envOf qual scope L f cdv)) (Ret g U s) NE s)
    (hcell : (scope.names.all fun x => x.2 != .cell) = true := by rfl) (hco : scope.isCoroutine = false := by rfl) (hgen : scope.isGenerator = false := by rfl) (hk : scope.kind = .function := by rfl) :
    Tr w A I (call (.ref f) vals) U := by
  refine .mk fun s Q hI ht k => wpAny_call ?_
  have B := hB _ hI
  obtain ⟨mean, mg, mb, T⟩ := B.T
  have hr : A.depth < recursionLimit := by have := hR.hd; omega
  refine codeAny_call_def hr (B.K _ _ ho) rfl T.nolimit (codeRec_of B.K hcd) rfl (BindsTo.of_eq hbind) (fun x hx => ?_) (locs hloc) (fun h₁ hns hk₁ => ?_) hco hgen hk
  · have := List.all_eq_true.mp hcell x hx
    simpa using this
  · have F : Fr s.heap s.heap.objs.size h₁ (lk binds.reverse) := ⟨hns, hk₁, Nat.le_refl _⟩
    refine wpAny_mono (h { s with heap := h₁, toks := s.toks + binds.length } s.heap s.heap.objs.size hI B F News.nil (by show 0 < s.toks + binds.length; omega)) (fun fl s' x => ?_) fun _ _ x => x.elim
    obtain ⟨v, nw, h', tk, rfl, rfl, st, n, hu⟩ := x
    exact k v nw h' tk st n hu
end
end Mine
end
section
open PySem PySem.W PyProof.Rows PySem.Calls
open PySem.Builtin PySem.Builtin.Str
set_option Elab.async false
set_option linter.unusedVariables false
namespace Mine
/-- values that are texts -/
def Strs (vs : List Value) (xs : List PySem.Str) : Prop := StrsAre vs xs
/-- a new list of these texts -/
def IsLS (xs : List PySem.Str) : Value → Led → Prop := fun v nw => ∃ a vs n, v = .ref a ∧ (a, Lo vs n) ∈ nw ∧ StrsAre vs xs

section
variable {w : World} {A : Around} {env : Env} {I : HP} {L : Addr}

/-- a method of a built-in type, by its arguments in a row -/
theorem Pu.meth {T id : String} {o e : Expr} {es : List Expr} {name : PySem.Str} {apos pos : Pos} {P : Value → Led → Prop} {V : List Value → Led → Prop} {U : Value → Led → Prop}
    (pa : PlainAttrs T) (slot : Slot T name id) (hty : typeOf (.builtin id) = pure (.type "method_descriptor")) (ho : Pu w A env I o P)
    (hT : ∀ v n, P v n → ∀ s : Shared, (I.and n).on s.heap → s.TypeIs v T ∧ ∀ a, v = .ref a → ∃ ob, s.heap.get? a = some ob ∧ ob.dict = none)
    (ha : PuL w A env I (e :: es) V)
    (hf : ∀ v n vs m, P v n → V vs m → Tr w A (I.and (m ++ n)) (call (.builtin id) (v :: vs)) (fun r nu => U r (nu ++ (m ++ n))))
    (hs : backTo pos (starEach (e :: es) env) = (e :: es).map fun e => (false, eval e env) := by rfl)
    (hbase : attributeBase o name env (eval o env) = eval o env := by rfl)
    (hfew : ((backTo pos (starEach (e :: es) env)).all (fun x => !x.1) && (backToKw pos (keywordEach [] env)).all (fun x => x.1.isSome)
      && decide ((e :: es).length + ([] : List Keyword).length + (if ([] : List Keyword).isEmpty then 0 else 1) < 30)) = true := by rfl)
    (hline : (apos.endLine == pos.line) = true := by rfl) : Pu w A env I (.Call (.Attribute o name apos) (e :: es) [] pos) U :=
  .mk fun s Q hI ht k => wpAny_Call_method_lateS hbase hfew hline (ho s _ hI ht fun v n1 h1 tk1 tp1 st1 i1 new1 hv => by
    have hTT := hT v n1 hv { s with heap := h1, toks := tk1 } ⟨i1, fun p hp => (new1 p hp).1⟩
    refine ⟨T, id, pa, slot, hty, hTT.1, hTT.2, ?_⟩
    rw [hs]
    refine Calls.callWith_builtin (by simp) (Calls.evalArgs_plain ?_)
    refine ha _ _ i1 tp1 fun vs n2 h2 tk2 tp2 st2 i2 new2 hvs => ?_
    have nn : New s.heap h2 (n2 ++ n1) := (New.earlier st1 new2).append (new1.later st2)
    refine hf v n1 vs n2 hv hvs _ _ ⟨i2, fun p hp => (nn p hp).1⟩ tp2 fun r nu h' tk tp st _ n hr => ?_
    exact k r _ h' tk (stays_trans (stays_trans st1 st2) st) ((New.earlier (stays_trans st1 st2) n).append (nn.later st)) hr)

theorem isStr_type {x : PySem.Str} (v : Value) (n : Led) (h : IsS x v n) (s : Shared) (_ : (I.and n).on s.heap) : s.TypeIs v "str" ∧ ∀ a, v = .ref a → ∃ ob, s.heap.get? a = some ob ∧ ob.dict = none := by
  obtain ⟨t, rfl⟩ := h
  exact ⟨typeIs_str _ _ _, fun _ e => nomatch e⟩

/-- a method of a text -/
theorem Pu.strm {id : String} {o e : Expr} {es : List Expr} {name : PySem.Str} {apos pos : Pos} {x : PySem.Str} {V : List Value → Led → Prop} {U : Value → Led → Prop}
    (slot : Slot "str" name id) (hty : typeOf (.builtin id) = pure (.type "method_descriptor")) (ho : Pu w A env I o (IsS x))
    (ha : PuL w A env I (e :: es) V)
    (hf : ∀ t n vs m, V vs m → Tr w A (I.and (m ++ n)) (call (.builtin id) (.str x t :: vs)) (fun r nu => U r (nu ++ (m ++ n))))
    (hs : backTo pos (starEach (e :: es) env) = (e :: es).map fun e => (false, eval e env) := by rfl)
    (hbase : attributeBase o name env (eval o env) = eval o env := by rfl)
    (hfew : ((backTo pos (starEach (e :: es) env)).all (fun x => !x.1) && (backToKw pos (keywordEach [] env)).all (fun x => x.1.isSome)
      && decide ((e :: es).length + ([] : List Keyword).length + (if ([] : List Keyword).isEmpty then 0 else 1) < 30)) = true := by rfl)
    (hline : (apos.endLine == pos.line) = true := by rfl) : Pu w A env I (.Call (.Attribute o name apos) (e :: es) [] pos) U :=
  .meth F.plainAttrs_str slot hty ho isStr_type ha (fun v n vs m hv hvs => by obtain ⟨t, rfl⟩ := hv; exact hf t n vs m hvs) hs hbase hfew hline

theorem LV1 {P : Value → Led → Prop} {vs : List Value} {m : Led} (h : LV [P] vs m) : ∃ a, vs = [a] ∧ Up P a m := let ⟨v, _, e, u, r⟩ := h; ⟨v, by rw [e, r], u⟩
theorem LV2 {P R : Value → Led → Prop} {vs : List Value} {m : Led} (h : LV [P, R] vs m) : ∃ a b, vs = [a, b] ∧ Up P a m ∧ Up R b m := by
  obtain ⟨v, r, e, u, h2⟩ := h; obtain ⟨b, e2, u2⟩ := LV1 h2; exact ⟨v, b, by rw [e, e2], u, u2⟩
theorem LV3 {P R S : Value → Led → Prop} {vs : List Value} {m : Led} (h : LV [P, R, S] vs m) : ∃ a b c, vs = [a, b, c] ∧ Up P a m ∧ Up R b m ∧ Up S c m := by
  obtain ⟨v, r, e, u, h2⟩ := h; obtain ⟨b, c, e2, u2, u3⟩ := LV2 h2; exact ⟨v, b, c, by rw [e, e2], u, u2, u3⟩
theorem Up.s {x : PySem.Str} {a : Value} {m : Led} (h : Up (IsS x) a m) : ∃ t, a = .str x t := let ⟨_, _, y⟩ := h; y
theorem Up.i {x : Int} {a : Value} {m : Led} (h : Up (IsI x) a m) : ∃ t, a = .int x t := let ⟨_, _, y⟩ := h; y
theorem Up.v {x : Value} {a : Value} {m : Led} (h : Up (IsV x) a m) : a = x := let ⟨_, _, y⟩ := h; y

theorem c_starts {x y : PySem.Str} {t : Tok} {vs : List Value} {m n : Led} (h : LV [IsS y] vs m) : Tr w A I (call (.builtin "str.startswith") (.str x t :: vs)) (fun r nu => IsB (Txt.startswith x y) r (nu ++ n)) := by
  obtain ⟨a, rfl, u⟩ := LV1 h; obtain ⟨q, rfl⟩ := u.s
  exact .mk fun _ _ _ _ k => SC.startswith (k _ [] _ _ (stays_refl _) .nil rfl)
theorem c_ends {x y : PySem.Str} {t : Tok} {vs : List Value} {m n : Led} (h : LV [IsS y] vs m) : Tr w A I (call (.builtin "str.endswith") (.str x t :: vs)) (fun r nu => IsB (Txt.endswith x y) r (nu ++ n)) := by
  obtain ⟨a, rfl, u⟩ := LV1 h; obtain ⟨q, rfl⟩ := u.s
  exact .mk fun _ _ _ _ k => SC.endswith (k _ [] _ _ (stays_refl _) .nil rfl)

/-- the first place of y in x from i to j, or -1 -/
def findIn4 (x y : PySem.Str) (i j : Int) : Int :=
  match occurrences x y (fromIndex x.length i) (min (fromIndex x.length j) x.length) 1 with | k :: _ => (k : Int) | [] => -1
theorem gives_find4 (x y : PySem.Str) (i j : Int) (t u v z : Tok) : Gives («str.find» ⟨[.str x t, .str y u, .int i v, .int j z], []⟩) (.int (findIn4 x y i j)) := by
  show Gives (match occurrences x y (fromIndex x.length i) (min (fromIndex x.length j) x.length) 1 with | k :: _ => retInt k | [] => (do rule "str.find.not-found"; retInt (-1))) _
  unfold findIn4
  cases occurrences x y (fromIndex x.length i) (min (fromIndex x.length j) x.length) 1 with
  | nil => exact .rule (.of_eq rfl)
  | cons k _ => exact .of_eq rfl
theorem c_find {x y : PySem.Str} {i j : Int} {t : Tok} {vs : List Value} {m n : Led} (h : LV [IsS y, IsI i, IsI j] vs m) : Tr w A I (call (.builtin "str.find") (.str x t :: vs)) (fun r nu => IsI (findIn4 x y i j) r (nu ++ n)) := by
  obtain ⟨a, b, c, rfl, u, u2, u3⟩ := LV3 h; obtain ⟨q, rfl⟩ := u.s; obtain ⟨q2, rfl⟩ := u2.i; obtain ⟨q3, rfl⟩ := u3.i
  exact .mk fun _ _ _ _ k => call_gives F.slot_str_find (typeIs_str _ _ _) F.entry_str_find (F.args_str_find_4 _ _ _ _) (gives_find4 x y i j t q q2 q3) (k _ [] _ _ (stays_refl _) .nil ⟨_, rfl⟩)

theorem c_split {x y : PySem.Str} {t : Tok} {vs : List Value} {m n : Led} (hy : (y.length == 0) = false) (hz : x.length + 2 ≤ sizeLine) (h : LV [IsS y] vs m) :
    Tr w A I (call (.builtin "str.split") (.str x t :: vs)) (fun r nu => IsLS (Txt.split x y) r (nu ++ n)) := by
  obtain ⟨a, rfl, u⟩ := LV1 h; obtain ⟨q, rfl⟩ := u.s
  have hn : (partsBetween x (occurrences x y 0 x.length (x.length + 1)) y.length).length ≤ sizeLine := by
    have e1 := StrLaws.occ_length_le x y 0 x.length (x.length + 1)
    rw [length_partsBetween]; omega
  refine .mk fun s Q _ _ k => ?_
  have fin : ∀ (l : List (PySem.Str × Tok)) tk, l.map (·.1) = Txt.split x y → Q (.ref s.heap.objs.size) { s with heap := s.heap.push (Lo (strValues l) 0), toks := tk } := fun l tk e =>
    k _ [(s.heap.objs.size, Lo (strValues l) 0)] _ tk (stays_push _ _) (.one (Heap.get?_push_size _ rfl) (size_none _ (Nat.le_refl _))) ⟨_, _, 0, rfl, by simp, e ▸ strsAre_of_values l⟩
  cases h1 : (decide (x.length < y.length) || decide (strKind x < strKind y))
  · cases hf : (occurrences x y 0 x.length (x.length + 1)).isEmpty
    · refine call_meets F.slot_str_split (typeIs_str _ _ _) F.entry_str_split (F.args_str_split_2 _ _) (meets_str_split_sep x y t q h1 hy hf (by omega) hn) ?_
      show wants Q NE _ { s with toks := s.toks + _, heap := s.heap.push (Lo (strsFrom s.toks (partsBetween x (occurrences x y 0 x.length (x.length + 1)) y.length)) 0) }
      rw [strsFrom_eq]
      exact fin (numbered s.toks _) _ ((numbered_texts _ _).trans ((if_neg (ne_true_of_eq_false h1)).trans (if_neg (ne_true_of_eq_false hf))).symm)
    · exact call_meets F.slot_str_split (typeIs_str _ _ _) F.entry_str_split (F.args_str_split_2 _ _) (meets_str_split_not_found x y t q h1 hy hf)
        (fin [(x, t)] s.toks ((if_neg (ne_true_of_eq_false h1)).trans (if_pos hf)).symm)
  · exact call_meets F.slot_str_split (typeIs_str _ _ _) F.entry_str_split (F.args_str_split_2 _ _) (meets_str_split_cannot_occur x y t q h1)
      (fin [(x, t)] s.toks (if_pos h1).symm)
end
end Mine
end
section
open PySem PySem.W PyProof.Rows PySem.Calls
open PySem.Builtin PySem.Builtin.Str
set_option Elab.async false
set_option linter.unusedVariables false
namespace Mine
section
variable {w : World} {A : Around} {env : Env} {I : HP} {L : Addr}

theorem Pu.sub {value slice : Expr} {p : Pos} {P R U : Value → Led → Prop} (ho : Pu w A env I value P) (hi : Pu w A env I slice R)
    (hf : ∀ a b n1 n2, P a n1 → R b n2 → Tr w A (I.and (n2 ++ n1)) (subscriptTail value slice a b) (fun v nu => U v (nu ++ (n2 ++ n1)))) : Pu w A env I (.Subscript value slice p) U :=
  .mk fun _ _ hI ht k => Subscript_ (Tr.two ho hi hf hI ht k)

abbrev Plain (slice : Expr) : Prop := ∀ o i, subscripted slice false o i = operate [o, i] (getItem o i)

theorem t_list {value slice : Expr} {a : Addr} {vs : List Value} {i : Int} {t : Tok} {v : Value} (hl : ∀ h, I.on h → h.IsList a vs.toArray) (h0 : 0 ≤ i) (hx : vs[i.toNat]? = some v) (hz : i < 2 ^ 63) (hs : Plain slice) :
    Tr w A I (subscriptTail value slice (.ref a) (.int i t)) (fun u _ => u = v) :=
  .mk fun s Q hI _ k => tail_any (hl _ hI).typeIs slot_list_getitem.lookup (wpAny_getItem_list (hl _ hI) h0 hz (by simpa using hx) (k v [] _ _ (stays_refl _) .nil rfl)) (hs _ _)
theorem t_listNeg {value slice : Expr} {a : Addr} {vs : List Value} {i : Int} {t : Tok} {v : Value} (hl : ∀ h, I.on h → h.IsList a vs.toArray) (h0 : i < 0) (h1 : -(vs.length : Int) ≤ i) (hx : vs[(i + vs.length).toNat]? = some v) (hz : -(2 ^ 63) ≤ i) (hs : Plain slice) :
    Tr w A I (subscriptTail value slice (.ref a) (.int i t)) (fun u _ => u = v) :=
  .mk fun s Q hI _ k => tail_any (hl _ hI).typeIs slot_list_getitem.lookup (wpAny_getItem_list_neg (hl _ hI) h0 (by simpa using h1) hz (by simpa using hx) (k v [] _ _ (stays_refl _) .nil rfl)) (hs _ _)
theorem t_str {value slice : Expr} {x : PySem.Str} {i : Int} {t u : Tok} (hi : fitsSsize i = true) (hx : (Txt.charAt x i).isSome = true) (hs : Plain slice) :
    Tr w A I (subscriptTail value slice (.str x u) (.int i t)) (IsS (Txt.item x i)) :=
  .mk fun s Q hI _ k => tail_any (typeIs_str _ _ _) F.slot_str_getitem.lookup (SB.getItem hi hx (k _ [] _ _ (stays_refl _) .nil ⟨_, rfl⟩)) (hs _ _)

/-- xs[i] of a list that stands -/
theorem Pu.item {value slice : Expr} {p : Pos} {a : Addr} {vs : List Value} {i : Int} {v : Value} (ho : Pu w A env I value (IsV (.ref a))) (hl : ∀ h, I.on h → h.IsList a vs.toArray) (hi : Pu w A env I slice (IsI i)) (h0 : 0 ≤ i)
    (hx : vs[i.toNat]? = some v) (hz : i < 2 ^ 63 := by decide) (hs : Plain slice := by intro _ _; rfl) : Pu w A env I (.Subscript value slice p) (IsV v) :=
  .sub ho hi fun a' b n1 n2 ha hb => by
    cases ha; obtain ⟨t, rfl⟩ := hb
    exact t_list (fun h x => hl h x.1) h0 hx hz hs
theorem Pu.itemNeg {value slice : Expr} {p : Pos} {a : Addr} {vs : List Value} {i : Int} {v : Value} (ho : Pu w A env I value (IsV (.ref a))) (hl : ∀ h, I.on h → h.IsList a vs.toArray) (hi : Pu w A env I slice (IsI i)) (h0 : i < 0)
    (h1 : -(vs.length : Int) ≤ i) (hx : vs[(i + vs.length).toNat]? = some v) (hz : -(2 ^ 63) ≤ i := by decide) (hs : Plain slice := by intro _ _; rfl) : Pu w A env I (.Subscript value slice p) (IsV v) :=
  .sub ho hi fun a' b n1 n2 ha hb => by
    cases ha; obtain ⟨t, rfl⟩ := hb
    exact t_listNeg (fun h x => hl h x.1) h0 h1 hx hz hs

theorem Pu.neg {e : Expr} {p : Pos} {i : Int} (h : Pu w A env I e (IsI i)) : Pu w A env I (.UnaryOp .USub e p) (IsI (-i)) :=
  .mk fun s Q hI ht k => wpAny_UnaryOp (Tr.one (f := fun v => unaryOp .USub v) (U := IsI (-i)) h (fun a n1 ha => by
    obtain ⟨t, rfl⟩ := ha
    exact .mk fun _ _ _ _ k => PyProof.Rows.neg_int (k _ [] _ _ (stays_refl _) .nil ⟨_, rfl⟩)) hI ht k)

-- len
theorem c_lenS {x : PySem.Str} {vs : List Value} {m n : Led} (hz : (x.length : Int) < 2 ^ 63) (h : LV [IsS x] vs m) : Tr w A I (call (.builtin "len") vs) (fun r nu => IsI x.length r (nu ++ n)) := by
  obtain ⟨a, rfl, u⟩ := LV1 h; obtain ⟨q, rfl⟩ := u.s
  exact .mk fun _ _ _ _ k => P.len_str (by omega) (k _ [] _ _ (stays_refl _) .nil ⟨_, rfl⟩)
theorem c_lenL {a : Addr} {xs vs : List Value} {m n : Led} (hl : ∀ h, I.on h → h.IsList a xs.toArray) (hz : (xs.length : Int) < 2 ^ 63) (h : LV [IsV (.ref a)] vs m) : Tr w A (I.and m) (call (.builtin "len") vs) (fun r nu => IsI xs.length r (nu ++ n)) := by
  obtain ⟨b, rfl, u⟩ := LV1 h; obtain rfl := u.v
  have e : (xs.length : Int) = ((xs.toArray.size : Nat) : Int) := by rw [List.size_toArray]
  rw [e]
  exact .mk fun _ _ hI _ k => call_len_list (hl _ hI.1) (by simpa using hz) (k _ [] _ _ (stays_refl _) .nil ⟨_, rfl⟩)

-- displays
theorem Pu.list {es : List Expr} {p : Pos} {V : List Value → Led → Prop} {U : Value → Led → Prop} (ha : PuL w A env I es V) (hV : ∀ vs m, V vs m → vs.length ≤ sizeLine)
    (hU : ∀ vs m a, V vs m → U (.ref a) ((a, Lo vs 0) :: m)) (hs : backTo p (starEach es env) = es.map fun e => (false, eval e env) := by rfl) : Pu w A env I (.List es p) U :=
  .mk fun s Q hI ht k => List_ (by
    rw [hs]
    refine ha s _ hI ht fun vs m h1 tk1 tp1 st1 i1 new1 hv => ?_
    refine wpAny_newList ?_ (hV vs m hv)
    refine k _ _ _ _ (stays_trans st1 (stays_push _ _)) ?_ (hU vs m _ hv)
    intro q hq
    rcases List.mem_cons.mp hq with rfl | hq
    · exact ⟨Heap.get?_push_size _ rfl, get_none_back st1 (size_none _ (Nat.le_refl _))⟩
    · exact ⟨Heap.get?_push_of_some _ (new1 q hq).1, (new1 q hq).2⟩)
theorem Pu.tuple {es : List Expr} {k' : Nat} {p : Pos} {V : List Value → Led → Prop} {U : Value → Led → Prop} (ha : PuL w A env I es V) (hV : ∀ vs m, V vs m → vs.length ≤ sizeLine)
    (hU : ∀ vs m a, V vs m → U (.ref a) ((a, To vs) :: m)) (hs : backTo p (starEach es env) = es.map fun e => (false, eval e env) := by rfl) : Pu w A env I (.Tuple es k' p) U :=
  .mk fun s Q hI ht k => Tuple_ (by
    rw [hs]
    refine ha s _ hI ht fun vs m h1 tk1 tp1 st1 i1 new1 hv => ?_
    refine wpAny_newObj_type ?_ (by show vs.toArray.size ≤ sizeLine; rw [List.size_toArray]; exact hV vs m hv)
    refine k _ _ _ _ (stays_trans st1 (stays_push _ _)) ?_ (hU vs m _ hv)
    intro q hq
    rcases List.mem_cons.mp hq with rfl | hq
    · exact ⟨Heap.get?_push_size _ rfl, get_none_back st1 (size_none _ (Nat.le_refl _))⟩
    · exact ⟨Heap.get?_push_of_some _ (new1 q hq).1, (new1 q hq).2⟩)
end
end Mine
end
section
open PySem PySem.W PyProof.Rows PySem.Calls
open PySem.Builtin PySem.Builtin.Str
set_option Elab.async false
set_option linter.unusedVariables false
namespace Mine
theorem stays_ext {h h' : Heap} (x : Heap.ExtBut h.objs.size h h') : h.StaysIn h' := fun b o e => x b o (Nat.ne_of_lt (Heap.lt_size e)) e
section
variable {w : World} {A : Around} {env : Env} {g : Heap} {L : Addr} {news : Led}

theorem assign_names (hE : EnvOk env L) {Q : Unit → Shared → Prop} : ∀ (ns : List PySem.Str) (vs : List Value) (l : List (PySem.Str × Value)) (s : Shared), ns.length = vs.length → (∀ n ∈ ns, env.kindOf n = some .local) →
    Fr g L s.heap (lk l) → News g L s.heap news → 0 < s.toks →
    (∀ h' tk, 0 < tk → Fr g L h' (lk ((ns.zip vs).reverse ++ l)) → News g L h' news → Q () { s with heap := h', toks := tk }) → wpAny (MD w) A (assignInOrder (ns.map fun n => bindName env n) vs) Q NE s
  | [], vs, l, s, _, _, F, N, ht, k => by
    show wpAny (MD w) A (assignInOrder [] vs) Q NE s
    unfold assignInOrder
    exact wpAny_pure (k s.heap s.toks ht F N)
  | n :: ns, [], l, s, e, _, F, N, ht, k => by cases e
  | n :: ns, v :: vs, l, s, e, hk, F, N, ht, k => by
    show wpAny (MD w) A (do holding vs (bindName env n v); assignInOrder (ns.map fun n => bindName env n) vs) Q NE s
    refine wpAny_bind (wpAny_holding ?_)
    unfold bindName
    refine wpAny_bind (wpAny_holding (wpAny_point (wpAny_bind ?_)))
    refine wpAny_storeName_local (hk n (.head _)) (hE.loc ▸ F.ns) (fun h2 hn2 hs2 => ?_) (by rw [hE.kind]; rfl)
    rw [hE.loc] at hn2 hs2
    rw [lk_cons] at hn2
    refine wpAny_point ?_
    refine assign_names hE ns vs ((n, v) :: l) { s with heap := h2, toks := s.toks + 1 } (by simpa using e) (fun m hm => hk m (.tail _ hm)) (F.set hn2 hs2) (News.set N hs2) (Nat.succ_pos _) fun h' tk tp F' N' => ?_
    refine k h' tk tp ?_ N'
    simpa using F'

variable {s : Shared} {Q : Flow → Shared → Prop} {rest : List Stmt} {l : List (PySem.Str × Value)}
theorem st_tuple {elts es : List Expr} {k1 k2 : Nat} {p1 p2 p3 : Pos} {names : List PySem.Str} {V : List Value → Led → Prop} (hh : A.handled = none) (hE : EnvOk env L) (hp : PuL w A env (FR g L l news) es V)
    (hV : ∀ vs m, V vs m → vs.length = names.length) (hsz : names.length ≤ sizeLine) (hk : ∀ n ∈ names.reverse, env.kindOf n = some .local) (F : Fr g L s.heap (lk l)) (N : News g L s.heap news) (ht : 0 < s.toks)
    (k : ∀ vs m h' tk, 0 < tk → V vs m → Fr g L h' (lk ((names.reverse.zip vs.reverse).reverse ++ l)) → News g L h' (m ++ news) → wpAny (MD w) A (execs rest env) Q NE { s with heap := h', toks := tk })
    (hs : swapsWithSole [.Tuple elts k1 p1] (.Tuple es k2 p2) p3.line env = pure false := by rfl) (hw : swappedStores [.Tuple elts k1 p1] (.Tuple es k2 p2) env = pure (some names) := by rfl)
    (hb : backTo p2 (starEach es env) = es.map fun e => (false, eval e env) := by rfl) :
    wpAny (MD w) A (execs (.Assign [.Tuple elts k1 p1] (.Tuple es k2 p2) p3 :: rest) env) Q NE s := by
  refine wpAny_execs_cons (Assign_Tuple_swapped ?_ hs hw)
  have ht' : Pu w A env (FR g L l news) (.Tuple es k2 p2) (fun v nw => ∃ vs m, V vs m ∧ ∃ a, v = .ref a ∧ nw = (a, To vs) :: m) :=
    .tuple hp (fun vs m hv => by rw [hV vs m hv]; exact hsz) (fun vs m a hv => ⟨vs, m, hv, a, rfl, rfl⟩) hb
  refine ht' s _ ⟨F, N⟩ ht fun v nw h1 tk1 tp1 st1 i1 n1 hv => ?_
  obtain ⟨vs, m, hvs, a, rfl, rfl⟩ := hv
  have hT : IsTup h1 a vs.toArray := ⟨_, (n1 _ (.head _)).1, rfl, _, rfl⟩
  have hn : names.length = vs.toArray.size := by rw [List.size_toArray]; exact (hV vs m hvs).symm
  rw [hn]
  refine unpackItems_tuple hh hT fun h2 he => ?_
  have st2 := stays_ext he
  have N2 : News g L h2 (m ++ news) := news_stays (news_new F N st1 fun p hp => n1 p (.tail _ hp)) st2
  have e : vs.toArray.toList = vs := by simp
  rw [e]
  refine assign_names hE names.reverse vs.reverse l _ (by simp [hV vs m hvs]) hk (fr_stays i1.1 st2) N2 tp1 fun h' tk tp F' N' => ?_
  exact k vs m h' tk tp hvs F' N'

/-- an expression alone -/
theorem st_expr {e : Expr} {p : Pos} {V : Value → Led → Prop} (hp : Pu w A env (FR g L l news) e V) (F : Fr g L s.heap (lk l)) (N : News g L s.heap news) (ht : 0 < s.toks) (k : True) : True := trivial

theorem st_assert {t : Expr} {msg : Option Expr} {p : Pos} (hp : Te w A env (FR g L l news) t true) (F : Fr g L s.heap (lk l)) (N : News g L s.heap news) (ht : 0 < s.toks)
    (k : ∀ h' tk, 0 < tk → Fr g L h' (lk l) → News g L h' news → wpAny (MD w) A (execs rest env) Q NE { s with heap := h', toks := tk }) : wpAny (MD w) A (execs (.Assert t msg p :: rest) env) Q NE s :=
  wpAny_execs_cons (wpAny_Assert_holds (hp s _ ⟨F, N⟩ ht fun v nw h1 tk1 tp1 st1 i1 n1 hv => by
    cases hv
    exact ⟨rfl, k h1 tk1 tp1 i1.1 i1.2⟩))

/-- one object of the ledger replaced -/
def setL (d : Addr) (o : Obj) (N : Led) : Led := N.map fun p => if p.1 = d then (d, o) else p
theorem news_upd' {h h' : Heap} {N : Led} {d : Addr} {o o' : Obj} {m : PySem.Str → Option Value} (F : Fr g L h m) (hN : News g L h N) (hm : (d, o) ∈ N) (hs : Heap.SameBut d h h') (e : h'.get? d = some o') : Fr g L h' m ∧ News g L h' (setL d o' N) := by
  have hd := hN _ hm
  obtain ⟨oL, a1, a2, hL, a3⟩ := F.ns
  refine ⟨⟨⟨oL, a1, a2, (hs.2 _ (Ne.symm hd.2.1)).trans hL, a3⟩, fun b x q => (hs.2 b fun z => ?_).trans (F.keep b x q), F.above⟩, fun p hp => ?_⟩
  · rw [z, hd.2.2] at q; cases q
  · obtain ⟨q, hq, rfl⟩ := List.mem_map.mp hp
    by_cases hqd : q.1 = d
    · rw [if_pos hqd]; exact ⟨e, hd.2⟩
    · rw [if_neg hqd]; exact ⟨(hs.2 _ hqd).trans (hN q hq).1, (hN q hq).2⟩
theorem setL_cons_self {d : Addr} {o o' : Obj} {N : Led} : setL d o' ((d, o) :: N) = (d, o') :: setL d o' N := by simp [setL]
theorem setL_off {d : Addr} {o' : Obj} {N : Led} (h : ∀ p ∈ N, p.1 ≠ d) : setL d o' N = N := by
  unfold setL
  conv => rhs; rw [← List.map_id N]
  refine List.map_congr_left fun p hp => ?_
  simp [h p hp]

/-- del xs[i] of a list that the ledger bears -/
theorem st_del {value slice : Expr} {sp p : Pos} {a : Addr} {vs : List Value} {n : Nat} {i : Int} {j : Nat} (ho : Pu w A env (FR g L l news) value (IsV (.ref a))) (hi : Pu w A env (FR g L l news) slice (IsI i))
    (hm : (a, Lo vs n) ∈ news) (hfit : Builtin.List.listFitsIndex i = true) (hj : seqIndex? i vs.length = some j) (hz : vs.length ≤ sizeLine) (F : Fr g L s.heap (lk l)) (N : News g L s.heap news) (ht : 0 < s.toks)
    (k : ∀ h' tk, 0 < tk → Fr g L h' (lk l) → News g L h' (setL a (Lo (vs.eraseIdx j) (n + 1)) news) → wpAny (MD w) A (execs rest env) Q NE { s with heap := h', toks := tk }) :
    wpAny (MD w) A (execs (.Delete [.Subscript value slice sp] p :: rest) env) Q NE s := by
  refine wpAny_execs_cons (wpAny_Delete ?_)
  show wpAny (MD w) A (do delete (.Subscript value slice sp) env; deleteEach [] env) _ NE s
  refine wpAny_bind ?_
  show wpAny (MD w) A (do let ov ← eval value env; let iv ← holding [ov] (eval slice env); standAt sp; holding [ov, iv] (delItem ov iv); release [ov, iv] []) _ NE s
  refine wpAny_bind (ho s _ ⟨F, N⟩ ht fun v n1 h1 tk1 tp1 st1 i1 new1 hv => ?_)
  cases hv
  refine wpAny_bind (wpAny_holding (hi _ _ i1 tp1 fun v2 n2 h2 tk2 tp2 st2 i2 new2 hv2 => ?_))
  obtain ⟨t, rfl⟩ := hv2
  refine wpAny_bind (wpAny_standAt (wpAny_bind (wpAny_holding ?_)))
  refine delItem_at (i2.2 _ hm).1 hfit (by simpa using hj) (fun h3 hs3 e3 => ?_) (by simpa using hz)
  obtain ⟨F3, N3⟩ := news_upd' i2.1 i2.2 hm hs3 e3
  refine wpAny_release (wpAny_pure ?_)
  exact k h3 tk2 tp2 F3 N3
end
end Mine
end
section
open PySem PySem.W PyProof.Rows PySem.Calls
open PySem.Builtin PySem.Builtin.Str
set_option Elab.async false
set_option linter.unusedVariables false
namespace Mine

/-- the end of a loop's turn -/
def LE (g : Heap) (L : Addr) (own news₁ : Led) (J : List (PySem.Str × Value) → Led → Prop) (s₁ : Shared) (Q : Value → Shared → Prop) (f : Flow) (s₂ : Shared) : Prop :=
  match f with
  | .ret v => Q v s₂
  | .next => ∃ h' tk l₂ news₂, s₂ = { s₁ with heap := h', toks := tk } ∧ 0 < tk ∧ Fr g L h' (lk l₂) ∧ News g L h' (own ++ news₂) ∧ (∀ p ∈ news₂, p.1 ∈ news₁.map (·.1) ∨ s₁.heap.get? p.1 = none ∨ ∀ q ∈ own, p.1 ≠ q.1) ∧ J l₂ news₂
  | _ => False
theorem LE.next {g h' : Heap} {L : Addr} {own news₁ news₂ : Led} {J : List (PySem.Str × Value) → Led → Prop} {s₁ : Shared} {Q : Value → Shared → Prop} {tk : Nat} {l₂ : List (PySem.Str × Value)} (ht : 0 < tk) (F : Fr g L h' (lk l₂)) (N : News g L h' (own ++ news₂))
    (hn : ∀ p ∈ news₂, p.1 ∈ news₁.map (·.1) ∨ s₁.heap.get? p.1 = none ∨ ∀ q ∈ own, p.1 ≠ q.1) (hJ : J l₂ news₂) : LE g L own news₁ J s₁ Q .next { s₁ with heap := h', toks := tk } := ⟨h', tk, l₂, news₂, rfl, ht, F, N, hn, hJ⟩

section
variable {w : World} {A : Around} {env : Env} {g : Heap} {L : Addr} {s : Shared} {rest : List Stmt}

theorem for_core {R : Result → Shared → Prop} {x : PySem.Str} {px : Pos} {body : List Stmt} {I : Addr} {fp wr : List Addr} {n : Nat} {P : Nat → Value → Prop} {St : Nat → Heap → Prop} {l : List (PySem.Str × Value)} {news : Led}
    (hE : EnvOk env L) (hx : env.kindOf x = some .local) (W : Walks PR w A I fp wr n P St) (hLf : L ∉ fp) (hwr : ∀ b ∈ wr, g.get? b = none) (hnw : ∀ p ∈ news, p.1 ∉ wr) (hst : St 0 s.heap)
    (hlive : ∀ i h, St i h → ∀ b ∈ wr, ∃ o, h.get? b = some o) (F : Fr g L s.heap (lk l)) (N : News g L s.heap news) (ht : 0 < s.toks)
    (J : Nat → List (PySem.Str × Value) → Led → Prop) (h0 : J 0 l news)
    (step : ∀ i v l₁ news₁ own s₁, i < n → P i v → J i l₁ news₁ → (∀ p ∈ own, p.1 ∈ fp) → (∀ p ∈ news₁, p.1 ∉ wr) → Fr g L s₁.heap (lk ((x, v) :: l₁)) → News g L s₁.heap (own ++ news₁) → 0 < s₁.toks → (∃ h tk, s₁ = { s with heap := h, toks := tk }) → St (i + 1) s₁.heap →
      wpAny (MD w) A (execs body env) (LE g L own news₁ (J (i + 1)) s₁ fun v s' => R (.ok (.ret v)) s') NE s₁)
    (hR : ∀ h' tk l' news', 0 < tk → Fr g L h' (lk l') → News g L h' news' → J n l' news' → R (.ok .next) { s with heap := h', toks := tk }) :
    codeAny (MD w) A (.forLoop (.Name x px) (.ref I) body [] env) R s := by
  have hLw : L ∉ wr := fun h => hLf (W.sub _ h)
  have old : ∀ b o, g.get? b = some o → b ∉ wr := fun b o e hb => by rw [hwr b hb] at e; cases e
  have hp : (env.scope.kind == .class || (env.scope.kind == .module && env.locals != env.globals)) = false := by rw [hE.kind]; rfl
  refine codeAny_forLoop
    (fun k s' => ∃ h' tk l' news' i, s' = { s with heap := h', toks := tk } ∧ 0 < tk ∧ St i h' ∧ Fr g L h' (lk l') ∧ News g L h' news' ∧ (∀ p ∈ news', p.1 ∉ wr) ∧ J i l' news' ∧ i ≤ n ∧ k = n + 1 - i) ?_ (n + 1)
    ⟨s.heap, s.toks, l, news, 0, rfl, ht, hst, F, N, hnw, h0, Nat.zero_le _, rfl⟩
  rintro k s' ⟨h', tk, l', news', i, rfl, tp, hst', F', N', hnw', hJ, hi, rfl⟩
  have next : ∀ h₁ : Heap, (∀ b o, b ∉ wr → h'.get? b = some o → h₁.get? b = some o) → Fr g L h₁ (lk l') ∧ News g L h₁ news' := fun h₁ hk₁ =>
    ⟨⟨F'.ns.at' fun o e => hk₁ _ o hLw e, fun b o e => hk₁ b o (old b o e) (F'.keep b o e), F'.above⟩, fun p hp => ⟨hk₁ _ _ (hnw' p hp) (N' p hp).1, (N' p hp).2⟩⟩
  by_cases hlt : i < n
  · refine wpAny_with_toks (n := 1) tp (W.item i _ _ _ hlt hst' fun v h₁ tk₁ hP hst₁ hk₁ tp₁ => ?_)
    obtain ⟨F₁, N₁⟩ := next h₁ hk₁
    refine wpAny_assign_Name (wpAny_storeName_local hx (hE.loc ▸ F₁.ns) (fun h₂ hn₂ hs₂ => ?_) hp)
    rw [hE.loc] at hn₂ hs₂
    rw [lk_cons] at hn₂
    have F₂ := F₁.set hn₂ hs₂
    have Nown : News g L h₂ (ownOf g fp h₂) := news_ownOf hLf
    have hst₂ : St (i + 1) h₂ := W.frame _ _ _ hst₁ fun b hb o e => (hs₂.2 b fun q => hLf (q ▸ hb)).trans e
    refine wpAny_mono (step i v l' news' (ownOf g fp h₂) { s with heap := h₂, toks := tk₁ + 1 } hlt hP hJ ownOf_sub hnw' F₂ (Nown.append (N₁.set hs₂)) (Nat.succ_pos _) ⟨_, _, rfl⟩ hst₂) (fun f s₃ h₃ => ?_) fun _ _ e => e.elim
    cases f with
    | ret v => exact h₃
    | brk => exact h₃.elim
    | cont => exact h₃.elim
    | next =>
      obtain ⟨h₃', tk₃, l₂, news₂, rfl, tp₃, F₃, N₃, ha₃, hJ₃⟩ := h₃
      refine ⟨n + 1 - (i + 1), by omega, h₃', tk₃, l₂, news₂, i + 1, rfl, tp₃, ?_, F₃, N₃.right, ?_, hJ₃, hlt, rfl⟩
      · refine W.frame _ _ _ hst₁ fun b hb o e => ?_
        have e₂ : h₂.get? b = some o := (hs₂.2 b fun q => hLf (q ▸ hb)).trans e
        cases hn : g.get? b with
        | some o₀ =>
          have : o₀ = o := by have := F₂.keep b o₀ hn; rw [e₂] at this; exact (Option.some.inj this).symm
          exact this ▸ F₃.keep b o₀ hn
        | none => exact (N₃ _ (List.mem_append_left _ (mem_ownOf hb hn e₂))).1
      · intro p hp hb
        rcases ha₃ p hp with q | q | q
        · obtain ⟨p', hp', e⟩ := List.mem_map.mp q
          exact hnw' p' hp' (e ▸ hb)
        rotate_left
        · obtain ⟨o, ho⟩ := hlive _ _ hst₂ _ hb
          exact q _ (mem_ownOf (W.sub _ hb) (hwr _ hb) ho) rfl
        · obtain ⟨o, ho⟩ := hlive _ _ hst₂ _ hb
          rw [show ({ s with heap := h₂, toks := tk₁ + 1 } : Shared).heap = h₂ from rfl, ho] at q
          cases q
  · have hin : i = n := by omega
    subst hin
    refine wpAny_with_toks (n := 1) tp (W.done _ _ _ hst' fun h₁ tk₁ hk₁ tp₁ => wpAny_execs_nil ?_)
    obtain ⟨F₁, N₁⟩ := next h₁ hk₁
    exact hR h₁ tk₁ l' news' tp₁ F₁ N₁ hJ

/-- for x in e, over anything that walks -/
theorem st_for {x : PySem.Str} {px p : Pos} {iter : Expr} {body : List Stmt} {l : List (PySem.Str × Value)} {news : Led} {V : Value → Led → Prop} {Q : Flow → Shared → Prop} (hE : EnvOk env L) (hx : env.kindOf x = some .local)
    (hp : Pu w A env (FR g L l news) iter V) (F : Fr g L s.heap (lk l)) (N : News g L s.heap news) (ht : 0 < s.toks)
    (hit : ∀ v nw h1 tk1, 0 < tk1 → V v nw → s.heap.StaysIn h1 → Fr g L h1 (lk l) → News g L h1 (nw ++ news) → New s.heap h1 nw →
      wpAny (MD w) A (pyIter v) (fun it s₂ => ∃ I, it = .ref I ∧ codeAny (MD w) A (.forLoop (.Name x px) (.ref I) body [] env)
        (fun r s' => match r with | .ok .next => wpAny (MD w) A (execs rest env) Q NE s' | .ok f => Q f s' | .error _ => False) s₂) NE { s with heap := h1, toks := tk1 })
    (hs : ∀ x, foldedSetIterable iter env x = pure x := by intro _; rfl) :
    wpAny (MD w) A (execs (.For (.Name x px) iter body [] p :: rest) env) Q NE s := by
  refine wpAny_execs_cons (wpAny_For (hp s _ ⟨F, N⟩ ht fun v nw h1 tk1 tp1 st1 i1 n1 hv => ?_) hs)
  refine wpAny_mono (hit v nw h1 tk1 tp1 hv st1 i1.1 (news_new F N st1 n1) n1) (fun it s₂ h₂ => ?_) fun _ _ e => e
  obtain ⟨I, rfl, hc⟩ := h₂
  refine codeAny_mono hc fun r s' hr => ?_
  cases r with
  | error e => exact hr.elim
  | ok f => cases f <;> exact hr

/-- a list that stands, item by item -/
theorem it_list {x : PySem.Str} {px : Pos} {body : List Stmt} {l : List (PySem.Str × Value)} {news : Led} {a : Addr} {vs : List Value} {R : Result → Shared → Prop} (hh : A.handled = none) (hE : EnvOk env L) (hx : env.kindOf x = some .local)
    (hl : s.heap.IsList a vs.toArray) (haL : a ≠ L) (F : Fr g L s.heap (lk l)) (N : News g L s.heap news) (ht : 0 < s.toks)
    (J : Nat → List (PySem.Str × Value) → Led → Prop) (h0 : J 0 l news)
    (step : ∀ i v l₁ news₁ own s₁, vs[i]? = some v → J i l₁ news₁ → (∀ p ∈ own, p.1 = a ∨ p.1 = s.heap.objs.size) → (∀ p ∈ news₁, p.1 ≠ s.heap.objs.size) → Fr g L s₁.heap (lk ((x, v) :: l₁)) → News g L s₁.heap (own ++ news₁) → 0 < s₁.toks → (∃ h tk, s₁ = { s with heap := h, toks := tk }) →
      wpAny (MD w) A (execs body env) (LE g L own news₁ (J (i + 1)) s₁ fun v s' => R (.ok (.ret v)) s') NE s₁)
    (hR : ∀ h' tk l' news', 0 < tk → Fr g L h' (lk l') → News g L h' news' → J vs.length l' news' → R (.ok .next) { s with heap := h', toks := tk }) :
    wpAny (MD w) A (pyIter (.ref a)) (fun it s₂ => ∃ I, it = .ref I ∧ codeAny (MD w) A (.forLoop (.Name x px) (.ref I) body [] env) R s₂) NE s := by
  have hlt : a < s.heap.objs.size := by obtain ⟨o, ho, _⟩ := hl; exact Heap.lt_size ho
  have hne : a ≠ s.heap.objs.size := Nat.ne_of_lt hlt
  have hLlt : L < s.heap.objs.size := F.ns.lt
  refine wpAny_pyIter_list hl ?_
  have W := Walks.list (prog := PR) (w := w) hh s.heap.objs.size a hne vs.toArray
  have st0 := stays_push s.heap { cls := .type "list_iterator", data := .fields #[.ref a, .int 0 0] }
  refine ⟨_, rfl, for_core hE hx W ?_ ?_ ?_ ⟨⟨_, Heap.get?_push_size _ rfl, rfl, rfl⟩, hl.at fun o e => Heap.get?_push_of_some _ e⟩ ?_ (F.push _) (fun p hp => ⟨Heap.get?_push_of_some _ (N p hp).1, (N p hp).2⟩) ht J h0 ?_ ?_⟩
  · intro hm
    rcases List.mem_cons.mp hm with e | hm
    · exact absurd hLlt (e ▸ Nat.lt_irrefl _)
    · exact haL (List.mem_singleton.mp hm).symm
  · intro b hb
    rw [List.mem_singleton.mp hb]
    exact get_none_back F.keep (size_none _ (Nat.le_refl _))
  · intro p hp hI
    exact absurd (Heap.lt_size (N p hp).1) ((List.mem_singleton.mp hI) ▸ Nat.lt_irrefl _)
  · rintro i h ⟨⟨o, ho, _⟩, _⟩ b hb
    rw [List.mem_singleton.mp hb]; exact ⟨o, ho⟩
  · intro i v l₁ news₁ own s₁ hi hP hJ hown hnw F₁ N₁ ht₁ hs₁ _
    refine step i v l₁ news₁ own s₁ (by simpa using hP) hJ (fun p hp => ?_) (fun p hp e => hnw p hp (List.mem_singleton.mpr e)) F₁ N₁ ht₁ (by obtain ⟨h, tk, e⟩ := hs₁; exact ⟨h, tk, e⟩)
    rcases List.mem_cons.mp (hown p hp) with q | q
    · exact .inr q
    · exact .inl (List.mem_singleton.mp q)
  · intro h' tk l' news' tp F' N' hJ
    exact hR h' tk l' news' tp F' N' (by simpa using hJ)
end
end Mine
end
section
open PySem PyProof.Rows
open PySem.Builtin PySem.Builtin.Str
set_option Elab.async false
set_option linter.unusedVariables false
namespace Mine
abbrev tl (x : PySem.Str) : List Nat := x.cps.toList
abbrev ms (l : List Nat) : PySem.Str := ⟨l.toArray⟩
theorem ms_tl (x : PySem.Str) : ms (tl x) = x := by cases x; simp [tl]
theorem tl_ms (l : List Nat) : tl (ms l) = l := by simp [tl]
theorem len_tl (x : PySem.Str) : x.length = (tl x).length := by simp [PySem.Str.length, tl]
theorem len_ms (l : List Nat) : (ms l).length = l.length := by simp [PySem.Str.length]
theorem tl_inj {x y : PySem.Str} (h : tl x = tl y) : x = y := by rw [← ms_tl x, ← ms_tl y, h]
theorem tl_app (x y : PySem.Str) : tl (x ++ y) = tl x ++ tl y := by
  show (x ++ y).cps.toList = _
  rw [Str.cps_append]; simp [tl]
theorem ms_app (a b : List Nat) : ms a ++ ms b = ms (a ++ b) := tl_inj (by rw [tl_app, tl_ms, tl_ms, tl_ms])

theorem at_iff (x y : PySem.Str) (hi i : Nat) : StrLaws.At x y hi i ↔ i + (tl y).length ≤ hi ∧ ((tl x).drop i).take (tl y).length = tl y := by
  unfold StrLaws.At
  rw [StrLaws.subAt_eq, len_tl y]
  simp [tl]

def joinL (sep : List Nat) : List (List Nat) → List Nat
  | [] => []
  | [p] => p
  | p :: q :: r => p ++ sep ++ joinL sep (q :: r)
theorem tl_join (s : PySem.Str) : ∀ ps : List PySem.Str, tl (PySem.Str.join s ps) = joinL (tl s) (ps.map tl)
  | [] => rfl
  | [p] => rfl
  | p :: q :: r => by
    show tl (p ++ s ++ PySem.Str.join s (q :: r)) = _
    rw [tl_app, tl_app, tl_join s (q :: r)]
    rfl

theorem cut_core (x y : PySem.Str) (c : Nat) (hc : (tl y).head? = some c) : ∀ (parts : List (List Nat)) (a : Nat) (cuts : List Nat) (f : Nat), parts ≠ [] → a ≤ x.length → (tl x).drop a = joinL (tl y) parts →
    StrLaws.ChainG x y x.length a cuts f → (∀ k, f ≤ k → ¬ StrLaws.At x y x.length k) → (∀ p ∈ parts, c ∉ p) → StrLaws.partsFrom x y.length a cuts = parts.map ms := by
  obtain ⟨yr, hy⟩ : ∃ yr, tl y = c :: yr := by cases h : tl y with | nil => rw [h] at hc; cases hc | cons d r => rw [h] at hc; cases hc; exact ⟨r, rfl⟩
  intro parts
  -- an occurrence at k shows c there
  have head_at : ∀ k, StrLaws.At x y x.length k → (tl x)[k]? = some c := fun k hk => by
    have h2 := ((at_iff x y _ k).mp hk).2
    rw [hy] at h2
    have : (((tl x).drop k).take (c :: yr).length)[0]? = some c := by rw [h2]; rfl
    rw [List.getElem?_take_of_lt (by simp), List.getElem?_drop] at this
    simpa using this
  induction parts with
  | nil => intro _ _ _ h; exact absurd rfl h
  | cons p r ih =>
    intro a cuts f _ ha hd hch hend hfree
    have hlen : x.length - a = (joinL (tl y) (p :: r)).length := by rw [← hd, len_tl]; simp
    have getp : ∀ k, k < p.length → (tl x)[a + k]? = p[k]? := fun k hk => by
      have : ((tl x).drop a)[k]? = (joinL (tl y) (p :: r))[k]? := by rw [hd]
      rw [List.getElem?_drop] at this
      rw [this]
      cases r with
      | nil => rfl
      | cons q r =>
        show (p ++ tl y ++ joinL (tl y) (q :: r))[k]? = _
        rw [List.append_assoc, List.getElem?_append_left hk]
    have nop : ∀ k, a ≤ k → k < a + p.length → ¬ StrLaws.At x y x.length k := fun k h1 h2 hk => by
      have e := head_at k hk
      have e2 := getp (k - a) (by omega)
      rw [show a + (k - a) = k by omega, e] at e2
      exact hfree p (.head _) (List.mem_of_getElem? e2.symm)
    cases r with
    | nil =>
      have hl : x.length = a + p.length := by have : (joinL (tl y) [p]).length = p.length := rfl; omega
      have noat : ∀ k, a ≤ k → ¬ StrLaws.At x y x.length k := fun k h1 hk => by
        by_cases h2 : k < a + p.length
        · exact nop k h1 h2 hk
        · have := ((at_iff x y _ k).mp hk).1
          rw [hy] at this; simp at this; omega
      cases cuts with
      | nil =>
        show [strSub x a x.length] = [ms p]
        congr 1
        refine tl_inj ?_
        show (strSub x a x.length).cps.toList = _
        rw [StrLaws.strSub_toList, tl_ms]
        have : (tl x).drop a = p := hd
        rw [show x.cps.toList = tl x from rfl, this, hl]
        rw [List.take_of_length_le (by omega)]
      | cons k cuts => exact absurd hch.2.1 (noat k hch.1)
    | cons q r =>
      have hj : joinL (tl y) (p :: q :: r) = p ++ tl y ++ joinL (tl y) (q :: r) := rfl
      have hat : StrLaws.At x y x.length (a + p.length) := by
        rw [at_iff]
        have e : (tl x).drop (a + p.length) = tl y ++ joinL (tl y) (q :: r) := by
          rw [← List.drop_drop, hd, hj, List.append_assoc, List.drop_left]
        refine ⟨?_, ?_⟩
        · rw [hj, List.length_append, List.length_append] at hlen; omega
        · rw [e, List.take_left]
      cases cuts with
      | nil =>
        have : f = a := hch
        exact absurd hat (hend _ (by omega))
      | cons k cuts =>
        have hk : k = a + p.length := by
          rcases Nat.lt_trichotomy k (a + p.length) with h | h | h
          · exact absurd hch.2.1 (nop k hch.1 h)
          · exact h
          · exact absurd hat (hch.2.2.1 _ (by omega) h)
        subst hk
        have hyl : y.length = (tl y).length := len_tl y
        have h2 := ih (a + p.length + y.length) cuts f (by simp) (by rw [hj, List.length_append, List.length_append] at hlen; omega)
          (by rw [hyl, ← List.drop_drop, ← List.drop_drop, hd, hj, List.append_assoc, List.drop_left, List.drop_left]) hch.2.2.2 hend (fun s hs => hfree s (.tail _ hs))
        show strSub x a (a + p.length) :: StrLaws.partsFrom x y.length (a + p.length + y.length) cuts = _
        rw [h2]
        show _ = ms p :: _
        congr 1
        refine tl_inj ?_
        show (strSub x a (a + p.length)).cps.toList = _
        rw [StrLaws.strSub_toList, tl_ms, show x.cps.toList = tl x from rfl, hd, hj, List.append_assoc, Nat.add_sub_cancel_left, List.take_left]

theorem kind_ge (x : PySem.Str) : 1 ≤ PySem.Builtin.Str.strKind x := by unfold PySem.Builtin.Str.strKind; split <;> (try split) <;> omega
theorem split_parts (x y : PySem.Str) (hy : 1 ≤ y.length) (hk : PySem.Builtin.Str.strKind y = 1) : ∃ cuts f, Txt.split x y = StrLaws.partsFrom x y.length 0 cuts ∧ StrLaws.ChainG x y x.length 0 cuts f ∧ ∀ k, f ≤ k → ¬ StrLaws.At x y x.length k := by
  obtain ⟨f, h1, h2⟩ := StrLaws.occ_tight x y hy
  have hkk : decide (PySem.Builtin.Str.strKind x < PySem.Builtin.Str.strKind y) = false := by have := kind_ge x; rw [hk]; exact decide_eq_false (by omega)
  unfold Txt.split
  rw [hkk, Bool.or_false]
  have one : [x] = StrLaws.partsFrom x y.length 0 [] := by
    show [x] = [strSub x 0 x.length]
    rw [StrLaws.sub_whole]
  by_cases hl : x.length < y.length
  · rw [decide_eq_true hl, if_pos rfl]
    exact ⟨[], 0, one, rfl, fun k _ hk => by have := hk.1; omega⟩
  · rw [decide_eq_false hl, if_neg Bool.false_ne_true]
    cases ho : occurrences x y 0 x.length (x.length + 1) with
    | nil =>
      rw [ho] at h1
      exact ⟨[], f, one, h1, h2⟩
    | cons i r =>
      rw [ho] at h1
      refine ⟨i :: r, f, ?_, h1, h2⟩
      rw [show (i :: r).isEmpty = false from rfl, if_neg Bool.false_ne_true, StrLaws.partsBetween_eq]

/-- a text put together by y from parts that lack its first sign is cut into these parts again -/
theorem split_join (x y : PySem.Str) (c : Nat) (parts : List (List Nat)) (hc : (tl y).head? = some c) (hk : PySem.Builtin.Str.strKind y = 1) (hp : parts ≠ []) (hx : tl x = joinL (tl y) parts) (hfree : ∀ p ∈ parts, c ∉ p) : Txt.split x y = parts.map ms := by
  have hy : 1 ≤ y.length := by rw [len_tl]; cases h : tl y with | nil => rw [h] at hc; cases hc | cons a b => simp
  obtain ⟨cuts, f, e, h1, h2⟩ := split_parts x y hy hk
  rw [e]
  exact cut_core x y c hc parts 0 cuts f hp (Nat.zero_le _) (by rw [List.drop_zero]; exact hx) h1 h2 hfree

theorem parts_len (x : PySem.Str) (w : Nat) : ∀ (cuts : List Nat) (a : Nat), (StrLaws.partsFrom x w a cuts).length = cuts.length + 1
  | [], _ => rfl
  | _ :: r, a => by show (_ :: StrLaws.partsFrom x w _ r).length = _; rw [List.length_cons, parts_len x w r]; simp
theorem contains_iff (x y : PySem.Str) : Txt.contains x y = true ↔ ∃ i, StrLaws.At x y x.length i := by
  unfold Txt.contains; exact StrLaws.found_iff x y
theorem split_two {x y : PySem.Str} (hy : 1 ≤ y.length) (hk : PySem.Builtin.Str.strKind y = 1) (h : Txt.contains x y = true) : 2 ≤ (Txt.split x y).length := by
  obtain ⟨cuts, f, e, h1, h2⟩ := split_parts x y hy hk
  obtain ⟨i, hi⟩ := (contains_iff x y).mp h
  rw [e, parts_len]
  cases cuts with
  | nil => exact absurd hi (h2 i (by have : f = 0 := h1; omega))
  | cons a r => simp
theorem split_count (x y : PySem.Str) : (Txt.split x y).length ≤ x.length + 2 := by
  unfold Txt.split
  split
  · simp
  · split
    · simp
    · rw [length_partsBetween]
      have := StrLaws.occ_length_le x y 0 x.length (x.length + 1)
      omega

/-- every sign c becomes z -/
def rp (c : Nat) (z : List Nat) (d : Nat) : List Nat := if d = c then z else [d]
theorem flat_free (c : Nat) (z : List Nat) : ∀ l : List Nat, c ∉ l → l.flatMap (rp c z) = l
  | [], _ => rfl
  | d :: r, h => by
    have h1 : d ≠ c := fun e => h (e ▸ .head _)
    rw [List.flatMap_cons, flat_free c z r fun m => h (.tail _ m)]
    simp [rp, h1]
theorem flat_join (c : Nat) (z : List Nat) : ∀ ps : List (List Nat), (∀ p ∈ ps, c ∉ p) → (joinL [c] ps).flatMap (rp c z) = joinL z ps
  | [], _ => rfl
  | [p], h => flat_free c z p (h p (.head _))
  | p :: q :: r, h => by
    show (p ++ [c] ++ joinL [c] (q :: r)).flatMap (rp c z) = p ++ z ++ joinL z (q :: r)
    rw [List.flatMap_append, List.flatMap_append, flat_free c z p (h p (.head _)), flat_join c z (q :: r) fun s hs => h s (.tail _ hs)]
    simp [rp]
theorem replace_flat (x z : PySem.Str) (c : Nat) : tl (Txt.replace x ⟨#[c]⟩ z) = (tl x).flatMap (rp c (tl z)) := by
  rw [StrLaws.replace_one, tl_join]
  have hj := StrLaws.join_split x ⟨#[c]⟩
  have e : tl x = joinL [c] ((Txt.split x ⟨#[c]⟩).map tl) := by
    conv => lhs; rw [← hj, tl_join]
  rw [e, flat_join]
  intro p hp
  obtain ⟨q, hq, rfl⟩ := List.mem_map.mp hp
  exact StrLaws.split_free x c q hq
end Mine
end
section
open PySem PySem.W PyProof.Rows PySem.Calls
open PySem.Builtin PySem.Builtin.Str
set_option Elab.async false
set_option linter.unusedVariables false
namespace Mine
abbrev S (x : String) : PySem.Str := PySem.Str.ofString x

theorem lk_same {l : List (PySem.Str × Value)} {x : PySem.Str} {v : Value} (h : lk l x = some v) : lk ((x, v) :: l) = lk l := by
  rw [← lk_cons]
  funext y
  by_cases e : y = x
  · rw [if_pos e, e, h]
  · rw [if_neg e]
theorem lk_congr {l l' : List (PySem.Str × Value)} {x : PySem.Str} {v : Value} (h : lk l = lk l') : lk ((x, v) :: l) = lk ((x, v) :: l') := by
  rw [← lk_cons, ← lk_cons, h]
theorem lk_shadow (pre post : List (PySem.Str × Value)) (x : PySem.Str) (v : Value) (h : pre.any (fun p => p.1 == x) = true) : lk (pre ++ (x, v) :: post) = lk (pre ++ post) := by
  induction pre with
  | nil => cases h
  | cons p pre ih =>
    obtain ⟨a, b⟩ := p
    rw [List.cons_append, List.cons_append]
    by_cases ha : a = x
    · subst ha
      rw [← lk_cons, ← lk_cons]
      funext y
      by_cases e : y = a
      · rw [if_pos e, if_pos e]
      · rw [if_neg e, if_neg e]
        unfold lk
        clear ih h
        induction pre with
        | nil => rw [List.nil_append, List.nil_append, List.lookup_cons]; have : (y == a) = false := by simpa using e
                 rw [this]
        | cons q pre ih2 => rw [List.cons_append, List.cons_append, List.lookup_cons, List.lookup_cons, ih2]
    · refine lk_congr (ih ?_)
      simpa [ha] using h

def AllEq (a b : List (PySem.Str × Value)) : List PySem.Str → Prop
  | [] => True
  | x :: r => lk a x = lk b x ∧ AllEq a b r
theorem AllEq.mem {a b : List (PySem.Str × Value)} : ∀ {xs : List PySem.Str}, AllEq a b xs → ∀ x ∈ xs, lk a x = lk b x
  | _ :: _, h, _, .head _ => h.1
  | _ :: _, h, _, .tail _ m => AllEq.mem h.2 _ m
theorem lk_none {l : List (PySem.Str × Value)} {x : PySem.Str} (h : x ∉ l.map (·.1)) : lk l x = none := by
  induction l with
  | nil => rfl
  | cons p r ih =>
    rw [← lk_cons (x := p.1) (v := p.2)]
    simp only [List.map_cons, List.mem_cons, not_or] at h
    exact (if_neg h.1).trans (ih h.2)
theorem lk_ext {a b : List (PySem.Str × Value)} (h : AllEq a b (a.map (·.1) ++ b.map (·.1))) : lk a = lk b := by
  funext x
  by_cases hx : x ∈ a.map (·.1) ++ b.map (·.1)
  · exact h.mem x hx
  · simp only [List.mem_append, not_or] at hx
    rw [lk_none hx.1, lk_none hx.2]

section
variable {w : World} {A : Around} {env : Env} {g : Heap} {L : Addr} {s : Shared} {rest : List Stmt} {l : List (PySem.Str × Value)} {news : Led} {Q : Flow → Shared → Prop}
theorem st_if_join {t : Expr} {b o : List Stmt} {p : Pos} {c : Bool} (Mid : Shared → Prop) (hp : Te w A env (FR g L l news) t c) (F : Fr g L s.heap (lk l)) (N : News g L s.heap news) (ht : 0 < s.toks)
    (hb : ∀ h' tk, 0 < tk → Fr g L h' (lk l) → News g L h' news → wpAny (MD w) A (execs (if c then b else o) env) (fun f s' => match f with | .next => Mid s' | f => Q f s') NE { s with heap := h', toks := tk })
    (hk : ∀ s', Mid s' → wpAny (MD w) A (execs rest env) Q NE s') : wpAny (MD w) A (execs (.If t b o p :: rest) env) Q NE s :=
  st_if hp F N ht fun h' tk tp F' N' => wpAny_mono (hb h' tk tp F' N') (fun f s' h => by cases f <;> first | exact hk _ h | exact h) fun _ _ e => e
end

theorem op_geI {w : World} {A : Around} {I : HP} {i j : Int} {a b : Value} {n : Led} {n1 n2 : Led} (ha : IsI i a n1) (hb : IsI j b n2) : Tr w A I (compareOp .GtE a b) (fun v nu => IsB (decide (j ≤ i)) v (nu ++ n)) := by
  obtain ⟨t, rfl⟩ := ha; obtain ⟨u, rfl⟩ := hb
  exact .mk fun _ _ _ _ k => PyProof.Rows.ge_int (k _ [] _ _ (stays_refl _) .nil rfl)

theorem op_isub {w : World} {A : Around} {I : HP} {i j : Int} {t : Tok} {b : Value} {n2 : Led} (hb : IsI j b n2) : Tr w A I (inplaceOp .Sub (.int i t) b) (IsI (i - j)) := by
  obtain ⟨u, rfl⟩ := hb
  exact .mk fun _ _ _ _ k => PyProof.Rows.isub_int (k _ [] _ _ (stays_refl _) .nil ⟨_, rfl⟩)
theorem op_iadd {w : World} {A : Around} {I : HP} {i j : Int} {t : Tok} {b : Value} {n2 : Led} (hb : IsI j b n2) : Tr w A I (inplaceOp .Add (.int i t) b) (IsI (i + j)) := by
  obtain ⟨u, rfl⟩ := hb
  exact .mk fun _ _ _ _ k => PyProof.Rows.iadd_int (k _ [] _ _ (stays_refl _) .nil ⟨_, rfl⟩)
theorem getLastD_get {α : Type} (l : List α) (d : α) (h : l ≠ []) : l[l.length - 1]? = some (l.getLastD d) := by
  rw [← List.getLast?_eq_getElem?, List.getLast?_eq_some_getLast h, List.getLastD_eq_getLast?, List.getLast?_eq_some_getLast h]; rfl
theorem eraseIdx_last {α : Type} (l : List α) : l.eraseIdx (l.length - 1) = l.take (l.length - 1) := by
  rcases List.eq_nil_or_concat l with rfl | ⟨r, x, rfl⟩
  · rfl
  · simp [List.eraseIdx_append_of_length_le]
theorem take_last {α : Type} (l : List α) : l.take (l.length - 1) = l.dropLast := by
  rw [List.dropLast_eq_take]

/-- what `_ellipsis_match` reckons -/
def ellLoop (got : PySem.Str) (en : Int) : List PySem.Str → Int → Bool
  | [], _ => true
  | x :: r, st => if findIn4 got x st en < 0 then false else ellLoop got en r (findIn4 got x st en + x.length)
def ellEnd (got : PySem.Str) (ws : List PySem.Str) (st : Int) : Bool :=
  if ((ws.getLastD PySem.Str.empty).length != 0 && !Txt.endswith got (ws.getLastD PySem.Str.empty)) = true then false
  else if st > (got.length : Int) - (ws.getLastD PySem.Str.empty).length then false
  else ellLoop got ((got.length : Int) - (ws.getLastD PySem.Str.empty).length) (if (ws.getLastD PySem.Str.empty).length != 0 then ws.dropLast else ws) st
def ell (want got : PySem.Str) : Bool :=
  if Txt.contains want (S "...") = false then want == got
  else if (((Txt.split want (S "...")).headD PySem.Str.empty).length != 0 && !Txt.startswith got ((Txt.split want (S "...")).headD PySem.Str.empty)) = true then false
  else ellEnd got (if ((Txt.split want (S "...")).headD PySem.Str.empty).length != 0 then (Txt.split want (S "...")).tail else Txt.split want (S "..."))
    (((Txt.split want (S "...")).headD PySem.Str.empty).length)

theorem g_dots (w : World) : ∃ t, nsIn (KK w) mainGlobals (S "ELLIPSIS_MARKER") = some (some (.str (S "...") t)) := ⟨_, by with_unfolding_all rfl⟩
set_option maxRecDepth 100000 in
theorem g_len (w : World) : nsIn (KK w) mainGlobals (S "len") = some none := by kernel_rfl
theorem b_len : bootBuiltins (S "len") = some (.builtin "len") := boot_len

set_option maxRecDepth 100000 in
set_option maxHeartbeats 8000000 in
theorem ell_call {w : World} {A : Around} {I : HP} {want got : PySem.Str} {ta tb : Tok} (hB : ∀ h, I.on h → Base w h) (hR : Rm A 1) (hw : want.length ≤ 1048576) (hg : got.length ≤ 1048576) :
    Tr w A I (call (.ref 21) [.str want ta, .str got tb]) (IsB (ell want got)) := by
  have hsp2 : Txt.contains want (S "...") = true → 2 ≤ (Txt.split want (S "...")).length := split_two (by decide) (by decide +kernel)
  have hall0 : ∀ x ∈ Txt.split want (S "..."), x.length ≤ 1048576 := fun x hx => Nat.le_trans (part_short hx) hw
  have hcnt0 : (Txt.split want (S "...")).length ≤ 1048578 := Nat.le_trans (split_count _ _) (by omega)
  refine' Tr.fn (binds := [(S "want", .str want ta), (S "got", .str got tb)]) hB hR ?ho ?hcd ?hbind ?hloc ?h ?c1 ?c2 ?c3 ?c4
  case ho => with_unfolding_all rfl
  case hcd => kernel_rfl
  case hbind => rfl
  case hloc => rfl
  case c1 => rfl
  case c2 => rfl
  case c3 => rfl
  case c4 => rfl
  intro s g L hI B F0 N ht
  generalize hEnv : envOf _ _ L 21 (Value.ref 20) = env
  have hE : EnvOk env L := by subst hEnv; exact ⟨rfl, rfl, rfl, rfl⟩
  have kwant : env.kindOf (S "want") = some .local := by subst hEnv; rfl
  have kgot : env.kindOf (S "got") = some .local := by subst hEnv; rfl
  have kws : env.kindOf (S "ws") = some .local := by subst hEnv; rfl
  have kst : env.kindOf (S "startpos") = some .local := by subst hEnv; rfl
  have ken : env.kindOf (S "endpos") = some .local := by subst hEnv; rfl
  have kw : env.kindOf (S "w") = some .local := by subst hEnv; rfl
  have kE : env.kindOf (S "ELLIPSIS_MARKER") = some .globalImplicit := by subst hEnv; rfl
  have klen : env.kindOf (S "len") = some .globalImplicit := by subst hEnv; rfl
  have hR' : Rm (A.deeper env) 0 := hR.deeper
  generalize A.deeper env = A' at hR' ⊢
  obtain ⟨td, gd⟩ := g_dots w
  have hz : sizeLine = 16777216 := sizeLine_eq
  refine st_if (c := !Txt.contains want (S "...")) (Te.cmp (Pu.glob hE (FR.base B) kE gd).asS (Pu.loc hE rfl kwant).asS fun _ _ _ _ ha hb => op_notin ha hb) F0 N ht fun h1 tk1 ht1 F1 N1 => ?_
  cases hc : Txt.contains want (S "...") with
  | false =>
    refine st_ret (Pu.cmp (Pu.loc hE rfl kwant).asS (Pu.loc hE rfl kgot).asS fun _ _ _ _ ha hb => op_eqS ha hb) F1 N1 ht1 fun v nw h' tk tp hv F' N' => ?_
    exact Ret.intro F' N' (fun p hp => List.mem_append_left _ hp) (by unfold ell; rw [if_pos hc]; exact hv)
  | true =>
    refine st_nil ?_
    refine st_assign hE kws (Pu.strm F.slot_str_split F.type_str_split (Pu.loc hE rfl kwant).asS (.cons (Pu.glob hE (FR.base B) kE gd).asS .nil) fun t n vs m hvs => c_split rfl (by omega) hvs) F1 N1 ht1 fun v nw h2 tk2 ht2 hv F2 N2 => ?_
    obtain ⟨a, vs, n, rfl, hm, hS⟩ := hv
    have N3 : News g L h2 [(a, Lo vs n)] := fun p hp => N2 p (by rw [List.mem_singleton.mp hp]; exact List.mem_append_left _ hm)
    clear N2 hm
    have hlen : vs.length = (Txt.split want (S "...")).length := hS.len_eq
    have hge := hsp2 hc
    generalize hws : Txt.split want (S "...") = ws at *
    have hvz : vs.length ≤ 1048578 := by omega
    refine st_assert (Te.cmp (Pu.callB (Pu.blt hE (FR.base B) klen (g_len w) b_len) (.cons (Pu.loc hE rfl kws) .nil) fun _ _ h => c_lenL (FR.list (.head _)) (by omega) h) Pu.int fun _ _ _ _ ha hb =>
      (op_geI ha hb).mono fun v nw hv => by rw [show true = decide ((2 : Int) ≤ vs.length) from (decide_eq_true (by omega)).symm]; exact hv) F2 N3 ht2 fun h3 tk3 ht3 F3 N4 => ?_
    refine st_tuple (names := [S "startpos", S "endpos"]) (V := LV [IsI 0, IsI got.length]) hR'.hh hE (.cons Pu.int (.cons (Pu.callB (Pu.blt hE (FR.base B) klen (g_len w) b_len) (.cons (Pu.loc hE rfl kgot).asS .nil) fun _ _ h => c_lenS (by omega) h) .nil))
      (fun vs m h => by obtain ⟨_, _, rfl, _⟩ := LV2 h; rfl) (by decide) (by simp [kst, ken]) F3 N4 ht3 (fun us m h4 tk4 ht4 hv F4 N5 => ?_) rfl (by subst hEnv; rfl)
    obtain ⟨u1, u2, rfl, hu1, hu2⟩ := LV2 hv
    obtain ⟨q1, rfl⟩ := hu1.i
    obtain ⟨q2, rfl⟩ := hu2.i
    have N6 : News g L h4 [(a, Lo vs n)] := fun p hp => N5 p (List.mem_append_right _ hp)
    clear N5 hv hu1 hu2 N4 N3 F3 F2 F1 N1 F0 N
    obtain ⟨w0, wr, rfl⟩ : ∃ a b, ws = a :: b := by cases ws with | nil => simp at hge | cons a b => exact ⟨a, b, rfl⟩
    obtain ⟨tw, vr, rfl, hSr⟩ := hS.cons_inv
    have hw0 : w0.length ≤ 1048576 := hall0 _ (.head _)
    have hell : ell want got = (if (w0.length != 0 && !Txt.startswith got w0) = true then false else ellEnd got (if w0.length != 0 then wr else w0 :: wr) w0.length) := by
      unfold ell; rw [if_neg (by rw [hc]; decide), hws]; rfl
    refine st_assign hE kw (Pu.item (Pu.loc hE rfl kws) (FR.list (.head _)) Pu.int (by decide) rfl) F4 N6 ht4 fun v nw5 h5 tk5 ht5 hv F5 N7 => ?_
    cases hv
    have N8 : News g L h5 [(a, Lo (Value.str w0 tw :: vr) n)] := fun p hp => N7 p (List.mem_append_right _ hp)
    clear N7 N6
    refine st_if_join (c := ((w0.length : Int) != 0)) (fun s' => ∃ h' tk t2 vs2 n2, s' = { s with heap := h', toks := tk } ∧ 0 < tk ∧
      Fr g L h' (lk ([(S "startpos", Value.int w0.length t2), (S "w", .str w0 tw), (S "startpos", .int 0 q1), (S "endpos", .int got.length q2), (S "ws", .ref a), (S "got", .str got tb), (S "want", .str want ta)])) ∧
      News g L h' [(a, Lo vs2 n2)] ∧ StrsAre vs2 (if w0.length != 0 then wr else w0 :: wr) ∧ (w0.length != 0 && !Txt.startswith got w0) = false)
      (Te.val (Pu.loc hE rfl kw).asS fun _ _ h => tt_str h (by omega)) F5 N8 ht5 (fun h6 tk6 ht6 F6 N9 => ?_) (fun s' hs' => ?_)
    · cases hc0 : ((w0.length : Int) != 0) with
      | false =>
        have e0 : w0.length = 0 := by simpa using hc0
        refine st_nil ⟨h6, tk6, q1, _, n, rfl, ht6, ?_, N9, ?_, ?_⟩
        · rw [e0]
          have e := lk_same (l := [(S "w", .str w0 tw), (S "startpos", .int 0 q1), (S "endpos", .int got.length q2), (S "ws", .ref a), (S "got", .str got tb), (S "want", .str want ta)]) (x := S "startpos") (v := .int 0 q1) rfl
          exact e.symm ▸ F6
        · rw [e0]; exact .cons _ _ hSr
        · rw [e0]; rfl
      | true =>
        have e0 : w0.length ≠ 0 := by simpa using hc0
        refine st_if (c := Txt.startswith got w0) (Te.val (Pu.strm F.slot_str_startswith F.type_str_startswith (Pu.loc hE rfl kgot).asS (.cons (Pu.loc hE rfl kw).asS .nil) fun t n vs m hvs => c_starts hvs) fun _ _ h => tt_bool h) F6 N9 ht6 fun h7 tk7 ht7 F7 N10 => ?_
        cases hc1 : Txt.startswith got w0 with
        | false =>
          refine st_ret Pu.bool F7 N10 ht7 fun v nw h' tk tp hv F' N' => ?_
          refine Ret.intro F' N' (fun p hp => List.mem_append_left _ hp) ?_
          rw [hell, if_pos (by simp [e0, hc1])]; exact hv
        | true =>
          refine st_assign hE kst (Pu.callB (Pu.blt hE (FR.base B) klen (g_len w) b_len) (.cons (Pu.loc hE rfl kw).asS .nil) fun _ _ h => c_lenS (by omega) h) F7 N10 ht7 fun v nw h8 tk8 ht8 hv F8 N11 => ?_
          obtain ⟨t2, rfl⟩ := hv
          have N12 : News g L h8 [(a, Lo (Value.str w0 tw :: vr) n)] := fun p hp => N11 p (List.mem_append_right _ hp)
          refine st_del (j := 0) (Pu.loc hE rfl kws) Pu.int (.head _) rfl (by simp [seqIndex?]) (by omega) F8 N12 ht8 fun h9 tk9 ht9 F9 N13 => ?_
          refine st_nil (st_nil ⟨h9, tk9, t2, vr, n + 1, rfl, ht9, F9, ?_, ?_, ?_⟩)
          · rw [setL_cons_self] at N13; exact N13
          · simp only [bne_iff_ne, ne_eq, e0, not_false_eq_true, if_true]; exact hSr
          · simp [hc1]
    obtain ⟨h6, tk6, tst, vs2, n2, rfl, ht6, F6, N9, hS2, hcond⟩ := hs'
    rw [hell, if_neg (by rw [hcond]; decide)]
    clear N8 F5 F4
    generalize hww : (if (w0.length != 0) = true then wr else w0 :: wr) = ws2 at *
    have hne : ws2 ≠ [] := by
      rw [← hww]; split
      · intro e; rw [e] at hge; simp at hge
      · simp
    have hsub2 : ∀ x ∈ ws2, x.length ≤ 1048576 := fun x hx => hall0 x (by
      rw [← hww] at hx; split at hx
      · exact .tail _ hx
      · exact hx)
    have hle2 : ws2.length ≤ 1048578 := by rw [← hww]; simp only [List.length_cons] at hcnt0; split <;> (try simp only [List.length_cons]) <;> omega
    have hl2 := hS2.len_eq
    have hpos : 0 < ws2.length := List.length_pos_iff.mpr hne
    generalize hwl : ws2.getLastD PySem.Str.empty = wl
    have hgl := getLastD_get ws2 PySem.Str.empty hne
    rw [hwl] at hgl
    obtain ⟨tl, htl⟩ := hS2.at hgl
    have hwl2 : wl.length ≤ 1048576 := hsub2 _ (List.mem_of_getElem? hgl)
    have hee : ellEnd got ws2 w0.length = (if (wl.length != 0 && !Txt.endswith got wl) = true then false else if (w0.length : Int) > (got.length : Int) - wl.length then false
      else ellLoop got ((got.length : Int) - wl.length) (if wl.length != 0 then ws2.dropLast else ws2) w0.length) := by unfold ellEnd; rw [hwl]
    refine st_assign hE kw (Pu.itemNeg (Pu.loc hE rfl kws) (FR.list (.head _)) (Pu.neg (Pu.int (i := 1))) (by decide) (by omega) (by rw [← htl]; congr 1; omega)) F6 N9 ht6 fun v nw5 h7 tk7 ht7 hv F7 N10 => ?_
    cases hv
    have N11 : News g L h7 [(a, Lo vs2 n2)] := fun p hp => N10 p (List.mem_append_right _ hp)
    clear N10 N9
    refine st_if_join (c := ((wl.length : Int) != 0)) (fun s' => ∃ h' tk te vs3 n3, s' = { s with heap := h', toks := tk } ∧ 0 < tk ∧
      Fr g L h' (lk ([(S "endpos", Value.int ((got.length : Int) - wl.length) te), (S "w", .str wl tl), (S "startpos", Value.int w0.length tst), (S "w", .str w0 tw), (S "startpos", .int 0 q1), (S "endpos", .int got.length q2), (S "ws", .ref a), (S "got", .str got tb), (S "want", .str want ta)])) ∧
      News g L h' [(a, Lo vs3 n3)] ∧ StrsAre vs3 (if wl.length != 0 then ws2.dropLast else ws2) ∧ (wl.length != 0 && !Txt.endswith got wl) = false)
      (Te.val (Pu.loc hE rfl kw).asS fun _ _ h => tt_str h (by omega)) F7 N11 ht7 (fun h8 tk8 ht8 F8 N12 => ?_) (fun s' hs' => ?_)
    · cases hc0 : ((wl.length : Int) != 0) with
      | false =>
        have e0 : wl.length = 0 := by simpa using hc0
        refine st_nil ⟨h8, tk8, q2, _, n2, rfl, ht8, ?_, N12, ?_, ?_⟩
        · rw [e0]
          have e := lk_same (l := [(S "w", .str wl tl), (S "startpos", Value.int w0.length tst), (S "w", .str w0 tw), (S "startpos", .int 0 q1), (S "endpos", .int got.length q2), (S "ws", .ref a), (S "got", .str got tb), (S "want", .str want ta)]) (x := S "endpos") (v := .int got.length q2) rfl
          have e2 : (got.length : Int) - (0 : Nat) = got.length := by omega
          rw [e2]
          exact e.symm ▸ F8
        · rw [e0]; exact hS2
        · rw [e0]; rfl
      | true =>
        have e0 : wl.length ≠ 0 := by simpa using hc0
        refine st_if (c := Txt.endswith got wl) (Te.val (Pu.strm F.slot_str_endswith F.type_str_endswith (Pu.loc hE rfl kgot).asS (.cons (Pu.loc hE rfl kw).asS .nil) fun t n vs m hvs => c_ends hvs) fun _ _ h => tt_bool h) F8 N12 ht8 fun h9 tk9 ht9 F9 N13 => ?_
        cases hc1 : Txt.endswith got wl with
        | false =>
          refine st_ret Pu.bool F9 N13 ht9 fun v nw h' tk tp hv F' N' => ?_
          refine Ret.intro F' N' (fun p hp => List.mem_append_left _ hp) ?_
          rw [hee, if_pos (by simp [e0, hc1])]; exact hv
        | true =>
          refine st_aug hE ken rfl (Pu.callB (Pu.blt hE (FR.base B) klen (g_len w) b_len) (.cons (Pu.loc hE rfl kw).asS .nil) fun _ _ h => c_lenS (by omega) h) (fun b n hb => op_isub hb) F9 N13 ht9 fun v nw h10 tk10 ht10 hv F10 N14 => ?_
          obtain ⟨te, rfl⟩ := hv
          have N15 : News g L h10 [(a, Lo vs2 n2)] := fun p hp => N14 p (List.mem_append_right _ hp)
          refine st_del (j := vs2.length - 1) (Pu.loc hE rfl kws) (Pu.neg (Pu.int (i := 1))) (.head _) rfl (by rw [StrLaws.seqIndex_neg (by decide) (by omega)]; congr 1; omega) (by omega) F10 N15 ht10 fun h11 tk11 ht11 F11 N16 => ?_
          refine st_nil (st_nil ⟨h11, tk11, te, vs2.eraseIdx (vs2.length - 1), n2 + 1, rfl, ht11, F11, ?_, ?_, ?_⟩)
          · rw [setL_cons_self] at N16; exact N16
          · simp only [bne_iff_ne, ne_eq, e0, not_false_eq_true, if_true]
            rw [eraseIdx_last, ← take_last, hl2]
            exact hS2.take' _
          · simp [hc1]
    obtain ⟨h8, tk8, te, vs3, n3, rfl, ht8, F8, N12, hS3, hcond2⟩ := hs'
    rw [hee, if_neg (by rw [hcond2]; decide)]
    clear N11 F7 F6
    refine st_if (c := decide ((w0.length : Int) > (got.length : Int) - wl.length)) (Te.cmp (Pu.loc hE rfl kst).asI (Pu.loc hE rfl ken).asI fun _ _ _ _ ha hb => op_gtI ha hb) F8 N12 ht8 fun h9 tk9 ht9 F9 N13 => ?_
    by_cases hgt : (w0.length : Int) > (got.length : Int) - wl.length
    · rw [decide_eq_true hgt, if_pos hgt]
      refine st_ret Pu.bool F9 N13 ht9 fun v nw h' tk tp hv F' N' => ?_
      exact Ret.intro F' N' (fun p hp => List.mem_append_left _ hp) hv
    rw [decide_eq_false hgt, if_neg hgt]
    refine st_nil ?_
    generalize hws3 : (if (wl.length != 0) = true then ws2.dropLast else ws2) = ws3 at *
    have hle3 : ws3.length ≤ 1048578 := by rw [← hws3]; split <;> (try rw [List.length_dropLast]) <;> omega
    have hsz3 : ∀ x ∈ ws3, x.length ≤ 1048576 := fun x hx => hsub2 x (by
      rw [← hws3] at hx; split at hx
      · exact (List.dropLast_sublist _).subset hx
      · exact hx)
    have hl3 := hS3.len_eq
    clear N12 F8 hS2 htl hgl
    refine st_for (V := IsV (.ref a)) hE kw (Pu.loc hE rfl kws) F9 N13 ht9 fun v nw h10 tk10 ht10 hv st10 F10 N14 _ => ?_
    cases hv
    have N15 : News g L h10 [(a, Lo vs3 n3)] := fun p hp => N14 p (List.mem_append_right _ hp)
    refine it_list hR'.hh hE kw (isList_of (N15 _ (.head _)).1) (N15 _ (.head _)).2.1 F10 N15 ht10
      (fun i l₁ news₁ => ∃ st t wv, lk l₁ = lk [(S "startpos", Value.int st t), (S "w", wv), (S "endpos", Value.int ((got.length : Int) - wl.length) te), (S "ws", .ref a), (S "got", .str got tb), (S "want", .str want ta)] ∧
        news₁ = [(a, Lo vs3 n3)] ∧ ellLoop got ((got.length : Int) - wl.length) (ws3.drop i) st = ellLoop got ((got.length : Int) - wl.length) ws3 w0.length) ?_ ?_ ?_
    · refine ⟨w0.length, tst, .str wl tl, lk_ext ?_, rfl, rfl⟩
      repeat' (first | exact trivial | refine ⟨rfl, ?_⟩)
    · rintro i v l₁ news₁ own s₁ hi ⟨st, t, wv, hlk, rfl, hJ⟩ hown hnw F₁ N₁ ht₁ ⟨hh₁, tkk, rfl⟩
      obtain ⟨x, tx, rfl, hx⟩ := hS3.item i v hi
      rw [lk_congr hlk] at F₁
      have hxl : x.length ≤ 1048576 := hsz3 x (List.mem_of_getElem? hx)
      have hilt : i < ws3.length := (List.getElem?_eq_some_iff.mp hx).1
      have hdrop : ws3.drop i = x :: ws3.drop (i + 1) := by
        rw [List.drop_eq_getElem_cons hilt]; congr 1
        exact (List.getElem?_eq_some_iff.mp hx).2
      rw [hdrop] at hJ
      refine st_assign hE kst (Pu.strm F.slot_str_find F.type_str_find (Pu.loc hE rfl kgot).asS (.cons (Pu.loc hE rfl kw).asS (.cons (Pu.loc hE rfl kst).asI (.cons (Pu.loc hE rfl ken).asI .nil))) fun t n vs m hvs => c_find hvs) F₁ N₁ ht₁ fun v nw h11 tk11 ht11 hv F11 N16 => ?_
      obtain ⟨tk', rfl⟩ := hv
      refine st_if (c := decide (findIn4 got x st ((got.length : Int) - wl.length) < 0)) (Te.cmp (Pu.loc hE rfl kst).asI Pu.int fun _ _ _ _ ha hb => op_ltI ha hb) F11 N16 ht11 fun h12 tk12 ht12 F12 N17 => ?_
      by_cases hlt : findIn4 got x st ((got.length : Int) - wl.length) < 0
      · rw [decide_eq_true hlt]
        refine st_ret Pu.bool F12 N17 ht12 fun v nw h' tk tp hv F' N' => ?_
        refine Ret.intro F' N' (fun p hp => List.mem_append_left _ hp) ?_
        rw [← hJ]; unfold ellLoop; rw [if_pos hlt]; exact hv
      · rw [decide_eq_false hlt]
        refine st_nil ?_
        refine st_aug hE kst rfl (Pu.callB (Pu.blt hE (FR.base B) klen (g_len w) b_len) (.cons (Pu.loc hE rfl kw).asS .nil) fun _ _ h => c_lenS (by omega) h) (fun b n hb => op_iadd hb) F12 N17 ht12 fun v nw h13 tk13 ht13 hv F13 N18 => ?_
        obtain ⟨te2, rfl⟩ := hv
        refine st_nil (LE.next (news₂ := [(a, Lo vs3 n3)]) ht13 F13 (fun p hp => N18 p ?_) (fun p hp => .inl (List.mem_map_of_mem hp)) ⟨findIn4 got x st ((got.length : Int) - wl.length) + x.length, te2, .str x tx, lk_ext ?_, rfl, ?_⟩)
        · exact List.mem_append_right _ (List.mem_append_right _ hp)
        · repeat' (first | exact trivial | refine ⟨rfl, ?_⟩)
        · rw [← hJ]
          conv => rhs; unfold ellLoop
          rw [if_neg hlt]
    · rintro h' tk l' news' tp F' N' ⟨st, t, wv, hlk, rfl, hJ⟩
      rw [hl3, List.drop_length] at hJ
      refine st_ret Pu.bool F' N' tp fun v nw h'' tk' tp' hv F'' N'' => ?_
      refine Ret.intro F'' N'' (fun p hp => List.mem_append_left _ hp) ?_
      rw [← hJ]; unfold ellLoop; exact hv
end Mine
end
section
open PySem PySem.W PyProof.Rows PySem.Calls
open PySem.Builtin PySem.Builtin.Str
set_option Elab.async false
set_option linter.unusedVariables false
namespace Mine
def alpha : List Nat := [32, 44, 46, 33, 61, 42, 45, 62, 60, 47, 38, 124]
def ec (lt gt : Bool) (c : Nat) : List Nat := if c = 38 then [38, 97, 109, 112, 59] else if lt = true ∧ c = 60 then [38, 108, 116, 59] else if gt = true ∧ c = 62 then [38, 103, 116, 59] else [c]

theorem replace_none {x y z : PySem.Str} (h : Txt.contains x y = false) : Txt.replace x y z = x := by
  unfold Txt.replace
  have hn : ∀ i, ¬ StrLaws.At x y x.length i := fun i hi => by rw [(contains_iff x y).mpr ⟨i, hi⟩] at h; cases h
  rcases StrLaws.occ_head x y (x.length + 1) (by omega) with ⟨h0, _⟩ | ⟨i, r, _, hi, _⟩
  · rw [h0]; rfl
  · exact absurd hi (hn i)
theorem flat_len {f : Nat → List Nat} {n : Nat} : ∀ {l : List Nat}, (∀ c ∈ l, (f c).length ≤ n) → (l.flatMap f).length ≤ n * l.length
  | [], _ => by simp
  | c :: r, h => by
    have h1 := h c (.head _)
    have h2 := flat_len (l := r) fun d hd => h d (.tail _ hd)
    rw [List.flatMap_cons, List.length_append, List.length_cons, Nat.mul_succ]; omega
theorem flat_flat {f f' : Nat → List Nat} {c : Nat} {z : List Nat} : ∀ {l : List Nat}, (∀ d ∈ l, (f d).flatMap (rp c z) = f' d) → (l.flatMap f).flatMap (rp c z) = l.flatMap f'
  | [], _ => rfl
  | d :: r, h => by rw [List.flatMap_cons, List.flatMap_append, h d (.head _), flat_flat fun e he => h e (.tail _ he), List.flatMap_cons]

section
variable {w : World} {A : Around} {env : Env} {I : HP} {g : Heap} {L : Addr} {s : Shared} {rest : List Stmt} {news : Led} {Q : Flow → Shared → Prop}

/-- text.replace of two different constants -/
theorem Pu.replace {o : Expr} {y z : PySem.Str} {k1 k2 : Nat} {q1 q2 apos pos : Pos} {x : PySem.Str} (ho : Pu w A env I o (IsS x)) (hyz : (y == z) = false) (hx : x.length ≤ 1048576) (hz : z.length ≤ 14)
    (hbase : attributeBase o (S "replace") env (eval o env) = eval o env := by rfl)
    (hs : backTo pos (starEach [.Constant (.str y) k1 q1, .Constant (.str z) k2 q2] env) = [Expr.Constant (.str y) k1 q1, .Constant (.str z) k2 q2].map fun e => (false, eval e env) := by rfl)
    (hfew : ((backTo pos (starEach [.Constant (.str y) k1 q1, .Constant (.str z) k2 q2] env)).all (fun x => !x.1) && (backToKw pos (keywordEach [] env)).all (fun x => x.1.isSome)
      && decide (([Expr.Constant (.str y) k1 q1, .Constant (.str z) k2 q2]).length + ([] : List Keyword).length + (if ([] : List Keyword).isEmpty then 0 else 1) < 30)) = true := by rfl)
    (hline : (apos.endLine == pos.line) = true := by rfl) :
    Pu w A env I (.Call (.Attribute o (S "replace") apos) [.Constant (.str y) k1 q1, .Constant (.str z) k2 q2] [] pos) (IsS (Txt.replace x y z)) :=
  .mk fun s Q hI ht k => wpAny_Call_method_lateS hbase hfew hline (ho s _ hI ht fun v n1 h1 tk1 tp1 st1 i1 new1 hv => by
    obtain ⟨t, rfl⟩ := hv
    refine ⟨"str", "str.replace", F.plainAttrs_str, F.slot_str_replace, F.type_str_replace, typeIs_str _ _ _, (fun _ e => nomatch e), ?_⟩
    rw [hs]
    refine Calls.callWith_builtin (by simp) (Calls.evalArgs_plain (Calls.spliced_cons (Calls.Constant_str (Calls.spliced_cons (Calls.Constant_str (Calls.spliced_nil ?_))))))
    refine SC.replaceW (by show tk1 ≠ 0; omega) (by show tk1 + 1 ≠ 0; omega) (by show tk1 ≠ tk1 + 1; omega) hyz hx hz fun t' k' => ?_
    exact k _ [] h1 k' st1 .nil ⟨_, rfl⟩)

/-- if y in text: text = text.replace(y, z) -/
theorem st_rep {f f' : Nat → List Nat} {c : Nat} {zs l : List Nat} {t : Tok} {k0 k1 k2 : Nat} {p0 p1 p2 p3 p4 p5 p6 p7 p8 p9 p10 : Pos} {y z : PySem.Str} (hE : EnvOk env L) (kx : env.kindOf (S "text") = some .local)
    (hy : y = ⟨#[c]⟩) (hzz : tl z = zs) (hyz : (y == z) = false) (hz : z.length ≤ 14) (hl : ∀ d ∈ l, d ∈ alpha) (hlen : l.length ≤ 100000) (hf5 : ∀ d ∈ alpha, (f d).length ≤ 5) (hff : ∀ d ∈ alpha, (f d).flatMap (rp c zs) = f' d)
    (F : Fr g L s.heap (lk [(S "text", .str (ms (l.flatMap f)) t)])) (N : News g L s.heap news) (ht : 0 < s.toks)
    (k : ∀ h' tk t', 0 < tk → Fr g L h' (lk [(S "text", .str (ms (l.flatMap f')) t')]) → News g L h' news → wpAny (MD w) A (execs rest env) Q NE { s with heap := h', toks := tk })
    (hline : (p6.endLine == p9.line) = true := by rfl) :
    wpAny (MD w) A (execs (.If (.Compare (.Constant (.str y) k0 p0) [.In] [.Name (S "text") p1] p2) [.Assign [.Name (S "text") p3] (.Call (.Attribute (.Name (S "text") p5) (S "replace") p6) [.Constant (.str y) k1 p7, .Constant (.str z) k2 p8] [] p9) p10] [] p4 :: rest) env) Q NE s := by
  have hx : (ms (l.flatMap f)).length ≤ 1048576 := by
    rw [len_ms]
    have := flat_len (l := l) (f := f) (n := 5) fun d hd => hf5 d (hl d hd)
    omega
  have e : Txt.replace (ms (l.flatMap f)) y z = ms (l.flatMap f') := by
    refine tl_inj ?_
    subst hzz
    rw [hy, replace_flat, tl_ms, tl_ms]
    exact flat_flat fun d hd => hff d (hl d hd)
  refine st_if_join (c := Txt.contains (ms (l.flatMap f)) y) (fun s' => ∃ h' tk t', s' = { s with heap := h', toks := tk } ∧ 0 < tk ∧ Fr g L h' (lk [(S "text", .str (ms (l.flatMap f')) t')]) ∧ News g L h' news)
    (Te.cmp Pu.str (Pu.loc hE rfl kx).asS fun _ _ _ _ ha hb => op_in ha hb) F N ht (fun h1 tk1 ht1 F1 N1 => ?_) (fun s' hs' => ?_)
  · cases hc : Txt.contains (ms (l.flatMap f)) y with
    | false =>
      have e2 := replace_none (z := z) hc
      rw [e] at e2
      exact st_nil ⟨h1, tk1, t, rfl, ht1, by rw [e2]; exact F1, N1⟩
    | true =>
      refine st_assign hE kx (Pu.replace (Pu.loc hE rfl kx).asS hyz hx hz (hline := hline)) F1 N1 ht1 (fun v nw h2 tk2 ht2 hv F2 N2 => ?_) (by rfl)
      obtain ⟨t', rfl⟩ := hv
      rw [e] at F2
      refine st_nil ⟨h2, tk2, t', rfl, ht2, ?_, fun p hp => N2 p (List.mem_append_right _ hp)⟩
      exact (show lk [(S "text", Value.str (ms (l.flatMap f')) t'), (S "text", Value.str (ms (l.flatMap f)) t)] = lk [(S "text", Value.str (ms (l.flatMap f')) t')] from lk_ext ⟨rfl, rfl, rfl, trivial⟩) ▸ F2
  · obtain ⟨h', tk, t', rfl, tp, F', N'⟩ := hs'
    exact k h' tk t' tp F' N'
end

theorem try_ret {w : World} {A : Around} {env : Env} {body : List Stmt} {h0 : ExceptHandler} {hs : List ExceptHandler} {p : Pos} {rest : List Stmt} {Q : Flow → Shared → Prop} {s : Shared}
    (h : wpAny (MD w) A (execs body env) (fun f s' => f ≠ .next ∧ Q f s') NE s) : wpAny (MD w) A (execs (.Try body (h0 :: hs) [] [] p :: rest) env) Q NE s := by
  refine wpAny_execs_cons (wpAny_Try_except (wpAny_mono h (fun f s' x => ?_) fun _ _ e => e.elim))
  cases f <;> first | exact absurd rfl x.1 | exact x.2

set_option maxRecDepth 100000 in
set_option maxHeartbeats 8000000 in
theorem esc0_call {w : World} {A : Around} {I : HP} {l : List Nat} {ta : Tok} (hB : ∀ h, I.on h → Base w h) (hR : Rm A 1) (hl : ∀ d ∈ l, d ∈ alpha) (hlen : l.length ≤ 100000) :
    Tr w A I (call (.ref 45) [.str (ms l) ta]) (IsS (ms (l.flatMap (ec true true)))) := by
  refine' Tr.fn (binds := [(S "text", .str (ms l) ta)]) hB hR ?ho ?hcd ?hbind ?hloc ?h ?c1 ?c2 ?c3 ?c4
  case ho => with_unfolding_all rfl
  case hcd => kernel_rfl
  case hbind => rfl
  case hloc => rfl
  case c1 => rfl
  case c2 => rfl
  case c3 => rfl
  case c4 => rfl
  intro s g L hI B F0 N0 ht0
  generalize hEnv : envOf _ _ L 45 (Value.ref 44) = env
  have hE : EnvOk env L := by subst hEnv; exact ⟨rfl, rfl, rfl, rfl⟩
  have kx : env.kindOf (S "text") = some .local := by subst hEnv; rfl
  generalize A.deeper env = A' at *
  refine try_ret ?_
  have F1 : Fr g L s.heap (lk [(S "text", .str (ms (l.flatMap fun c => [c])) ta)]) := by rw [List.flatMap_singleton']; exact F0
  clear F0
  have N1 := N0
  have ht1 := ht0
  refine st_rep (f' := ec false false) hE kx (c := 38) (zs := [38, 97, 109, 112, 59]) (by rfl) (by decide +kernel) (by decide +kernel) (by decide +kernel) hl hlen (by decide +kernel) (by decide +kernel) F1 N1 ht1 fun h2 tk2 t2 ht2 F2 N2 => ?_
  refine st_rep (f' := ec true false) hE kx (c := 60) (zs := [38, 108, 116, 59]) (by rfl) (by decide +kernel) (by decide +kernel) (by decide +kernel) hl hlen (by decide +kernel) (by decide +kernel) F2 N2 ht2 fun h3 tk3 t3 ht3 F3 N3 => ?_
  refine st_rep (f' := ec true true) hE kx (c := 62) (zs := [38, 103, 116, 59]) (by rfl) (by decide +kernel) (by decide +kernel) (by decide +kernel) hl hlen (by decide +kernel) (by decide +kernel) F3 N3 ht3 fun h4 tk4 t4 ht4 F4 N4 => ?_
  refine st_ret (Pu.loc hE rfl kx).asS F4 N4 ht4 fun v nw h' tk tp hv F' N' => ?_
  exact ⟨by simp, Ret.intro F' N' (fun p hp => List.mem_append_left _ hp) hv⟩

set_option maxRecDepth 100000 in
set_option maxHeartbeats 8000000 in
theorem esc1_call {w : World} {A : Around} {I : HP} {l : List Nat} {ta : Tok} (hB : ∀ h, I.on h → Base w h) (hR : Rm A 1) (hl : ∀ d ∈ l, d ∈ alpha) (hlen : l.length ≤ 100000) :
    Tr w A I (call (.ref 52) [.str (ms l) ta]) (IsS (ms (l.flatMap (ec true true)))) := by
  refine' Tr.fn (binds := [(S "text", .str (ms l) ta)]) hB hR ?ho ?hcd ?hbind ?hloc ?h ?c1 ?c2 ?c3 ?c4
  case ho => with_unfolding_all rfl
  case hcd => kernel_rfl
  case hbind => rfl
  case hloc => rfl
  case c1 => rfl
  case c2 => rfl
  case c3 => rfl
  case c4 => rfl
  intro s g L hI B F0 N0 ht0
  generalize hEnv : envOf _ _ L 52 (Value.ref 51) = env
  have hE : EnvOk env L := by subst hEnv; exact ⟨rfl, rfl, rfl, rfl⟩
  have kx : env.kindOf (S "text") = some .local := by subst hEnv; rfl
  generalize A.deeper env = A' at *
  refine try_ret ?_
  have F1 : Fr g L s.heap (lk [(S "text", .str (ms (l.flatMap fun c => [c])) ta)]) := by rw [List.flatMap_singleton']; exact F0
  clear F0
  have N1 := N0
  have ht1 := ht0
  refine st_rep (f' := ec false false) hE kx (c := 38) (zs := [38, 97, 109, 112, 59]) (by rfl) (by decide +kernel) (by decide +kernel) (by decide +kernel) hl hlen (by decide +kernel) (by decide +kernel) F1 N1 ht1 fun h2 tk2 t2 ht2 F2 N2 => ?_
  refine st_rep (f' := ec true false) hE kx (c := 60) (zs := [38, 108, 116, 59]) (by rfl) (by decide +kernel) (by decide +kernel) (by decide +kernel) hl hlen (by decide +kernel) (by decide +kernel) F2 N2 ht2 fun h3 tk3 t3 ht3 F3 N3 => ?_
  refine st_rep (f' := ec true true) hE kx (c := 62) (zs := [38, 103, 116, 59]) (by rfl) (by decide +kernel) (by decide +kernel) (by decide +kernel) hl hlen (by decide +kernel) (by decide +kernel) F3 N3 ht3 fun h4 tk4 t4 ht4 F4 N4 => ?_
  refine st_rep (f' := ec true true) hE kx (c := 34) (zs := [38, 113, 117, 111, 116, 59]) (by rfl) (by decide +kernel) (by decide +kernel) (by decide +kernel) hl hlen (by decide +kernel) (by decide +kernel) F4 N4 ht4 fun h5 tk5 t5 ht5 F5 N5 => ?_
  refine st_rep (f' := ec true true) hE kx (c := 13) (zs := [38, 35, 49, 51, 59]) (by rfl) (by decide +kernel) (by decide +kernel) (by decide +kernel) hl hlen (by decide +kernel) (by decide +kernel) F5 N5 ht5 fun h6 tk6 t6 ht6 F6 N6 => ?_
  refine st_rep (f' := ec true true) hE kx (c := 10) (zs := [38, 35, 49, 48, 59]) (by rfl) (by decide +kernel) (by decide +kernel) (by decide +kernel) hl hlen (by decide +kernel) (by decide +kernel) F6 N6 ht6 fun h7 tk7 t7 ht7 F7 N7 => ?_
  refine st_rep (f' := ec true true) hE kx (c := 9) (zs := [38, 35, 48, 57, 59]) (by rfl) (by decide +kernel) (by decide +kernel) (by decide +kernel) hl hlen (by decide +kernel) (by decide +kernel) F7 N7 ht7 fun h8 tk8 t8 ht8 F8 N8 => ?_
  refine st_ret (Pu.loc hE rfl kx).asS F8 N8 ht8 fun v nw h' tk tp hv F' N' => ?_
  exact ⟨by simp, Ret.intro F' N' (fun p hp => List.mem_append_left _ hp) hv⟩

set_option maxRecDepth 100000 in
set_option maxHeartbeats 8000000 in
theorem esc2_call {w : World} {A : Around} {I : HP} {l : List Nat} {ta : Tok} (hB : ∀ h, I.on h → Base w h) (hR : Rm A 1) (hl : ∀ d ∈ l, d ∈ alpha) (hlen : l.length ≤ 100000) :
    Tr w A I (call (.ref 59) [.str (ms l) ta]) (IsS (ms (l.flatMap (ec false true)))) := by
  refine' Tr.fn (binds := [(S "text", .str (ms l) ta)]) hB hR ?ho ?hcd ?hbind ?hloc ?h ?c1 ?c2 ?c3 ?c4
  case ho => with_unfolding_all rfl
  case hcd => kernel_rfl
  case hbind => rfl
  case hloc => rfl
  case c1 => rfl
  case c2 => rfl
  case c3 => rfl
  case c4 => rfl
  intro s g L hI B F0 N0 ht0
  generalize hEnv : envOf _ _ L 59 (Value.ref 58) = env
  have hE : EnvOk env L := by subst hEnv; exact ⟨rfl, rfl, rfl, rfl⟩
  have kx : env.kindOf (S "text") = some .local := by subst hEnv; rfl
  generalize A.deeper env = A' at *
  refine try_ret ?_
  have F1 : Fr g L s.heap (lk [(S "text", .str (ms (l.flatMap fun c => [c])) ta)]) := by rw [List.flatMap_singleton']; exact F0
  clear F0
  have N1 := N0
  have ht1 := ht0
  refine st_rep (f' := ec false false) hE kx (c := 38) (zs := [38, 97, 109, 112, 59]) (by rfl) (by decide +kernel) (by decide +kernel) (by decide +kernel) hl hlen (by decide +kernel) (by decide +kernel) F1 N1 ht1 fun h2 tk2 t2 ht2 F2 N2 => ?_
  refine st_rep (f' := ec false true) hE kx (c := 62) (zs := [38, 103, 116, 59]) (by rfl) (by decide +kernel) (by decide +kernel) (by decide +kernel) hl hlen (by decide +kernel) (by decide +kernel) F2 N2 ht2 fun h3 tk3 t3 ht3 F3 N3 => ?_
  refine st_rep (f' := ec false true) hE kx (c := 34) (zs := [38, 113, 117, 111, 116, 59]) (by rfl) (by decide +kernel) (by decide +kernel) (by decide +kernel) hl hlen (by decide +kernel) (by decide +kernel) F3 N3 ht3 fun h4 tk4 t4 ht4 F4 N4 => ?_
  refine st_ret (Pu.loc hE rfl kx).asS F4 N4 ht4 fun v nw h' tk tp hv F' N' => ?_
  exact ⟨by simp, Ret.intro F' N' (fun p hp => List.mem_append_left _ hp) hv⟩

set_option maxRecDepth 100000 in
set_option maxHeartbeats 8000000 in
theorem esc3_call {w : World} {A : Around} {I : HP} {l : List Nat} {ta : Tok} (hB : ∀ h, I.on h → Base w h) (hR : Rm A 1) (hl : ∀ d ∈ l, d ∈ alpha) (hlen : l.length ≤ 100000) :
    Tr w A I (call (.ref 66) [.str (ms l) ta]) (IsS (ms (l.flatMap (ec true true)))) := by
  refine' Tr.fn (binds := [(S "text", .str (ms l) ta)]) hB hR ?ho ?hcd ?hbind ?hloc ?h ?c1 ?c2 ?c3 ?c4
  case ho => with_unfolding_all rfl
  case hcd => kernel_rfl
  case hbind => rfl
  case hloc => rfl
  case c1 => rfl
  case c2 => rfl
  case c3 => rfl
  case c4 => rfl
  intro s g L hI B F0 N0 ht0
  generalize hEnv : envOf _ _ L 66 (Value.ref 65) = env
  have hE : EnvOk env L := by subst hEnv; exact ⟨rfl, rfl, rfl, rfl⟩
  have kx : env.kindOf (S "text") = some .local := by subst hEnv; rfl
  generalize A.deeper env = A' at *
  refine try_ret ?_
  have F1 : Fr g L s.heap (lk [(S "text", .str (ms (l.flatMap fun c => [c])) ta)]) := by rw [List.flatMap_singleton']; exact F0
  clear F0
  have N1 := N0
  have ht1 := ht0
  refine st_rep (f' := ec false false) hE kx (c := 38) (zs := [38, 97, 109, 112, 59]) (by rfl) (by decide +kernel) (by decide +kernel) (by decide +kernel) hl hlen (by decide +kernel) (by decide +kernel) F1 N1 ht1 fun h2 tk2 t2 ht2 F2 N2 => ?_
  refine st_rep (f' := ec true false) hE kx (c := 60) (zs := [38, 108, 116, 59]) (by rfl) (by decide +kernel) (by decide +kernel) (by decide +kernel) hl hlen (by decide +kernel) (by decide +kernel) F2 N2 ht2 fun h3 tk3 t3 ht3 F3 N3 => ?_
  refine st_rep (f' := ec true true) hE kx (c := 62) (zs := [38, 103, 116, 59]) (by rfl) (by decide +kernel) (by decide +kernel) (by decide +kernel) hl hlen (by decide +kernel) (by decide +kernel) F3 N3 ht3 fun h4 tk4 t4 ht4 F4 N4 => ?_
  refine st_rep (f' := ec true true) hE kx (c := 13) (zs := [38, 35, 120, 68, 59]) (by rfl) (by decide +kernel) (by decide +kernel) (by decide +kernel) hl hlen (by decide +kernel) (by decide +kernel) F4 N4 ht4 fun h5 tk5 t5 ht5 F5 N5 => ?_
  refine st_ret (Pu.loc hE rfl kx).asS F5 N5 ht5 fun v nw h' tk tp hv F' N' => ?_
  exact ⟨by simp, Ret.intro F' N' (fun p hp => List.mem_append_left _ hp) hv⟩

set_option maxRecDepth 100000 in
set_option maxHeartbeats 8000000 in
theorem esc4_call {w : World} {A : Around} {I : HP} {l : List Nat} {ta : Tok} (hB : ∀ h, I.on h → Base w h) (hR : Rm A 1) (hl : ∀ d ∈ l, d ∈ alpha) (hlen : l.length ≤ 100000) :
    Tr w A I (call (.ref 73) [.str (ms l) ta]) (IsS (ms (l.flatMap (ec true false)))) := by
  refine' Tr.fn (binds := [(S "text", .str (ms l) ta)]) hB hR ?ho ?hcd ?hbind ?hloc ?h ?c1 ?c2 ?c3 ?c4
  case ho => with_unfolding_all rfl
  case hcd => kernel_rfl
  case hbind => rfl
  case hloc => rfl
  case c1 => rfl
  case c2 => rfl
  case c3 => rfl
  case c4 => rfl
  intro s g L hI B F0 N0 ht0
  generalize hEnv : envOf _ _ L 73 (Value.ref 72) = env
  have hE : EnvOk env L := by subst hEnv; exact ⟨rfl, rfl, rfl, rfl⟩
  have kx : env.kindOf (S "text") = some .local := by subst hEnv; rfl
  generalize A.deeper env = A' at *
  refine try_ret ?_
  have F1 : Fr g L s.heap (lk [(S "text", .str (ms (l.flatMap fun c => [c])) ta)]) := by rw [List.flatMap_singleton']; exact F0
  clear F0
  have N1 := N0
  have ht1 := ht0
  refine st_rep (f' := ec false false) hE kx (c := 38) (zs := [38, 97, 109, 112, 59]) (by rfl) (by decide +kernel) (by decide +kernel) (by decide +kernel) hl hlen (by decide +kernel) (by decide +kernel) F1 N1 ht1 fun h2 tk2 t2 ht2 F2 N2 => ?_
  refine st_rep (f' := ec true false) hE kx (c := 60) (zs := [38, 108, 116, 59]) (by rfl) (by decide +kernel) (by decide +kernel) (by decide +kernel) hl hlen (by decide +kernel) (by decide +kernel) F2 N2 ht2 fun h3 tk3 t3 ht3 F3 N3 => ?_
  refine st_rep (f' := ec true false) hE kx (c := 34) (zs := [38, 113, 117, 111, 116, 59]) (by rfl) (by decide +kernel) (by decide +kernel) (by decide +kernel) hl hlen (by decide +kernel) (by decide +kernel) F3 N3 ht3 fun h4 tk4 t4 ht4 F4 N4 => ?_
  refine st_rep (f' := ec true false) hE kx (c := 9) (zs := [38, 35, 120, 57, 59]) (by rfl) (by decide +kernel) (by decide +kernel) (by decide +kernel) hl hlen (by decide +kernel) (by decide +kernel) F4 N4 ht4 fun h5 tk5 t5 ht5 F5 N5 => ?_
  refine st_rep (f' := ec true false) hE kx (c := 10) (zs := [38, 35, 120, 65, 59]) (by rfl) (by decide +kernel) (by decide +kernel) (by decide +kernel) hl hlen (by decide +kernel) (by decide +kernel) F5 N5 ht5 fun h6 tk6 t6 ht6 F6 N6 => ?_
  refine st_rep (f' := ec true false) hE kx (c := 13) (zs := [38, 35, 120, 68, 59]) (by rfl) (by decide +kernel) (by decide +kernel) (by decide +kernel) hl hlen (by decide +kernel) (by decide +kernel) F6 N6 ht6 fun h7 tk7 t7 ht7 F7 N7 => ?_
  refine st_ret (Pu.loc hE rfl kx).asS F7 N7 ht7 fun v nw h' tk tp hv F' N' => ?_
  exact ⟨by simp, Ret.intro F' N' (fun p hp => List.mem_append_left _ hp) hv⟩

end Mine
end
section
open PySem PySem.W PyProof.Rows PySem.Calls
open PySem.Builtin PySem.Builtin.Str
set_option Elab.async false
set_option linter.unusedVariables false
namespace Mine
section
variable {w : World} {A : Around} {env : Env} {g : Heap} {L : Addr} {s : Shared} {rest : List Stmt}

/-- an iterator that was just made -/
theorem it_fresh {x : PySem.Str} {px : Pos} {body : List Stmt} {l : List (PySem.Str × Value)} {news : Led} {o : Obj} {fp : List Addr} {n : Nat} {P : Nat → Value → Prop} {St : Nat → Heap → Prop} {R : Result → Shared → Prop} (hE : EnvOk env L) (hx : env.kindOf x = some .local)
    (W : Walks PR w A s.heap.objs.size (s.heap.objs.size :: fp) [s.heap.objs.size] n P St) (hst : St 0 (s.heap.push o)) (hlive : ∀ i h, St i h → ∃ o, h.get? s.heap.objs.size = some o) (hfp : L ∉ fp)
    (F : Fr g L s.heap (lk l)) (N : News g L s.heap news) (ht : 0 < s.toks)
    (J : Nat → List (PySem.Str × Value) → Led → Prop) (h0 : J 0 l news)
    (step : ∀ i v l₁ news₁ own s₁, i < n → P i v → J i l₁ news₁ → (∀ p ∈ own, p.1 ∈ fp ∨ p.1 = s.heap.objs.size) → (∀ p ∈ news₁, p.1 ≠ s.heap.objs.size) → Fr g L s₁.heap (lk ((x, v) :: l₁)) → News g L s₁.heap (own ++ news₁) → 0 < s₁.toks → (∃ h tk, s₁ = { s with heap := h, toks := tk }) →
      wpAny (MD w) A (execs body env) (LE g L own news₁ (J (i + 1)) s₁ fun v s' => R (.ok (.ret v)) s') NE s₁)
    (hR : ∀ h' tk l' news', 0 < tk → Fr g L h' (lk l') → News g L h' news' → J n l' news' → R (.ok .next) { s with heap := h', toks := tk }) :
    codeAny (MD w) A (.forLoop (.Name x px) (.ref s.heap.objs.size) body [] env) R { s with heap := s.heap.push o } := by
  have hLlt : L < s.heap.objs.size := F.ns.lt
  refine for_core hE hx W ?_ ?_ ?_ hst ?_ (F.push _) (fun p hp => ⟨Heap.get?_push_of_some _ (N p hp).1, (N p hp).2⟩) ht J h0 ?_ ?_
  · intro hm
    rcases List.mem_cons.mp hm with e | hm
    · exact absurd hLlt (e ▸ Nat.lt_irrefl _)
    · exact hfp hm
  · intro b hb
    rw [List.mem_singleton.mp hb]
    exact get_none_back F.keep (size_none _ (Nat.le_refl _))
  · intro p hp hI
    exact absurd (Heap.lt_size (N p hp).1) ((List.mem_singleton.mp hI) ▸ Nat.lt_irrefl _)
  · intro i h hi b hb
    rw [List.mem_singleton.mp hb]; exact hlive i h hi
  · intro i v l₁ news₁ own s₁ hi hP hJ hown hnw F₁ N₁ ht₁ hs₁ _
    refine step i v l₁ news₁ own s₁ hi hP hJ (fun p hp => ?_) (fun p hp e => hnw p hp (List.mem_singleton.mpr e)) F₁ N₁ ht₁ (by obtain ⟨h, tk, e⟩ := hs₁; exact ⟨h, tk, e⟩)
    rcases List.mem_cons.mp (hown p hp) with q | q
    · exact .inr q
    · exact .inl q
  · intro h' tk l' news' tp F' N' hJ
    exact hR h' tk l' news' tp F' N' hJ

/-- the signs of a text -/
theorem it_str {x : PySem.Str} {px : Pos} {body : List Stmt} {l : List (PySem.Str × Value)} {news : Led} {y : PySem.Str} {t : Tok} {R : Result → Shared → Prop} (hh : A.handled = none) (hE : EnvOk env L) (hx : env.kindOf x = some .local)
    (F : Fr g L s.heap (lk l)) (N : News g L s.heap news) (ht : 0 < s.toks)
    (J : Nat → List (PySem.Str × Value) → Led → Prop) (h0 : J 0 l news)
    (step : ∀ i c u l₁ news₁ own s₁, (tl y)[i]? = some c → J i l₁ news₁ → (∀ p ∈ own, p.1 = s.heap.objs.size) → (∀ p ∈ news₁, p.1 ≠ s.heap.objs.size) → Fr g L s₁.heap (lk ((x, .str ⟨#[c]⟩ u) :: l₁)) → News g L s₁.heap (own ++ news₁) → 0 < s₁.toks → (∃ h tk, s₁ = { s with heap := h, toks := tk }) →
      wpAny (MD w) A (execs body env) (LE g L own news₁ (J (i + 1)) s₁ fun v s' => R (.ok (.ret v)) s') NE s₁)
    (hR : ∀ h' tk l' news', 0 < tk → Fr g L h' (lk l') → News g L h' news' → J (tl y).length l' news' → R (.ok .next) { s with heap := h', toks := tk }) :
    wpAny (MD w) A (pyIter (.str y t)) (fun it s₂ => ∃ I, it = .ref I ∧ codeAny (MD w) A (.forLoop (.Name x px) (.ref I) body [] env) R s₂) NE s := by
  have e : (tl y).length = y.cps.size := by simp [tl]
  rw [e] at hR
  have fin : ∀ (o : Obj) (St : Nat → Heap → Prop), Walks PR w A s.heap.objs.size [s.heap.objs.size] [s.heap.objs.size] y.cps.size (SignAt y) St → St 0 (s.heap.push o) → (∀ i h, St i h → ∃ o, h.get? s.heap.objs.size = some o) →
      codeAny (MD w) A (.forLoop (.Name x px) (.ref s.heap.objs.size) body [] env) R { s with heap := s.heap.push o } := fun o St W hst hl =>
    it_fresh hE hx W hst hl (by simp) F N ht J h0 (fun i v l₁ news₁ own s₁ hi hP hJ hown hnw F₁ N₁ ht₁ hs₁ => by
      obtain ⟨c, u, hc, rfl⟩ := hP
      exact step i c u l₁ news₁ own s₁ (by simpa [tl] using hc) hJ (fun p hp => (hown p hp).resolve_left (by simp)) hnw F₁ N₁ ht₁ hs₁) hR
  cases ha : y.cps.all (· < 128)
  · exact wpAny_pyIter_wide ha ⟨_, rfl, fin _ _ (Walks.strWide hh _ y t) ⟨_, Heap.get?_push_size _ rfl, rfl, rfl⟩ fun i h ⟨o, ho, _⟩ => ⟨o, ho⟩⟩
  · exact wpAny_pyIter_ascii ha ⟨_, rfl, fin _ _ (Walks.strAscii hh _ y t) ⟨_, Heap.get?_push_size _ rfl, rfl, rfl⟩ fun i h ⟨o, ho, _⟩ => ⟨o, ho⟩⟩

/-- a tuple, item by item -/
theorem it_tuple {x : PySem.Str} {px : Pos} {body : List Stmt} {l : List (PySem.Str × Value)} {news : Led} {a : Addr} {vs : List Value} {R : Result → Shared → Prop} (hh : A.handled = none) (hE : EnvOk env L) (hx : env.kindOf x = some .local)
    (hl : s.heap.get? a = some (To vs)) (haL : a ≠ L) (F : Fr g L s.heap (lk l)) (N : News g L s.heap news) (ht : 0 < s.toks)
    (J : Nat → List (PySem.Str × Value) → Led → Prop) (h0 : J 0 l news)
    (step : ∀ i v l₁ news₁ own s₁, vs[i]? = some v → J i l₁ news₁ → (∀ p ∈ own, p.1 = a ∨ p.1 = s.heap.objs.size) → (∀ p ∈ news₁, p.1 ≠ s.heap.objs.size) → Fr g L s₁.heap (lk ((x, v) :: l₁)) → News g L s₁.heap (own ++ news₁) → 0 < s₁.toks → (∃ h tk, s₁ = { s with heap := h, toks := tk }) →
      wpAny (MD w) A (execs body env) (LE g L own news₁ (J (i + 1)) s₁ fun v s' => R (.ok (.ret v)) s') NE s₁)
    (hR : ∀ h' tk l' news', 0 < tk → Fr g L h' (lk l') → News g L h' news' → J vs.length l' news' → R (.ok .next) { s with heap := h', toks := tk }) :
    wpAny (MD w) A (pyIter (.ref a)) (fun it s₂ => ∃ I, it = .ref I ∧ codeAny (MD w) A (.forLoop (.Name x px) (.ref I) body [] env) R s₂) NE s := by
  have hlt : a < s.heap.objs.size := Heap.lt_size hl
  have hT : s.heap.IsTuple a vs.toArray := ⟨_, hl, rfl, _, rfl⟩
  refine wpAny_pyIter_tuple hT ⟨_, rfl, ?_⟩
  have e : vs.length = vs.toArray.size := by simp
  rw [e] at hR
  refine it_fresh hE hx (Walks.tuple (prog := PR) (w := w) hh s.heap.objs.size a (Nat.ne_of_lt hlt) vs.toArray) ⟨⟨_, Heap.get?_push_size _ rfl, rfl, rfl⟩, hT.push _⟩ (fun i h st => let ⟨o, ho, _⟩ := st.1; ⟨o, ho⟩) (by simpa using Ne.symm haL) F N ht J h0
    (fun i v l₁ news₁ own s₁ hi hP hJ hown hnw F₁ N₁ ht₁ hs₁ => step i v l₁ news₁ own s₁ (by simpa using hP) hJ (fun p hp => (hown p hp).imp_left List.mem_singleton.mp) hnw F₁ N₁ ht₁ hs₁) hR

/-- the keys of a dict, in their order -/
theorem it_keys {K : Type} [DecidableEq K] {knd : KeyKind PR w K} {kvs : List (K × Value)} {x : PySem.Str} {px : Pos} {body : List Stmt} {l : List (PySem.Str × Value)} {news : Led} {a : Addr} {R : Result → Shared → Prop} (hh : A.handled = none) (hE : EnvOk env L) (hx : env.kindOf x = some .local)
    (hl : s.heap.DictOf knd a kvs) (hds : (a == sysModules) = false) (haL : a ≠ L) (F : Fr g L s.heap (lk l)) (N : News g L s.heap news) (ht : 0 < s.toks)
    (J : Nat → List (PySem.Str × Value) → Led → Prop) (h0 : J 0 l news)
    (step : ∀ i k u v l₁ news₁ own s₁, kvs[i]? = some (k, u) → knd.is k v = true → J i l₁ news₁ → (∀ p ∈ own, p.1 = a ∨ p.1 = s.heap.objs.size) → (∀ p ∈ news₁, p.1 ≠ s.heap.objs.size) → Fr g L s₁.heap (lk ((x, v) :: l₁)) → News g L s₁.heap (own ++ news₁) → 0 < s₁.toks → (∃ h tk, s₁ = { s with heap := h, toks := tk }) →
      wpAny (MD w) A (execs body env) (LE g L own news₁ (J (i + 1)) s₁ fun v s' => R (.ok (.ret v)) s') NE s₁)
    (hR : ∀ h' tk l' news', 0 < tk → Fr g L h' (lk l') → News g L h' news' → J kvs.length l' news' → R (.ok .next) { s with heap := h', toks := tk }) :
    wpAny (MD w) A (pyIter (.ref a)) (fun it s₂ => ∃ I, it = .ref I ∧ codeAny (MD w) A (.forLoop (.Name x px) (.ref I) body [] env) R s₂) NE s := by
  obtain ⟨ep, hd⟩ := hl.dictAt
  have hlt : a < s.heap.objs.size := hd.lt_size
  refine wpAny_pyIter_dict hds hd ⟨_, rfl, ?_⟩
  refine it_fresh hE hx (Walks.dictKeys (prog := PR) (w := w) hh s.heap.objs.size a (Nat.ne_of_lt hlt) kvs ep) ⟨⟨_, Heap.get?_push_size _ rfl, rfl, rfl⟩, hd.keep fun b o e => Heap.get?_push_of_some _ e⟩ (fun i h st => let ⟨o, ho, _⟩ := st.1; ⟨o, ho⟩) (by simpa using Ne.symm haL) F N ht J h0
    (fun i v l₁ news₁ own s₁ hi hP hJ hown hnw F₁ N₁ ht₁ hs₁ => by
      obtain ⟨k, u, hk, hv⟩ := hP
      exact step i k u v l₁ news₁ own s₁ hk hv hJ (fun p hp => (hown p hp).imp_left List.mem_singleton.mp) hnw F₁ N₁ ht₁ hs₁) hR
end

section
variable {w : World} {A : Around} {env : Env} {I : HP}
abbrev TeW (w : World) (A : Around) (env : Env) (I : HP) (e : Expr) (whole : Sem Value) (b : Bool) : Prop := Tr w A I (isTrue e env whole) (IsT b)
theorem and_nil {p : Pos} {whole : Sem Value} : TeW w A env I (.BoolOp .And [] p) whole true := .mk fun _ _ _ _ k => isTrue_and_nil (k _ [] _ _ (stays_refl _) .nil rfl)
theorem or_nil {p : Pos} {whole : Sem Value} : TeW w A env I (.BoolOp .Or [] p) whole false := .mk fun _ _ _ _ k => isTrue_or_nil (k _ [] _ _ (stays_refl _) .nil rfl)
theorem and_cons {e : Expr} {es : List Expr} {p : Pos} {whole : Sem Value} {a b : Bool} (ha : Te w A env I e a) (hb : a = true → TeW w A env I (.BoolOp .And es p) whole b) : TeW w A env I (.BoolOp .And (e :: es) p) whole (a && b) :=
  .mk fun s Q hI ht k => isTrue_and (ha s _ hI ht fun v nw h' tk tp st i n hv => by
    cases hv
    cases a with
    | false => exact k false nw h' tk st n rfl
    | true => exact hb rfl _ _ i tp fun v nu h2 tk2 _ st2 _ n2 hv2 => k v nu h2 tk2 (stays_trans st st2) (New.earlier st n2) hv2)
theorem or_cons {e : Expr} {es : List Expr} {p : Pos} {whole : Sem Value} {a b : Bool} (ha : Te w A env I e a) (hb : a = false → TeW w A env I (.BoolOp .Or es p) whole b) : TeW w A env I (.BoolOp .Or (e :: es) p) whole (a || b) :=
  .mk fun s Q hI ht k => isTrue_or (ha s _ hI ht fun v nw h' tk tp st i n hv => by
    cases hv
    cases a with
    | true => exact k true nw h' tk st n rfl
    | false => exact hb rfl _ _ i tp fun v nu h2 tk2 _ st2 _ n2 hv2 => k v nu h2 tk2 (stays_trans st st2) (New.earlier st n2) hv2)
theorem Te.and2 {a b : Expr} {p : Pos} {x y : Bool} (ha : Te w A env I a x) (hb : x = true → Te w A env I b y) : Te w A env I (.BoolOp .And [a, b] p) (x && y) := by
  have := and_cons (es := [b]) (p := p) (whole := eval (.BoolOp .And [a, b] p) env) (b := y && true) ha fun h => and_cons (hb h) fun _ => and_nil
  rwa [Bool.and_true] at this
theorem op_iaddS {x y : PySem.Str} {t : Tok} {b : Value} {n2 : Led} (hb : IsS y b n2) (hz : x.length + y.length ≤ sizeLine) : Tr w A I (inplaceOp .Add (.str x t) b) (IsS (x ++ y)) := by
  obtain ⟨u, rfl⟩ := hb
  exact .mk fun _ _ _ _ k => PyProof.Rows.iadd_str (fun t' tk => k _ [] _ _ (stays_refl _) .nil ⟨_, rfl⟩) hz
end
end Mine
end
section
open PySem PySem.W PyProof.Rows PySem.Calls
open PySem.Builtin PySem.Builtin.Str
set_option Elab.async false
set_option linter.unusedVariables false
namespace Mine
abbrev ecK (k : Nat) : Nat → List Nat := ec (k != 2) (k != 4)

theorem g_e0 (w : World) : nsIn (KK w) mainGlobals (S "_escape_cdata") = some (some (.ref 45)) := by kernel_rfl
theorem g_e1 (w : World) : nsIn (KK w) mainGlobals (S "_escape_attrib") = some (some (.ref 52)) := by kernel_rfl
theorem g_e2 (w : World) : nsIn (KK w) mainGlobals (S "_escape_attrib_html") = some (some (.ref 59)) := by kernel_rfl
theorem g_e3 (w : World) : nsIn (KK w) mainGlobals (S "_escape_cdata_c14n") = some (some (.ref 66)) := by kernel_rfl
theorem g_e4 (w : World) : nsIn (KK w) mainGlobals (S "_escape_attrib_c14n") = some (some (.ref 73)) := by kernel_rfl
theorem k_e0 (w : World) : keepIn (KK w) (.ref 45) = true := by kernel_rfl
theorem k_e1 (w : World) : keepIn (KK w) (.ref 52) = true := by kernel_rfl
theorem k_e2 (w : World) : keepIn (KK w) (.ref 59) = true := by kernel_rfl
theorem k_e3 (w : World) : keepIn (KK w) (.ref 66) = true := by kernel_rfl
theorem k_e4 (w : World) : keepIn (KK w) (.ref 73) = true := by kernel_rfl

set_option maxRecDepth 100000 in
set_option maxHeartbeats 8000000 in
theorem written_call {w : World} {A : Around} {I : HP} {l : List Nat} {ta tk : Tok} {k : Nat} (hk : k < 5) (hB : ∀ h, I.on h → Base w h) (hR : Rm A 2) (hl : ∀ d ∈ l, d ∈ alpha) (hlen : l.length ≤ 100000) :
    Tr w A I (call (.ref 80) [.int k tk, .str (ms l) ta]) (IsS (ms (l.flatMap (ecK k)))) := by
  refine' Tr.fn (binds := [(S "kind", .int k tk), (S "text", .str (ms l) ta)]) hB (hR.less (by decide)) ?ho ?hcd ?hbind ?hloc ?h ?c1 ?c2 ?c3 ?c4
  case ho => with_unfolding_all rfl
  case hcd => kernel_rfl
  case hbind => rfl
  case hloc => rfl
  case c1 => rfl
  case c2 => rfl
  case c3 => rfl
  case c4 => rfl
  intro s g L hI B F0 N0 ht0
  generalize hEnv : envOf _ _ L 80 (Value.ref 79) = env
  have hE : EnvOk env L := by subst hEnv; exact ⟨rfl, rfl, rfl, rfl⟩
  have kx : env.kindOf (S "text") = some .local := by subst hEnv; rfl
  have kk : env.kindOf (S "kind") = some .local := by subst hEnv; rfl
  have k0 : env.kindOf (S "_escape_cdata") = some .globalImplicit := by subst hEnv; rfl
  have k1 : env.kindOf (S "_escape_attrib") = some .globalImplicit := by subst hEnv; rfl
  have k2 : env.kindOf (S "_escape_attrib_html") = some .globalImplicit := by subst hEnv; rfl
  have k3 : env.kindOf (S "_escape_cdata_c14n") = some .globalImplicit := by subst hEnv; rfl
  have k4 : env.kindOf (S "_escape_attrib_c14n") = some .globalImplicit := by subst hEnv; rfl
  have hR' : Rm (A.deeper env) 1 := hR.deeper
  generalize A.deeper env = A' at hR' ⊢
  have hb := FR.base (L := L) (l := [(S "text", .str (ms l) ta), (S "kind", .int k tk)]) (news := []) B
  have hbn : ∀ n : Led, ∀ h, ((FR g L [(S "text", .str (ms l) ta), (S "kind", .int k tk)] []).and n).on h → Base w h := fun n h x => hb h x.1
  have fin : ∀ {kk : Nat}, k = kk → ∀ v nw h' tk', 0 < tk' → IsS (ms (l.flatMap (ecK kk))) v nw → Fr g L h' (lk [(S "text", .str (ms l) ta), (S "kind", .int k tk)]) → News g L h' (nw ++ []) →
      Ret g (IsS (ms (l.flatMap (ecK k)))) s (.ret v) { s with heap := h', toks := tk' } := fun e v nw h' tk' tp hv F' N' => Ret.intro F' N' (fun p hp => List.mem_append_left _ hp) (e ▸ hv)
  refine st_if (c := ((k : Int) == 0)) (Te.cmp (Pu.loc hE rfl kk).asI Pu.int fun _ _ _ _ ha hb => op_eqI ha hb) F0 N0 ht0 fun h1 tk1 ht1 F1 N1 => ?_
  by_cases e0 : k = 0
  · subst e0
    refine st_ret (Pu.callF hb (k_e0 w) (Pu.glob hE hb k0 (g_e0 w)) (.cons (Pu.loc hE rfl kx) .nil) fun vs n hvs => ?_) F1 N1 ht1 (fin rfl)
    obtain ⟨a, rfl, u⟩ := LV1 hvs; obtain rfl := u.v
    exact esc0_call (hbn n) hR' hl hlen
  rw [show ((k : Int) == 0) = false by simpa using e0]
  refine st_nil ?_
  refine st_if (c := ((k : Int) == 1)) (Te.cmp (Pu.loc hE rfl kk).asI Pu.int fun _ _ _ _ ha hb => op_eqI ha hb) F1 N1 ht1 fun h2 tk2 ht2 F2 N2 => ?_
  by_cases e1 : k = 1
  · subst e1
    refine st_ret (Pu.callF hb (k_e1 w) (Pu.glob hE hb k1 (g_e1 w)) (.cons (Pu.loc hE rfl kx) .nil) fun vs n hvs => ?_) F2 N2 ht2 (fin rfl)
    obtain ⟨a, rfl, u⟩ := LV1 hvs; obtain rfl := u.v
    exact esc1_call (hbn n) hR' hl hlen
  rw [show ((k : Int) == 1) = false by simp; omega]
  refine st_nil ?_
  refine st_if (c := ((k : Int) == 2)) (Te.cmp (Pu.loc hE rfl kk).asI Pu.int fun _ _ _ _ ha hb => op_eqI ha hb) F2 N2 ht2 fun h3 tk3 ht3 F3 N3 => ?_
  by_cases e2 : k = 2
  · subst e2
    refine st_ret (Pu.callF hb (k_e2 w) (Pu.glob hE hb k2 (g_e2 w)) (.cons (Pu.loc hE rfl kx) .nil) fun vs n hvs => ?_) F3 N3 ht3 (fin rfl)
    obtain ⟨a, rfl, u⟩ := LV1 hvs; obtain rfl := u.v
    exact esc2_call (hbn n) hR' hl hlen
  rw [show ((k : Int) == 2) = false by simp; omega]
  refine st_nil ?_
  refine st_ret (V := IsS (ms (l.flatMap (ecK k)))) (Pu.ifexp (c := ((k : Int) == 3)) (Te.cmp (Pu.loc hE rfl kk).asI Pu.int fun _ _ _ _ ha hb => op_eqI ha hb) (fun e => ?_) fun e => ?_) F3 N3 ht3 (fin rfl)
  · refine Pu.callF hb (k_e3 w) (Pu.glob hE hb k3 (g_e3 w)) (.cons (Pu.loc hE rfl kx) .nil) fun vs n hvs => ?_
    obtain ⟨a, rfl, u⟩ := LV1 hvs; obtain rfl := u.v
    have : k = 3 := by simp at e; omega
    subst this
    exact esc3_call (hbn n) hR' hl hlen
  · refine Pu.callF hb (k_e4 w) (Pu.glob hE hb k4 (g_e4 w)) (.cons (Pu.loc hE rfl kx) .nil) fun vs n hvs => ?_
    obtain ⟨a, rfl, u⟩ := LV1 hvs; obtain rfl := u.v
    have : k = 4 := by simp at e; omega
    subst this
    exact esc4_call (hbn n) hR' hl hlen

theorem ec_len (lt gt : Bool) (c : Nat) : (ec lt gt c).length ≤ 5 := by
  unfold ec
  split
  · simp
  · split
    · simp
    · split <;> simp
theorem take_snoc {α β : Type} {l : List α} {i : Nat} {c : α} (h : l[i]? = some c) (f : α → List β) : (l.take (i + 1)).flatMap f = (l.take i).flatMap f ++ f c := by
  rw [List.take_add_one, h]; simp
theorem beq_one (c d : Nat) : ((⟨#[c]⟩ : PySem.Str) == ⟨#[d]⟩) = (c == d) := by
  rw [Bool.eq_iff_iff]; simp

set_option maxRecDepth 100000 in
set_option maxHeartbeats 8000000 in
theorem spelled_call {w : World} {A : Around} {I : HP} {l : List Nat} {ta tk : Tok} {k : Nat} (hk : k < 5) (hB : ∀ h, I.on h → Base w h) (hR : Rm A 1) (hl : ∀ d ∈ l, d ∈ alpha) (hlen : l.length ≤ 100000) :
    Tr w A I (call (.ref 87) [.int k tk, .str (ms l) ta]) (IsS (ms (l.flatMap (ecK k)))) := by
  refine' Tr.fn (binds := [(S "kind", .int k tk), (S "text", .str (ms l) ta)]) hB hR ?ho ?hcd ?hbind ?hloc ?h ?c1 ?c2 ?c3 ?c4
  case ho => with_unfolding_all rfl
  case hcd => kernel_rfl
  case hbind => rfl
  case hloc => rfl
  case c1 => rfl
  case c2 => rfl
  case c3 => rfl
  case c4 => rfl
  intro s g L hI B F0 N0 ht0
  generalize hEnv : envOf _ _ L 87 (Value.ref 86) = env
  have hE : EnvOk env L := by subst hEnv; exact ⟨rfl, rfl, rfl, rfl⟩
  have kx : env.kindOf (S "text") = some .local := by subst hEnv; rfl
  have kk : env.kindOf (S "kind") = some .local := by subst hEnv; rfl
  have ksp : env.kindOf (S "spelled") = some .local := by subst hEnv; rfl
  have ksg : env.kindOf (S "sign") = some .local := by subst hEnv; rfl
  have hR' : Rm (A.deeper env) 0 := hR.deeper
  generalize A.deeper env = A' at hR' ⊢
  refine st_assign hE ksp Pu.str F0 N0 ht0 fun v nw h1 tk1 ht1 hv F1 N1 => ?_
  obtain ⟨t1, rfl⟩ := hv
  have N1' : News g L h1 [] := fun p hp => nomatch hp
  refine st_for (V := IsV (.str (ms l) ta)) hE ksg (Pu.loc hE rfl kx) F1 N1' ht1 fun v nw h2 tk2 ht2 hv st2 F2 N2 _ => ?_
  cases hv
  refine it_str hR'.hh hE ksg F2 (News.nil : News g L h2 []) ht2
    (fun i l₁ news₁ => ∃ t sv, lk l₁ = lk [(S "spelled", .str (ms ((l.take i).flatMap (ecK k))) t), (S "sign", sv), (S "text", .str (ms l) ta), (S "kind", .int k tk)] ∨
      (i = 0 ∧ lk l₁ = lk [(S "spelled", .str (ms []) t), (S "text", .str (ms l) ta), (S "kind", .int k tk)])) ?_ ?_ ?_
  · exact ⟨t1, .none, .inr ⟨rfl, rfl⟩⟩
  · rintro i c u l₁ news₁ own s₁ hc hJ hown hnw F₁ N₁ ht₁ -
    obtain ⟨t, hlk⟩ : ∃ t, lk ((S "sign", .str ⟨#[c]⟩ u) :: l₁) = lk [(S "sign", .str ⟨#[c]⟩ u), (S "spelled", .str (ms ((l.take i).flatMap (ecK k))) t), (S "text", .str (ms l) ta), (S "kind", .int k tk)] := by
      obtain ⟨t, sv, e | ⟨rfl, e⟩⟩ := hJ
      · refine ⟨t, (lk_congr e).trans (lk_ext ?_)⟩
        repeat' (first | exact trivial | refine ⟨rfl, ?_⟩)
      · exact ⟨t, lk_congr e⟩
    rw [hlk] at F₁
    have N₂ : News g L s₁.heap own := fun p hp => N₁ p (List.mem_append_left _ hp)
    have hct : c ∈ alpha := hl c (List.mem_of_getElem? (by rwa [tl_ms] at hc))
    have hsz : ((l.take i).flatMap (ecK k)).length ≤ 500000 := by
      have e1 := flat_len (l := l.take i) (f := ecK k) (n := 5) fun d hd => ec_len _ _ d
      have : (l.take i).length ≤ 100000 := by rw [List.length_take]; omega
      omega
    have hz : sizeLine = 16777216 := sizeLine_eq
    have done : ∀ (add : PySem.Str) h' tk' t', 0 < tk' → add = ms (ecK k c) → Fr g L h' (lk [(S "spelled", .str (ms ((l.take i).flatMap (ecK k)) ++ add) t'), (S "sign", .str ⟨#[c]⟩ u), (S "spelled", .str (ms ((l.take i).flatMap (ecK k))) t), (S "text", .str (ms l) ta), (S "kind", .int k tk)]) → (∃ nw : Led, News g L h' (nw ++ own)) → ∀ R, 
        LE g L own news₁ (fun l₁ (news₁ : Led) => ∃ t sv, lk l₁ = lk [(S "spelled", .str (ms ((l.take (i + 1)).flatMap (ecK k))) t), (S "sign", sv), (S "text", .str (ms l) ta), (S "kind", .int k tk)] ∨
      (i + 1 = 0 ∧ lk l₁ = lk [(S "spelled", .str (ms []) t), (S "text", .str (ms l) ta), (S "kind", .int k tk)])) s₁ R .next { s₁ with heap := h', toks := tk' } := by
      intro add h' tk' t' tp hadd F' ⟨nw', N'⟩ R
      refine LE.next (news₂ := []) tp F' ?_ (fun p hp => nomatch hp) ⟨t', .str ⟨#[c]⟩ u, .inl ?_⟩
      · intro p hp
        rw [List.append_nil] at hp
        exact N' p (List.mem_append_right _ hp)
      · rw [tl_ms] at hc
        rw [take_snoc hc, ← ms_app, ← hadd]
        refine lk_ext ?_
        repeat' (first | exact trivial | refine ⟨rfl, ?_⟩)
    have spl : lk [(S "sign", .str ⟨#[c]⟩ u), (S "spelled", .str (ms ((l.take i).flatMap (ecK k))) t), (S "text", .str (ms l) ta), (S "kind", .int k tk)] (S "spelled") = some (.str (ms ((l.take i).flatMap (ecK k))) t) := rfl
    have sadd : ∀ (x : PySem.Str), x.length ≤ 10 → (ms ((l.take i).flatMap (ecK k))).length + x.length ≤ sizeLine := fun x hx => by rw [len_ms]; omega
    refine st_if (c := c == 38) (Te.cmp (Pu.loc hE rfl ksg).asS Pu.str fun _ _ _ _ ha hb => (op_eqS ha hb).mono fun v nw hv => by rw [← beq_one]; exact hv) F₁ N₂ ht₁ fun h3 tk3 ht3 F3 N3 => ?_
    cases hc1 : (c == 38) with
    | true =>
      have : c = 38 := by simpa using hc1
      subst this
      refine st_aug hE ksp spl Pu.str (fun b n hb => op_iaddS hb (sadd _ (by decide +kernel))) F3 N3 ht3 fun v nw h4 tk4 ht4 hv F4 N4 => ?_
      obtain ⟨t4, rfl⟩ := hv
      exact st_nil (st_nil (done _ _ _ _ ht4 rfl F4 ⟨_, N4⟩ _))
    | false =>
      have n1 : c ≠ 38 := by simpa using hc1
      refine st_if (c := (c == 60 && k != 2)) (Te.and2 (Te.cmp (Pu.loc hE rfl ksg).asS Pu.str fun _ _ _ _ ha hb => (op_eqS ha hb).mono fun v nw hv => by rw [← beq_one]; exact hv) fun _ =>
        (Te.cmp (Pu.loc hE rfl kk).asI Pu.int fun _ _ _ _ ha hb => (op_neI ha hb).mono fun v nw hv => by rw [show (k != 2) = ((k : Int) != 2) by rw [Bool.eq_iff_iff]; simp; omega]; exact hv)) F3 N3 ht3 fun h4 tk4 ht4 F4 N4 => ?_
      cases hc2 : (c == 60 && k != 2) with
      | true =>
        simp only [Bool.and_eq_true, beq_iff_eq] at hc2
        obtain ⟨rfl, hk2⟩ := hc2
        refine st_aug hE ksp spl Pu.str (fun b n hb => op_iaddS hb (sadd _ (by decide +kernel))) F4 N4 ht4 fun v nw h5 tk5 ht5 hv F5 N5 => ?_
        obtain ⟨t5, rfl⟩ := hv
        exact st_nil (st_nil (st_nil (done _ _ _ _ ht5 (by unfold ecK ec; rw [hk2]; rfl) F5 ⟨_, N5⟩ _)))
      | false =>
        refine st_if (c := (c == 62 && k != 4)) (Te.and2 (Te.cmp (Pu.loc hE rfl ksg).asS Pu.str fun _ _ _ _ ha hb => (op_eqS ha hb).mono fun v nw hv => by rw [← beq_one]; exact hv) fun _ =>
          (Te.cmp (Pu.loc hE rfl kk).asI Pu.int fun _ _ _ _ ha hb => (op_neI ha hb).mono fun v nw hv => by rw [show (k != 4) = ((k : Int) != 4) by rw [Bool.eq_iff_iff]; simp; omega]; exact hv)) F4 N4 ht4 fun h5 tk5 ht5 F5 N5 => ?_
        cases hc3 : (c == 62 && k != 4) with
        | true =>
          simp only [Bool.and_eq_true, beq_iff_eq] at hc3
          obtain ⟨rfl, hk2⟩ := hc3
          refine st_aug hE ksp spl Pu.str (fun b n hb => op_iaddS hb (sadd _ (by decide +kernel))) F5 N5 ht5 fun v nw h6 tk6 ht6 hv F6 N6 => ?_
          obtain ⟨t6, rfl⟩ := hv
          exact st_nil (st_nil (st_nil (st_nil (done _ _ _ _ ht6 (by unfold ecK ec; rw [hk2]; simp; rfl) F6 ⟨_, N6⟩ _))))
        | false =>
          refine st_aug hE ksp spl (Pu.loc hE rfl ksg).asS (fun b n hb => op_iaddS hb (sadd _ (by show (ms [c]).length ≤ 10; rw [len_ms]; simp))) F5 N5 ht5 fun v nw h6 tk6 ht6 hv F6 N6 => ?_
          obtain ⟨t6, rfl⟩ := hv
          refine st_nil (st_nil (st_nil (st_nil (done _ _ _ _ ht6 ?_ F6 ⟨_, N6⟩ _))))
          have e : ecK k c = [c] := by
            unfold ecK ec
            rw [if_neg n1, if_neg (by rintro ⟨a, b⟩; rw [b, a] at hc2; cases hc2), if_neg (by rintro ⟨a, b⟩; rw [b, a] at hc3; cases hc3)]
          rw [e]
  · rintro h' tk' l' news' tp F' N' ⟨t, sv, hlk⟩
    have hsp : lk l' (S "spelled") = some (.str (ms (l.flatMap (ecK k))) t) := by
      rw [tl_ms, List.take_length] at hlk
      rcases hlk with e | ⟨e0, e⟩
      · rw [e]; rfl
      · have : l = [] := List.length_eq_zero_iff.mp e0
        subst this
        rw [e]; rfl
    refine st_ret (Pu.loc hE hsp ksp).asS F' N' tp fun v nw h'' tk' tp' hv F'' N'' => ?_
    exact Ret.intro F'' N'' (fun p hp => List.mem_append_left _ hp) hv


theorem g_end (w : World) : ∃ t, nsIn (KK w) mainGlobals (S "ENDMARKER") = some (some (.int 0 t)) := ⟨_, by with_unfolding_all rfl⟩
set_option maxRecDepth 100000 in
set_option maxHeartbeats 8000000 in
theorem iseof_call {w : World} {A : Around} {I : HP} {i : Int} {ti : Tok} (hB : ∀ h, I.on h → Base w h) (hR : Rm A 1) :
    Tr w A I (call (.ref 31) [.int i ti]) (IsB (i == 0)) := by
  refine' Tr.fn (binds := [(S "x", .int i ti)]) hB hR ?ho ?hcd ?hbind ?hloc ?h ?c1 ?c2 ?c3 ?c4
  case ho => with_unfolding_all rfl
  case hcd => kernel_rfl
  case hbind => rfl
  case hloc => rfl
  case c1 => rfl
  case c2 => rfl
  case c3 => rfl
  case c4 => rfl
  intro s g L hI B F0 N0 ht0
  generalize hEnv : envOf _ _ L 31 (Value.ref 30) = env
  have hE : EnvOk env L := by subst hEnv; exact ⟨rfl, rfl, rfl, rfl⟩
  have kx : env.kindOf (S "x") = some .local := by subst hEnv; rfl
  have ke : env.kindOf (S "ENDMARKER") = some .globalImplicit := by subst hEnv; rfl
  generalize A.deeper env = A'
  obtain ⟨td, gd⟩ := g_end w
  refine st_ret (Pu.cmp (Pu.loc hE rfl kx).asI (Pu.glob hE (FR.base B) ke gd).asI fun _ _ _ _ ha hb => op_eqI ha hb) F0 N0 ht0 fun v nw h' tk tp hv F' N' => ?_
  exact Ret.intro F' N' (fun p hp => List.mem_append_left _ hp) hv
end Mine
end
section
open PySem PySem.W PyProof.Rows PySem.Calls
open PySem.Builtin PySem.Builtin.Str
set_option Elab.async false
set_option linter.unusedVariables false
namespace Mine
section
variable {w : World} {A : Around} {env : Env} {I : HP} {g : Heap} {L : Addr} {l : List (PySem.Str × Value)} {news : Led}

theorem Pu.cell {x : PySem.Str} {v : Value} {p : Pos} {c : Addr} (hE : env.scope.kind = .function) (hx : env.kindOf x = some .cell) (hc : env.cells.lookup x = some c) (hv : ∀ h, I.on h → h.IsCell c (some v)) (hd : (x == ("__debug__" : Str)) = false := by rfl) :
    Pu w A env I (.Name x p) (IsV v) :=
  .name (fun s _ hI q => wpAny_loadName_cell hE hx hc (hv _ hI) q) hd
theorem Pu.free {x : PySem.Str} {v : Value} {p : Pos} {c : Addr} (hE : env.scope.kind = .function) (hx : env.kindOf x = some .free) (hc : env.cells.lookup x = some c) (hv : ∀ h, I.on h → h.IsCell c (some v)) (hd : (x == ("__debug__" : Str)) = false := by rfl)
    (hn : (x == ("__classdict__" : Str)) = false := by decide) : Pu w A env I (.Name x p) (IsV v) :=
  .name (fun s _ hI q => wpAny_loadName_free hE hx hc (hv _ hI) q hn) hd
theorem FR.cell {c : Addr} {o : Obj} {v : Option Value} (hm : (c, o) ∈ news) (ho : o.data = .cell v) : ∀ h, (FR g L l news).on h → h.IsCell c v := fun h x => ⟨o, (x.2 _ hm).1, ho⟩

/-- a cell set -/
theorem cell_set {E : Value → Shared → Prop} {c : Addr} {o : Obj} {v₀ : Option Value} {v : Value} {s : Shared} {x : PySem.Str} {Q : Unit → Shared → Prop} (hE : env.scope.kind = .function) (hx : env.kindOf x = some .cell) (hc : env.cells.lookup x = some c)
    (hm : (c, o) ∈ news) (ho : o.data = .cell v₀) (F : Fr g L s.heap (lk l)) (N : News g L s.heap news)
    (k : ∀ h' o', o'.data = .cell (some v) → Fr g L h' (lk l) → News g L h' (setL c o' news) → Heap.SameBut c s.heap h' → Q () { s with heap := h' }) : wpAny (MD w) A (storeName env x v) Q E s :=
  wpAny_storeName_cell hE hx hc ⟨o, (N _ hm).1, ho⟩ fun h' ⟨o', ho', hd'⟩ hs' => by
    obtain ⟨F', N'⟩ := news_upd' F N hm hs' ho'
    exact k h' o' hd' F' N' hs'

variable {s : Shared} {Q : Flow → Shared → Prop} {rest : List Stmt}
theorem st_assignC {x : PySem.Str} {e : Expr} {p1 p2 : Pos} {V : Value → Led → Prop} {c : Addr} {o : Obj} {v₀ : Option Value} (hE : EnvOk env L) (hx : env.kindOf x = some .cell) (hc : env.cells.lookup x = some c)
    (hm : (c, o) ∈ news) (ho : o.data = .cell v₀) (hp : Pu w A env (FR g L l news) e V) (F : Fr g L s.heap (lk l)) (N : News g L s.heap news) (ht : 0 < s.toks)
    (k : ∀ v nw o' h' tk, 0 < tk → V v nw → o'.data = .cell (some v) → Fr g L h' (lk l) → News g L h' (nw ++ setL c o' news) → wpAny (MD w) A (execs rest env) Q NE { s with heap := h', toks := tk })
    (hsw : swapsWith e (some (.Name x p1)) p2.line env = pure false := by rfl) : wpAny (MD w) A (execs (.Assign [.Name x p1] e p2 :: rest) env) Q NE s := by
  refine wpAny_execs_cons (wpAny_Assign_Name (hp s _ ⟨F, N⟩ ht fun v nw h1 tk1 tp1 st1 i1 n1 hv => ?_) hsw)
  refine cell_set hE.kind hx hc (List.mem_append_right nw hm) ho i1.1 (news_new F N st1 n1) fun h' o' ho' F' N' hs' => ?_
  refine k v nw o' h' tk1 tp1 hv ho' F' ?_
  have : setL c o' (nw ++ news) = nw ++ setL c o' news := by
    unfold setL
    rw [List.map_append]
    congr 1
    refine setL_off fun p hp e => ?_
    have := (n1 p hp).2
    rw [e, (N _ hm).1] at this; cases this
  rwa [this] at N'

/-- a call of a def of the text that has cells -/
theorem Tr.fnC {f : Addr} {vals : List Value} {U : Value → Led → Prop} {name qual : PySem.Str} {params : Arguments} {body : List Stmt} {scope : Scope} {dV kV doc pm cdv ct oc : Value} {an od : Option Addr} {osl : Array (Option Value)} {binds : List (PySem.Str × Value)}
    (hB : ∀ h, I.on h → Base w h) (hR : Rm A 1)
    (ho : (KK w).lookup f = some ⟨oc, od, .func (fnOf name qual params body scope dV kV doc pm an cdv ct), osl⟩) (hcd : codeIn (KK w) cdv qual = true)
    (hbind : bindArgs (fnOf name qual params body scope dV kV doc pm an cdv ct) ⟨vals, []⟩ = pure binds)
    (hkind : ∀ L : Addr, ∀ x ∈ binds, scope.names.lookup x.1 = some .local ∨ (scope.names.lookup x.1 = some .cell ∧ ((cellsFrom (L + 1) scope.names []).lookup x.1).isSome = true))
    (hnd : ((cellsFrom 0 scope.names []).map (·.1)).Nodup)
    (h : ∀ (s : Shared) (g : Heap) (L : Addr) (cells : Led), I.on g → Base w g → CellsAre (bindC (fun x => scope.names.lookup x) binds fun _ => none) (cellsFrom (L + 1) scope.names []) cells →
      Fr g L s.heap (bindL (fun x => scope.names.lookup x) binds fun _ => none) → News g L s.heap cells → 0 < s.toks →
      wpAny (MD w) (A.deeper (callEnvC (fnOf name qual params body scope dV kV doc pm an cdv ct) L f)) (execs body (callEnvC (fnOf name qual params body scope dV kV doc pm an cdv ct) L f)) (Ret g U s) NE s)
    (hco : scope.isCoroutine = false := by rfl) (hgen : scope.isGenerator = false := by rfl) (hk : scope.kind = .function := by rfl) :
    Tr w A I (call (.ref f) vals) U := by
  refine .mk fun s Q hI ht k => wpAny_call ?_
  have B := hB _ hI
  obtain ⟨mean, mg, mb, T⟩ := B.T
  have hr : A.depth < recursionLimit := by have := hR.hd; omega
  refine codeAny_call_function hr (B.K _ _ ho) rfl hco hgen rfl (codeRec_of B.K hcd) ?_
  rw [hbind]
  refine wpAny_pure (wpAny_with_toks (n := 1) ht (wpAny_newFunctionEnv_cells hk (hkind _) fun env he s' X htk => ?_))
  subst he
  refine ⟨T.nolimit.keeps X.toInCall.keep, codeAny_func ?_⟩
  obtain ⟨h₁, tk₁, rfl⟩ := X.toInCall.same
  have F : Fr s.heap s.heap.objs.size h₁ (bindL (fun x => scope.names.lookup x) binds fun _ => none) := ⟨X.toInCall.ns, X.toInCall.keep, Nat.le_refl _⟩
  have hnd' : ((cellsFrom (s.heap.objs.size + 1) scope.names []).map (·.1)).Nodup := by rw [cellsFrom_names _ _ 0 [] [] rfl]; exact hnd
  have key : ∀ n c, (n, c) ∈ cellsFrom (s.heap.objs.size + 1) scope.names [] → h₁.IsCell c (bindC (fun x => scope.names.lookup x) binds (fun _ => none) n) ∧ s.heap.objs.size < c := fun n c hm =>
    ⟨X.cell n c (lookup_of_mem_nodup hnd' hm), X.above n c hm⟩
  obtain ⟨cells, N, CA⟩ := Cl.news (h₀ := s.heap) (Nat.le_refl _) key
  refine wpAny_mono (h _ s.heap s.heap.objs.size cells hI B CA F N (by have := htk; exact this)) (fun fl s' x => ?_) fun _ _ x => x.elim
  obtain ⟨v, nw, h', tk, rfl, rfl, st, n, hu⟩ := x
  exact k v nw h' tk st n hu
end

/-- what a comprehension goes through -/
def Src (w : World) (A : Around) (I : HP) (xv : Value) (n : Nat) (P : Nat → Value → Prop) : Prop :=
  ∀ (s : Shared) (Q : Value → Shared → Prop), I.on s.heap →
    (∀ o fp St, Walks PR w A s.heap.objs.size (s.heap.objs.size :: fp) [s.heap.objs.size] n P St → St 0 (s.heap.push o) → (∀ b ∈ fp, b < s.heap.objs.size) → Q (.ref s.heap.objs.size) { s with heap := s.heap.push o }) →
    wpAny (MD w) A (pyIter xv) Q NE s
section
variable {w : World} {A : Around} {I : HP}
theorem Src.list {a : Addr} {vs : List Value} (hh : A.handled = none) (hl : ∀ h, I.on h → h.IsList a vs.toArray) : Src w A I (.ref a) vs.length (fun i v => vs[i]? = some v) := fun s Q hI k => by
  have hL := hl _ hI
  have hlt : a < s.heap.objs.size := by obtain ⟨o, ho, _⟩ := hL; exact Heap.lt_size ho
  have W := Walks.list (prog := PR) (w := w) hh s.heap.objs.size a (Nat.ne_of_lt hlt) vs.toArray
  simp only [List.size_toArray, List.getElem?_toArray] at W
  exact wpAny_pyIter_list hL (k _ [a] _ W ⟨⟨_, Heap.get?_push_size _ rfl, rfl, rfl⟩, hL.at fun o e => Heap.get?_push_of_some _ e⟩ (by simpa using hlt))
theorem Src.tuple {a : Addr} {vs : List Value} (hh : A.handled = none) (hl : ∀ h, I.on h → h.get? a = some (To vs)) : Src w A I (.ref a) vs.length (fun i v => vs[i]? = some v) := fun s Q hI k => by
  have hL := hl _ hI
  have hlt : a < s.heap.objs.size := Heap.lt_size hL
  have hT : s.heap.IsTuple a vs.toArray := ⟨_, hL, rfl, _, rfl⟩
  have W := Walks.tuple (prog := PR) (w := w) hh s.heap.objs.size a (Nat.ne_of_lt hlt) vs.toArray
  simp only [List.size_toArray, List.getElem?_toArray] at W
  exact wpAny_pyIter_tuple hT (k _ [a] _ W ⟨⟨_, Heap.get?_push_size _ rfl, rfl, rfl⟩, hT.push _⟩ (by simpa using hlt))
theorem Src.keys {K : Type} [DecidableEq K] {knd : KeyKind PR w K} {kvs : List (K × Value)} {a : Addr} (hh : A.handled = none) (hl : ∀ h, I.on h → h.DictOf knd a kvs) (hds : (a == sysModules) = false) :
    Src w A I (.ref a) kvs.length (fun i v => ∃ k x, kvs[i]? = some (k, x) ∧ knd.is k v = true) := fun s Q hI k => by
  obtain ⟨ep, hd⟩ := (hl _ hI).dictAt
  have hlt : a < s.heap.objs.size := hd.lt_size
  exact wpAny_pyIter_dict hds hd (k _ [a] _ (Walks.dictKeys (prog := PR) (w := w) hh s.heap.objs.size a (Nat.ne_of_lt hlt) kvs ep) ⟨⟨_, Heap.get?_push_size _ rfl, rfl, rfl⟩, hd.keep fun b o e => Heap.get?_push_of_some _ e⟩ (by simpa using hlt))
end

/-- in a comprehension: its own name, and what the function around it has -/
def CF (g : Heap) (L : Addr) (l : List (PySem.Str × Value)) (news : Led) (C : Addr) (x : PySem.Str) (v : Value) : HP :=
  ⟨fun h => (∃ m, h.Ns C m ∧ m x = some v) ∧ (FR g L l news).on h, fun h h' k y => ⟨let ⟨m, a, b⟩ := y.1; ⟨m, a.keeps k, b⟩, (FR g L l news).st _ _ k y.2⟩⟩

section
variable {w : World} {A : Around} {env : Env} {g : Heap} {L : Addr} {l : List (PySem.Str × Value)} {news : Led}
theorem CF.loc {cenv : Env} {C : Addr} {x : PySem.Str} {v : Value} {p : Pos} (hE : EnvOk cenv C) (hx : cenv.kindOf x = some .local) (hd : (x == ("__debug__" : Str)) = false := by rfl) : Pu w A cenv (CF g L l news C x v) (.Name x p) (IsV v) :=
  .name (fun s _ hI q => let ⟨m, hn, hv⟩ := hI.1; wpAny_loadName_local hE.kind hx (hE.loc ▸ hn) hv q) hd
theorem CF.cell {C : Addr} {x : PySem.Str} {v : Value} {c : Addr} {o : Obj} {u : Option Value} (hm : (c, o) ∈ news) (ho : o.data = .cell u) : ∀ h, (CF g L l news C x v).on h → h.IsCell c u := fun h y => ⟨o, (y.2.2 _ hm).1, ho⟩
theorem CF.base {C : Addr} {x : PySem.Str} {v : Value} (B : Base w g) : ∀ h, (CF g L l news C x v).on h → Base w h := fun h y => B.stays y.2.1.keep
theorem comp_env {scope : Scope} {cl : List (PySem.Str × Addr)} {C : Addr} (hE : EnvOk env L) (hk : scope.kind = .function) : EnvOk (compEnvC scope cl C env) C := ⟨rfl, hk, hE.glob, hE.blt⟩

/-- the tests of a comprehension: none, or one -/
def TestsC (w : World) (A : Around) (I : HP) (cenv : Env) (ifs : List Expr) (b : Bool) : Prop :=
  match ifs with
  | [] => b = true
  | [t] => Te w A cenv I t b
  | _ => False
theorem TestsC.run {I : HP} {cenv : Env} {ifs : List Expr} {b : Bool} (h : TestsC w A I cenv ifs b) {s : Shared} {E' : Value → Shared → Prop} (hI : I.on s.heap) (ht : 0 < s.toks) :
    wpAny (MD w) A (forIn ifs true fun c r => if r = true then do let ok ← isTrue c cenv (eval c cenv); pure (ForInStep.yield ok) else pure (ForInStep.yield r)) (fun ok s₄ => ok = b ∧ Keeps s s₄) E' s := by
  match ifs, h with
  | [], h => 
    rw [List.forIn_nil]
    exact wpAny_pure ⟨h.symm, s.heap, s.toks, rfl, fun _ _ e => e⟩
  | [t], h =>
    rw [List.forIn_cons]
    refine wpAny_bind ?_
    rw [if_pos rfl]
    refine wpAny_bind (wpAny_mono (h s (fun v s' => v = b ∧ Keeps s s') hI ht fun v nw h' tk tp st i n hv => ⟨hv, h', tk, rfl, st⟩) (fun v s' hq => ?_) fun _ _ e => e.elim)
    refine wpAny_pure ?_
    show wpAny _ _ (forIn [] v _) _ _ _
    rw [List.forIn_nil]
    exact wpAny_pure hq

theorem quiet {scope : Scope} {cl : List (PySem.Str × Addr)} {x : PySem.Str} {ifs : List Expr} {elt : Expr} {P : Nat → Value → Prop} {p : Value → Bool} {U : Value → Value → Led → Prop} {s₁ : Shared} {o : Obj} {nn : Led}
    (F : Fr g L s₁.heap (lk l)) (N : News g L s₁.heap nn) (ht : 0 < s₁.toks)
    (htest : ∀ C i v, P i v → TestsC w A (CF g L l nn C x v) (compEnvC scope cl C env) ifs (p v))
    (helt : ∀ C i v, P i v → p v = true → Pu w A (compEnvC scope cl C env) (CF g L l nn C x v) elt (U v)) :
    QuietOnC PR w A env scope cl x ifs elt [s₁.heap.objs.size] P p (fun v y => ∃ n, U v y n) { s₁ with heap := s₁.heap.push o } := by
  have base : ∀ C v (s₃ : Shared) (m₃ : PySem.Str → Option Value), s₃.heap.Ns C m₃ → m₃ x = some v → (∀ b o', b ∉ [s₁.heap.objs.size] → (s₁.heap.push o).get? b = some o' → s₃.heap.get? b = some o') → (CF g L l nn C x v).on s₃.heap := by
    intro C v s₃ m₃ hn hm hk
    have st : s₁.heap.StaysIn s₃.heap := fun b o' e => hk b o' (by rw [List.mem_singleton]; exact Nat.ne_of_lt (Heap.lt_size e)) (Heap.get?_push_of_some _ e)
    exact ⟨⟨m₃, hn, hm⟩, fr_stays F st, news_stays N st⟩
  refine ⟨fun C i v s₃ m₃ E' _ hP hn hm hk htk => ?_, fun C i v s₃ m₃ E' _ hP hp hn hm hk htk => ?_⟩
  · exact (htest C i v hP).run (base C v s₃ m₃ hn hm hk) (Nat.lt_of_lt_of_le ht htk)
  · refine wpAny_mono (helt C i v hP hp s₃ (fun y s₄ => (∃ n, U v y n) ∧ Keeps s₃ s₄) (base C v s₃ m₃ hn hm hk) (Nat.lt_of_lt_of_le ht htk) fun y nw h' tk tp st i n hv => ⟨⟨nw, hv⟩, h', tk, rfl, st⟩) (fun _ _ q => q) fun _ _ e => e.elim

/-- what a comprehension gives -/
def IsLC (n : Nat) (P : Nat → Value → Prop) (p : Value → Bool) (U : Value → Value → Led → Prop) : Value → Led → Prop := fun y nw =>
  ∃ (a : Addr) (ys : List Value) (k : Nat) (vs : List Value), y = .ref a ∧ (a, Lo ys k) ∈ nw ∧ vs.length = n ∧ (∀ j v, vs[j]? = some v → P j v) ∧ Paired (fun v y => ∃ n, U v y n) (vs.filter p) ys

theorem Pu.comp {elt iter : Expr} {x : PySem.Str} {px : Pos} {ifs : List Expr} {scope : Scope} {cl : List (PySem.Str × Addr)} {pos : Pos} {V : Value → Led → Prop} {n : Nat} {P : Nat → Value → Prop} (p : Value → Bool) (U : Value → Value → Led → Prop)
    (hclos : closureFor scope env = pure cl) (hit : Pu w A env (FR g L l news) iter V) (hsrc : ∀ v nw, V v nw → Src w A ((FR g L l news).and nw) v n P) (hn : n ≤ sizeLine)
    (htest : ∀ nn C i v, P i v → (∀ q ∈ news, q ∈ nn) → TestsC w A (CF g L l nn C x v) (compEnvC scope cl C env) ifs (p v))
    (helt : ∀ nn C i v, P i v → p v = true → (∀ q ∈ news, q ∈ nn) → Pu w A (compEnvC scope cl C env) (CF g L l nn C x v) elt (U v))
    (hkind : scope.kind = .function := by rfl) (hcell : ∀ y ∈ scope.names, y.2 ≠ .cell := by decide) (hnames : ∀ y ∈ scope.names, y.2 = .local → scope.names.lookup y.1 = some .local := by decide) (hx : scope.names.lookup x = some .local := by rfl)
    (hs : ∀ x, foldedSetIterable iter env x = pure x := by intro _; rfl) : Pu w A env (FR g L l news) (.ListComp elt [⟨.Name x px, iter, ifs, 0⟩] scope pos) (IsLC n P p U) :=
  .mk fun s Q hI ht k => by
    refine wpAny_ListComp_free p (fun v y => ∃ n, U v y n) hclos hcell hkind hnames hx (hit s _ hI ht fun v nw h1 tk1 tp1 st1 i1 new1 hv => ?_) hs
    refine hsrc v nw hv _ _ ⟨i1, fun q hq => (new1 q hq).1⟩ fun o fp St W hst hfp => ?_
    have N1 := news_new hI.1 hI.2 st1 new1
    refine ⟨_, _, _, n, P, St, rfl, W, hn, hst, ?_, quiet (i1.1) N1 tp1 (fun C i v hP => htest _ C i v hP fun q hq => List.mem_append_right _ hq) (fun C i v hP hp => helt _ C i v hP hp fun q hq => List.mem_append_right _ hq), ?_⟩
    · intro b hb
      show b < (h1.push o).objs.size
      rw [Heap.size_push]
      rcases List.mem_cons.mp hb with rfl | hb
      · exact Nat.lt_succ_self _
      · exact Nat.lt_succ_of_lt (hfp b hb)
    · intro D h' tk ys vs hD hl hpl hlen hP hF hk
      obtain ⟨m, hpl⟩ := hpl
      have st : h1.StaysIn h' := fun b o' e => hk b o' (by rw [List.mem_singleton]; exact Nat.ne_of_lt (Heap.lt_size e)) (Heap.get?_push_of_some _ e)
      have hDs : s.heap.get? D = none := get_none_back st1 (get_none_back (stays_push h1 o) hD)
      refine k _ ((D, Lo ys.toList m) :: nw) _ _ (stays_trans st1 st) ?_ ⟨D, ys.toList, m, vs, rfl, .head _, hlen, hP, hF⟩
      intro q hq
      rcases List.mem_cons.mp hq with rfl | hq
      · exact ⟨by simpa using hpl, hDs⟩
      · exact ⟨st _ _ (new1 q hq).1, (new1 q hq).2⟩
end
end Mine
end
section
open PySem PySem.W PyProof.Rows PySem.Calls
open PySem.Builtin PySem.Builtin.Str
set_option Elab.async false
set_option linter.unusedVariables false
namespace Mine
theorem Tr.run {α : Type} {w : World} {A : Around} {I : HP} {t : Sem α} {V : α → Led → Prop} {s : Shared} {Q : α → Shared → Prop} {E : Value → Shared → Prop} (h : Tr w A I t V) (hI : I.on s.heap) (ht : 0 < s.toks)
    (k : ∀ v nw h' tk, 0 < tk → s.heap.StaysIn h' → I.on h' → New s.heap h' nw → V v nw → Q v { s with heap := h', toks := tk }) : wpAny (MD w) A t Q E s :=
  wpAny_mono (h s Q hI ht k) (fun _ _ q => q) fun _ _ e => e.elim
theorem Src.run {w : World} {A : Around} {I : HP} {xv : Value} {n : Nat} {P : Nat → Value → Prop} {s : Shared} {Q : Value → Shared → Prop} {E : Value → Shared → Prop} (h : Src w A I xv n P) (hI : I.on s.heap)
    (k : ∀ o fp St, Walks PR w A s.heap.objs.size (s.heap.objs.size :: fp) [s.heap.objs.size] n P St → St 0 (s.heap.push o) → (∀ b ∈ fp, b < s.heap.objs.size) → Q (.ref s.heap.objs.size) { s with heap := s.heap.push o }) : wpAny (MD w) A (pyIter xv) Q E s :=
  wpAny_mono (h s Q hI k) (fun _ _ q => q) fun _ _ e => e.elim
section
variable {w : World} {A : Around} {env : Env} {g : Heap} {L : Addr} {l : List (PySem.Str × Value)} {news : Led} {s : Shared} {Q : Flow → Shared → Prop} {rest : List Stmt}

/-- y = [elt for x in iter if ..], y of the function itself -/
theorem st_comp {elt iter : Expr} {x y : PySem.Str} {px py : Pos} {ifs : List Expr} {scope : Scope} {cl : List (PySem.Str × Addr)} {pos spos : Pos} {V : Value → Led → Prop} {n : Nat} {P : Nat → Value → Prop} (p : Value → Bool) (U : Value → Value → Led → Prop)
    (hE : EnvOk env L) (hy : env.kindOf y = some .local)
    (hsw : swapsWith (.ListComp elt [⟨.Name x px, iter, ifs, 0⟩] scope pos) (some (.Name y py)) spos.line env = pure true)
    (hclos : closureFor scope env = pure cl) (hit : Pu w A env (FR g L l news) iter V) (hsrc : ∀ v nw, V v nw → Src w A ((FR g L l news).and nw) v n P) (hn : n ≤ sizeLine)
    (htest : ∀ nn C i v, P i v → (∀ q ∈ news, q ∈ nn) → TestsC w A (CF g L l nn C x v) (compEnvC scope cl C env) ifs (p v))
    (helt : ∀ nn C i v, P i v → p v = true → (∀ q ∈ news, q ∈ nn) → Pu w A (compEnvC scope cl C env) (CF g L l nn C x v) elt (U v))
    (F : Fr g L s.heap (lk l)) (N : News g L s.heap news) (ht : 0 < s.toks)
    (k : ∀ (D : Addr) (ys : List Value) (m : Nat) (vs : List Value) (nw : Led) (h' : Heap) (tk : Nat), 0 < tk → vs.length = n → (∀ j v, vs[j]? = some v → P j v) → Paired (fun v y => ∃ n, U v y n) (vs.filter p) ys → Fr g L h' (lk ((y, .ref D) :: l)) → News g L h' ((D, Lo ys m) :: (nw ++ news)) → wpAny (MD w) A (execs rest env) Q NE { s with heap := h', toks := tk })
    (hkind : scope.kind = .function := by rfl) (hcell : ∀ y ∈ scope.names, y.2 ≠ .cell := by decide) (hnames : ∀ y ∈ scope.names, y.2 = .local → scope.names.lookup y.1 = some .local := by decide) (hx : scope.names.lookup x = some .local := by rfl)
    (hs : ∀ x, foldedSetIterable iter env x = pure x := by intro _; rfl) : wpAny (MD w) A (execs (.Assign [.Name y py] (.ListComp elt [⟨.Name x px, iter, ifs, 0⟩] scope pos) spos :: rest) env) Q NE s := by
  refine wpAny_execs_cons (wpAny_with_toks (n := 1) ht (wpAny_Assign_ListComp_free p (fun v y => ∃ n, U v y n) hsw hclos hcell hkind hnames hx hy (by rw [hE.kind]; rfl) (hit.run ⟨F, N⟩ ht fun v nw h1 tk1 tp1 st1 i1 new1 hv => ?_) hs))
  refine (hsrc v nw hv).run ⟨i1, fun q hq => (new1 q hq).1⟩ fun o fp St W hst hfp => ?_
  have N1 := news_new F N st1 new1
  have hLlt : L < h1.objs.size := i1.1.ns.lt
  refine ⟨_, _, _, n, P, St, lk l, rfl, W, hn, hst, ?_, ?_, ?_, quiet i1.1 N1 tp1 (fun C i v hP => htest _ C i v hP fun q hq => List.mem_append_right _ hq) (fun C i v hP hp => helt _ C i v hP hp fun q hq => List.mem_append_right _ hq), ?_⟩
  · intro b hb
    show b < (h1.push o).objs.size
    rw [Heap.size_push]
    rcases List.mem_cons.mp hb with rfl | hb
    · exact Nat.lt_succ_self _
    · exact Nat.lt_succ_of_lt (hfp b hb)
  · rw [hE.loc, List.mem_singleton]; exact Nat.ne_of_lt hLlt
  · rw [hE.loc]; exact (i1.1.push o).ns
  · intro D h' tk ys vs hD hl hpl hlen hP hF hns hk htk
    rw [hE.loc] at hns hk
    rw [lk_cons] at hns
    obtain ⟨m, hpl⟩ := hpl
    have st : ∀ b o', b ≠ L → h1.get? b = some o' → h'.get? b = some o' := fun b o' hb e => hk b o' hb (by rw [List.mem_singleton]; exact Nat.ne_of_lt (Heap.lt_size e)) (Heap.get?_push_of_some _ e)
    have hgL : g.get? L = none := Heap.get?_none_of_le i1.1.above
    have hD1 : h1.get? D = none := get_none_back (stays_push h1 o) hD
    refine k D ys.toList m vs nw h' tk htk hlen hP hF ⟨hns, fun b o' e => st b o' (fun q => by rw [q, hgL] at e; cases e) (i1.1.keep b o' e), i1.1.above⟩ ?_
    intro q hq
    rcases List.mem_cons.mp hq with rfl | hq
    · refine ⟨by simpa using hpl, fun q => ?_, get_none_back i1.1.keep hD1⟩
      obtain ⟨oL, _, _, hL, _⟩ := i1.1.ns
      rw [show D = L from q, hL] at hD1; cases hD1
    · exact ⟨st _ _ (N1 q hq).2.1 (N1 q hq).1, (N1 q hq).2⟩

/-- a loop whose own name is a cell -/
theorem for_coreC {R : Result → Shared → Prop} {x : PySem.Str} {px : Pos} {body : List Stmt} {I c : Addr} {fp wr : List Addr} {n : Nat} {P : Nat → Value → Prop} {St : Nat → Heap → Prop}
    (hE : EnvOk env L) (hx : env.kindOf x = some .cell) (hc : env.cells.lookup x = some c) (hcf : c ∉ fp) (W : Walks PR w A I fp wr n P St) (hLf : L ∉ fp) (hwr : ∀ b ∈ wr, g.get? b = none) (hnw : ∀ p ∈ news, p.1 ∉ wr) (hst : St 0 s.heap)
    (hlive : ∀ i h, St i h → ∀ b ∈ wr, ∃ o, h.get? b = some o) (F : Fr g L s.heap (lk l)) (N : News g L s.heap news) (ht : 0 < s.toks)
    (J : Nat → List (PySem.Str × Value) → Led → Prop) (h0 : J 0 l news) (hJc : ∀ i l₁ news₁, J i l₁ news₁ → ∃ o v, (c, o) ∈ news₁ ∧ o.data = .cell v)
    (step : ∀ i v l₁ news₁ o' own s₁, i < n → P i v → J i l₁ news₁ → o'.data = .cell (some v) → (∀ p ∈ own, p.1 ∈ fp) → (∀ p ∈ news₁, p.1 ∉ wr) → Fr g L s₁.heap (lk l₁) → News g L s₁.heap (own ++ setL c o' news₁) → 0 < s₁.toks → (∃ h tk, s₁ = { s with heap := h, toks := tk }) → St (i + 1) s₁.heap →
      wpAny (MD w) A (execs body env) (LE g L own news₁ (J (i + 1)) s₁ fun v s' => R (.ok (.ret v)) s') NE s₁)
    (hR : ∀ h' tk l' news', 0 < tk → Fr g L h' (lk l') → News g L h' news' → J n l' news' → R (.ok .next) { s with heap := h', toks := tk }) :
    codeAny (MD w) A (.forLoop (.Name x px) (.ref I) body [] env) R s := by
  have hLw : L ∉ wr := fun h => hLf (W.sub _ h)
  have old : ∀ b o, g.get? b = some o → b ∉ wr := fun b o e hb => by rw [hwr b hb] at e; cases e
  refine codeAny_forLoop
    (fun k s' => ∃ h' tk l' news' i, s' = { s with heap := h', toks := tk } ∧ 0 < tk ∧ St i h' ∧ Fr g L h' (lk l') ∧ News g L h' news' ∧ (∀ p ∈ news', p.1 ∉ wr) ∧ J i l' news' ∧ i ≤ n ∧ k = n + 1 - i) ?_ (n + 1)
    ⟨s.heap, s.toks, l, news, 0, rfl, ht, hst, F, N, hnw, h0, Nat.zero_le _, rfl⟩
  rintro k s' ⟨h', tk, l', news', i, rfl, tp, hst', F', N', hnw', hJ, hi, rfl⟩
  have next : ∀ h₁ : Heap, (∀ b o, b ∉ wr → h'.get? b = some o → h₁.get? b = some o) → Fr g L h₁ (lk l') ∧ News g L h₁ news' := fun h₁ hk₁ =>
    ⟨⟨F'.ns.at' fun o e => hk₁ _ o hLw e, fun b o e => hk₁ b o (old b o e) (F'.keep b o e), F'.above⟩, fun p hp => ⟨hk₁ _ _ (hnw' p hp) (N' p hp).1, (N' p hp).2⟩⟩
  by_cases hlt : i < n
  · refine wpAny_with_toks (n := 1) tp (W.item i _ _ _ hlt hst' fun v h₁ tk₁ hP hst₁ hk₁ tp₁ => ?_)
    obtain ⟨F₁, N₁⟩ := next h₁ hk₁
    obtain ⟨o, v₀, hm, ho⟩ := hJc i l' news' hJ
    refine wpAny_assign_Name (cell_set hE.kind hx hc hm ho F₁ N₁ fun h₂ o' ho' F₂ N₂ hs₂ => ?_)
    have Nown : News g L h₂ (ownOf g fp h₂) := news_ownOf hLf
    have hst₂ : St (i + 1) h₂ := W.frame _ _ _ hst₁ fun b hb o e => (hs₂.2 b fun q => hcf (q ▸ hb)).trans e
    refine wpAny_mono (step i v l' news' o' (ownOf g fp h₂) { s with heap := h₂, toks := tk₁ } hlt hP hJ ho' ownOf_sub hnw' F₂ (Nown.append N₂) tp₁ ⟨_, _, rfl⟩ hst₂) (fun f s₃ h₃ => ?_) fun _ _ e => e.elim
    cases f with
    | ret v => exact h₃
    | brk => exact h₃.elim
    | cont => exact h₃.elim
    | next =>
      obtain ⟨h₃', tk₃, l₂, news₂, rfl, tp₃, F₃, N₃, ha₃, hJ₃⟩ := h₃
      refine ⟨n + 1 - (i + 1), by omega, h₃', tk₃, l₂, news₂, i + 1, rfl, tp₃, ?_, F₃, N₃.right, ?_, hJ₃, hlt, rfl⟩
      · refine W.frame _ _ _ hst₁ fun b hb o e => ?_
        have e₂ : h₂.get? b = some o := (hs₂.2 b fun q => hcf (q ▸ hb)).trans e
        cases hn : g.get? b with
        | some o₀ =>
          have : o₀ = o := by have := F₂.keep b o₀ hn; rw [e₂] at this; exact (Option.some.inj this).symm
          exact this ▸ F₃.keep b o₀ hn
        | none => exact (N₃ _ (List.mem_append_left _ (mem_ownOf hb hn e₂))).1
      · intro p hp hb
        rcases ha₃ p hp with q | q | q
        · obtain ⟨p', hp', e⟩ := List.mem_map.mp q
          exact hnw' p' hp' (e ▸ hb)
        rotate_left
        · obtain ⟨o, ho⟩ := hlive _ _ hst₂ _ hb
          exact q _ (mem_ownOf (W.sub _ hb) (hwr _ hb) ho) rfl
        · obtain ⟨o, ho⟩ := hlive _ _ hst₂ _ hb
          rw [show ({ s with heap := h₂, toks := tk₁ } : Shared).heap = h₂ from rfl, ho] at q
          cases q
  · have hin : i = n := by omega
    subst hin
    refine wpAny_with_toks (n := 1) tp (W.done _ _ _ hst' fun h₁ tk₁ hk₁ tp₁ => wpAny_execs_nil ?_)
    obtain ⟨F₁, N₁⟩ := next h₁ hk₁
    exact hR h₁ tk₁ l' news' tp₁ F₁ N₁ hJ

end
end Mine
end
section
open PySem PySem.W PyProof.Rows PySem.Calls
open PySem.Builtin PySem.Builtin.Str
set_option Elab.async false
set_option linter.unusedVariables false
namespace Mine
/-- the entries of EXACT_TOKEN_TYPES -/
def exT : List (PySem.Str × Nat × Nat × Nat) := [(S "!", 303, 54, 301), (S "!=", 305, 28, 249), (S "%", 307, 24, 241), (S "%=", 309, 40, 273), (S "&", 311, 19, 231), (S "&=", 313, 41, 275), (S "(", 315, 7, 207), (S ")", 317, 8, 209), (S "*", 319, 16, 225), (S "**", 321, 35, 263), (S "**=", 323, 46, 285), (S "*=", 325, 38, 269), (S "+", 327, 14, 221), (S "+=", 329, 36, 265), (S ",", 331, 12, 217), (S "-", 333, 15, 223), (S "-=", 335, 37, 267), (S "->", 337, 51, 295), (S ".", 339, 23, 239), (S "...", 341, 52, 297), (S "/", 343, 17, 227), (S "//", 345, 47, 287), (S "//=", 347, 48, 289), (S "/=", 349, 39, 271), (S ":", 351, 11, 215), (S ":=", 353, 53, 299), (S ";", 355, 13, 219), (S "<", 357, 20, 233), (S "<<", 359, 33, 259), (S "<<=", 361, 44, 281), (S "<=", 363, 29, 251), (S "=", 365, 22, 237), (S "==", 367, 27, 247), (S ">", 369, 21, 235), (S ">=", 371, 30, 253), (S ">>", 372, 34, 261), (S ">>=", 373, 45, 283), (S "@", 374, 49, 291), (S "@=", 375, 50, 293), (S "[", 376, 9, 211), (S "]", 377, 10, 213), (S "^", 378, 32, 257), (S "^=", 379, 43, 279), (S "{", 380, 25, 243), (S "|", 381, 18, 229), (S "|=", 382, 42, 277), (S "}", 383, 26, 245), (S "~", 384, 31, 255)]
def exE (w : World) : List DictEntry := exT.map fun e => ⟨PyData.keyHash w.params e.1, .str e.1 e.2.1, .int e.2.2.1 e.2.2.2⟩
def exK : List (PySem.Str × Value) := exT.map fun e => (e.1, .int e.2.2.1 e.2.2.2)
set_option maxRecDepth 100000 in
theorem h22 (w : World) : ∃ ep, (KK w).lookup 22 = some ⟨.type "dict", none, .dict (exE w).toArray ep, #[]⟩ := ⟨_, by with_unfolding_all rfl⟩
theorem ex_pairs (w : World) : ∀ l : List (PySem.Str × Nat × Nat × Nat), Pairs (strKind PR w) (l.map fun e => ⟨PyData.keyHash w.params e.1, .str e.1 e.2.1, .int e.2.2.1 e.2.2.2⟩) (l.map fun e => (e.1, .int e.2.2.1 e.2.2.2))
  | [] => .nil
  | e :: r => .cons (strKind_is PR w _ _) rfl (ex_pairs w r)
theorem ex_dict {w : World} {h : Heap} (B : Base w h) : h.DictOf (strKind PR w) 22 exK := by
  obtain ⟨ep, e⟩ := h22 w
  refine ⟨_, (exE w).toArray, ep, B.K _ _ e, ⟨rfl, rfl, rfl⟩, rfl, fun d hd => ?_, ?_, by decide +kernel⟩
  · obtain ⟨x, hx, rfl⟩ := List.mem_map.mp (List.mem_toArray.mp hd)
    exact ⟨x.1, strKind_is PR w _ _, rfl⟩
  · exact ex_pairs w exT
end Mine
end
section
open PySem PySem.W PyProof.Rows PySem.Calls
open PySem.Builtin PySem.Builtin.Str
set_option Elab.async false
set_option linter.unusedVariables false
set_option linter.unusedSectionVars false
namespace Mine
/-- a dict's pairs, and what they stand for -/
inductive Rel {K β : Type} (R : Value → β → Prop) : List (K × Value) → List (K × β) → Prop
  | nil : Rel R [] []
  | cons {k : K} {v : Value} {b : β} {kvs : List (K × Value)} {D : List (K × β)} : R v b → Rel R kvs D → Rel R ((k, v) :: kvs) ((k, b) :: D)
def getA {K β : Type} [DecidableEq K] (D : List (K × β)) (k : K) : Option β := (D.find? fun p => p.1 = k).map (·.2)
def putA {K β : Type} [DecidableEq K] (D : List (K × β)) (k : K) (b : β) : List (K × β) := if D.any (fun p => p.1 = k) then D.map (fun p => if p.1 = k then (p.1, b) else p) else D ++ [(k, b)]
section
variable {K β : Type} [DecidableEq K] {R : Value → β → Prop} {kvs : List (K × Value)} {D : List (K × β)}
theorem Rel.len (h : Rel R kvs D) : kvs.length = D.length := by induction h with | nil => rfl | cons _ _ ih => simp [ih]
theorem Rel.get (h : Rel R kvs D) {k : K} {b : β} (e : getA D k = some b) : ∃ v, valueAt kvs k = some v ∧ R v b := by
  induction h with
  | nil => cases e
  | @cons k' v b' kvs D hr _ ih =>
    unfold getA at e; unfold valueAt
    rw [List.find?_cons] at e ⊢
    by_cases hk : k' = k
    · simp only [hk, decide_true] at e ⊢
      exact ⟨v, rfl, by cases e; exact hr⟩
    · simp only [hk, decide_false] at e ⊢
      exact ih e
theorem Rel.none (h : Rel R kvs D) {k : K} (e : getA D k = Option.none) : valueAt kvs k = Option.none := by
  induction h with
  | nil => rfl
  | @cons k' v b' kvs D hr _ ih =>
    unfold getA at e; unfold valueAt
    rw [List.find?_cons] at e ⊢
    by_cases hk : k' = k
    · simp only [hk, decide_true] at e; cases e
    · simp only [hk, decide_false] at e ⊢
      exact ih e
theorem Rel.any (h : Rel R kvs D) (k : K) : kvs.any (fun p => p.1 = k) = D.any (fun p => p.1 = k) := by
  induction h with
  | nil => rfl
  | cons _ _ ih => simp only [List.any_cons, ih]
theorem Rel.append {kvs' : List (K × Value)} {D' : List (K × β)} (h : Rel R kvs D) (h' : Rel R kvs' D') : Rel R (kvs ++ kvs') (D ++ D') := by
  induction h with
  | nil => exact h'
  | cons hr _ ih => exact .cons hr ih
theorem Rel.put (h : Rel R kvs D) {k : K} {v : Value} {b : β} (hv : R v b) : Rel R (stored kvs k v) (putA D k b) := by
  unfold stored putA
  rw [h.any]
  split
  · rename_i hx
    clear hx
    induction h with
    | nil => exact .nil
    | @cons k' v' b' kvs D hr _ ih =>
      rw [List.map_cons, List.map_cons]
      by_cases hk : k' = k
      · simp only [hk, if_true]; exact .cons hv ih
      · simp only [hk, if_false]; exact .cons hr ih
  · exact h.append (.cons hv .nil)
theorem Rel.item (h : Rel R kvs D) {i : Nat} {k : K} {v : Value} (e : kvs[i]? = some (k, v)) : ∃ b, D[i]? = some (k, b) ∧ R v b := by
  induction h generalizing i with
  | nil => simp at e
  | cons hr _ ih =>
    cases i with
    | zero => simp at e; obtain ⟨rfl, rfl⟩ := e; exact ⟨_, by simp, hr⟩
    | succ i => rw [List.getElem?_cons_succ] at e ⊢; exact ih e
end

/-- a new dict -/
def IsD {w : World} {K β : Type} [DecidableEq K] (knd : KeyKind PR w K) (R : Value → β → Prop) (D : List (K × β)) : Value → Led → Prop := fun v nw =>
  ∃ a o kvs, v = .ref a ∧ (a, o) ∈ nw ∧ Obj.IsDictOf knd o kvs ∧ (a == sysModules) = false ∧ Rel R kvs D

theorem Base.low {w : World} {h : Heap} (B : Base w h) : sysModules < h.objs.size := let ⟨_, _, _, T⟩ := B.T; modules_low T.nolimit

section
variable {w : World} {A : Around} {env : Env} {I : HP} {g : Heap} {L : Addr} {l : List (PySem.Str × Value)} {news : Led} {s : Shared} {Q : Flow → Shared → Prop} {rest : List Stmt}
variable {K : Type} [DecidableEq K] {knd : KeyKind PR w K} {kvs : List (K × Value)}

theorem FR.dict {a : Addr} {o : Obj} (hm : (a, o) ∈ news) (ho : o.IsDictOf knd kvs) : ∀ h, (FR g L l news).on h → h.DictOf knd a kvs := fun h x => Heap.dictOf_iff.mpr ⟨o, (x.2 _ hm).1, ho⟩
theorem CF.dict {C : Addr} {x : PySem.Str} {v : Value} {a : Addr} {o : Obj} (hm : (a, o) ∈ news) (ho : o.IsDictOf knd kvs) : ∀ h, (CF g L l news C x v).on h → h.DictOf knd a kvs := fun h y => Heap.dictOf_iff.mpr ⟨o, (y.2.2 _ hm).1, ho⟩

theorem Pu.dict0 {p : Pos} (hB : ∀ h, I.on h → Base w h) : Pu w A env I (.Dict [] [] p) (fun v nw => ∃ a o, v = .ref a ∧ nw = [(a, o)] ∧ (a == sysModules) = false ∧ o.IsDictOf knd []) :=
  .mk fun s Q hI ht k => by
    obtain ⟨o, ho, hd⟩ := Heap.dictOf_iff.mp (Heap.DictOf.new (knd := knd) s.heap)
    refine wpAny_Dict_empty (k _ [(s.heap.objs.size, o)] _ _ (stays_push _ _) (.one ho (size_none _ (Nat.le_refl _))) ⟨_, _, rfl, rfl, ?_, hd⟩)
    exact beq_eq_false_iff_ne.mpr (Nat.ne_of_gt (hB _ hI).low)

theorem t_dict {value slice : Expr} {d : Addr} {key v : Value} {k : K} (hd : ∀ h, I.on h → h.DictOf knd d kvs) (hkey : knd.is k key = true) (hv : valueAt kvs k = some v) (hs : Plain slice) :
    Tr w A I (subscriptTail value slice (.ref d) key) (fun u _ => u = v) :=
  .mk fun s Q hI _ kk => tail_any (hd _ hI).typeIs slot_dict_getitem.lookup (wpAny_getItem_of hkey (hd _ hI).mapOf hv (kk v [] _ _ (stays_refl _) .nil rfl)) (hs _ _)

/-- d[key] -/
theorem Pu.key {value slice : Expr} {p : Pos} {d : Addr} {v : Value} {k : K} {P : Value → Led → Prop} (ho : Pu w A env I value (IsV (.ref d))) (hd : ∀ h, I.on h → h.DictOf knd d kvs) (hi : Pu w A env I slice P) (hP : ∀ u n, P u n → knd.is k u = true)
    (hv : valueAt kvs k = some v) (hs : Plain slice := by intro _ _; rfl) : Pu w A env I (.Subscript value slice p) (IsV v) :=
  .sub ho hi fun a' b n1 n2 ha hb => by
    cases ha
    exact t_dict (fun h x => hd h x.1) (hP _ _ hb) hv hs

/-- d[key] = value -/
theorem st_setD {oe ie value : Expr} {p1 p2 : Pos} {d : Addr} {o : Obj} {k : K} {P V : Value → Led → Prop} (ho : Pu w A env (FR g L l news) oe (IsV (.ref d))) (hi : Pu w A env (FR g L l news) ie P) (hp : Pu w A env (FR g L l news) value V) (hP : ∀ u n, P u n → knd.is k u = true)
    (hm : (d, o) ∈ news) (hd : o.IsDictOf knd kvs) (hsz : kvs.length ≤ sizeLine) (F : Fr g L s.heap (lk l)) (N : News g L s.heap news) (ht : 0 < s.toks)
    (kk : ∀ v nw o' h' tk, 0 < tk → V v nw → o'.IsDictOf knd (stored kvs k v) → Fr g L h' (lk l) → News g L h' (nw ++ setL d o' news) → wpAny (MD w) A (execs rest env) Q NE { s with heap := h', toks := tk })
    (hsw : swapsWith value (some (.Subscript oe ie p1)) p2.line env = pure false := by rfl) : wpAny (MD w) A (execs (.Assign [.Subscript oe ie p1] value p2 :: rest) env) Q NE s := by
  refine wpAny_execs_cons (wpAny_Assign_Subscript (hp s _ ⟨F, N⟩ ht fun v nw h1 tk1 tp1 st1 i1 new1 hv => ho _ _ i1 tp1 fun u2 n2 h2 tk2 tp2 st2 i2 new2 hv2 => hi _ _ i2 tp2 fun u3 n3 h3 tk3 tp3 st3 i3 new3 hv3 => ?_) hsw)
  cases hv2
  have hm3 : (d, o) ∈ nw ++ news := List.mem_append_right _ hm
  have N3 : News g L h3 (nw ++ news) := news_stays (news_stays (news_new F N st1 new1) st2) st3
  refine wpAny_setItem_pairs (hP _ _ hv3) (Heap.dictOf_iff.mpr ⟨o, (N3 _ hm3).1, hd⟩) (fun h' hd' hs' => ?_) hsz
  obtain ⟨o', ho', hdd⟩ := Heap.dictOf_iff.mp hd'
  obtain ⟨F', N'⟩ := news_upd' i3.1 N3 hm3 hs' ho'
  refine kk v nw o' h' _ (Nat.succ_pos _) hv hdd F' ?_
  have : setL d o' (nw ++ news) = nw ++ setL d o' news := by
    unfold setL
    rw [List.map_append]
    congr 1
    refine setL_off fun p hp e => ?_
    have := (new1 p hp).2
    rw [e, (N _ hm).1] at this; cases this
  rwa [this] at N'

/-- text.replace(pair[i], "") -/
theorem Pu.strike {oe pe : Expr} {k1 k2 : Nat} {q1 q2 q3 apos pos : Pos} {i : Int} {x pr : PySem.Str} {tp : Tok} (ho : Pu w A env I oe (IsS x)) (hpe : Pu w A env I pe (IsV (.str pr tp))) (hi : fitsSsize i = true) (hc : (Txt.charAt pr i).isSome = true)
    (hyz : (Txt.item pr i == S "") = false) (hx : x.length ≤ 1048576)
    (hbase : attributeBase oe (S "replace") env (eval oe env) = eval oe env := by rfl)
    (hs : backTo pos (starEach [.Subscript pe (.Constant (.int i) k1 q1) q2, .Constant (.str (S "")) k2 q3] env) = [Expr.Subscript pe (.Constant (.int i) k1 q1) q2, .Constant (.str (S "")) k2 q3].map fun e => (false, eval e env) := by rfl)
    (hfew : ((backTo pos (starEach [.Subscript pe (.Constant (.int i) k1 q1) q2, .Constant (.str (S "")) k2 q3] env)).all (fun x => !x.1) && (backToKw pos (keywordEach [] env)).all (fun x => x.1.isSome)
      && decide (([Expr.Subscript pe (.Constant (.int i) k1 q1) q2, .Constant (.str (S "")) k2 q3]).length + ([] : List Keyword).length + (if ([] : List Keyword).isEmpty then 0 else 1) < 30)) = true := by rfl)
    (hline : (apos.endLine == pos.line) = true := by rfl) (hpl : Plain (.Constant (.int i) k1 q1) := by intro _ _; rfl) :
    Pu w A env I (.Call (.Attribute oe (S "replace") apos) [.Subscript pe (.Constant (.int i) k1 q1) q2, .Constant (.str (S "")) k2 q3] [] pos) (IsS (Txt.replace x (Txt.item pr i) (S ""))) :=
  .mk fun s Q hI ht k => wpAny_Call_method_lateS hbase hfew hline (ho s _ hI ht fun v n1 h1 tk1 tp1 st1 i1 new1 hv => by
    obtain ⟨t, rfl⟩ := hv
    refine ⟨"str", "str.replace", F.plainAttrs_str, F.slot_str_replace, F.type_str_replace, typeIs_str _ _ _, (fun _ e => nomatch e), ?_⟩
    rw [hs]
    refine Calls.callWith_builtin (by simp) (Calls.evalArgs_plain (Calls.spliced_cons (Subscript_ (hpe _ _ i1 tp1 fun v2 n2 h2 tk2 tp2 st2 i2 new2 hv2 => ?_))))
    cases hv2
    refine (Pu.int (w := w) (I := I)) _ _ i2 tp2 fun v3 n3 h3 tk3 tp3 st3 i3 new3 hv3 => ?_
    obtain ⟨t3, rfl⟩ := hv3
    refine tail_any (typeIs_str _ _ _) F.slot_str_getitem.lookup (SB.getItem hi hc (Calls.spliced_cons (Calls.Constant_str (Calls.spliced_nil ?_)))) (hpl _ _)
    refine SC.replaceW (by show tk3 ≠ 0; omega) (by show tk3 + 1 ≠ 0; omega) (by show tk3 ≠ tk3 + 1; omega) hyz hx (by decide +kernel) fun t' k' => ?_
    exact k _ [] h3 k' (stays_trans st1 (stays_trans st2 st3)) .nil ⟨_, rfl⟩)
end
end Mine
end
section
open PySem PySem.W PyProof.Rows PySem.Calls
open PySem.Builtin PySem.Builtin.Str
set_option Elab.async false
set_option linter.unusedVariables false
namespace Mine
def RS (v : Value) (x : PySem.Str) : Prop := ∃ t, v = .str x t
def RI (v : Value) (i : Int) : Prop := ∃ t, v = .int i t
abbrev inPair (c0 c1 : Nat) (x : PySem.Str) : Bool := (tl x).all fun d => d == c0 || d == c1
def handStep (c0 c1 : Nat) (D : List (Int × PySem.Str)) (e : PySem.Str × Nat × Nat × Nat) : List (Int × PySem.Str) := if inPair c0 c1 e.1 then putA D (e.2.2.1 : Int) e.1 else D
def handOf (c0 c1 : Nat) : List (Int × PySem.Str) := exT.foldl (handStep c0 c1) []

theorem valueAt_item {K : Type} [DecidableEq K] {k : K} {u : Value} : ∀ {kvs : List (K × Value)} {i : Nat}, (kvs.map (·.1)).Nodup → kvs[i]? = some (k, u) → valueAt kvs k = some u
  | [], i, _, h => by simp at h
  | (k', u') :: r, 0, _, h => by
    simp at h; obtain ⟨rfl, rfl⟩ := h
    unfold valueAt; rw [List.find?_cons]; simp
  | (k', u') :: r, i + 1, hn, h => by
    rw [List.getElem?_cons_succ] at h
    rw [List.map_cons, List.nodup_cons] at hn
    have hne : k' ≠ k := fun e => hn.1 (e ▸ List.mem_map.mpr ⟨_, List.mem_of_getElem? h, rfl⟩)
    have ih := valueAt_item hn.2 h
    unfold valueAt at ih ⊢
    rw [List.find?_cons]
    simp only [hne, decide_false]; exact ih
theorem strike_tl (x : PySem.Str) (c : Nat) : tl (Txt.replace x ⟨#[c]⟩ (S "")) = (tl x).filter (fun d => d != c) := by
  rw [replace_flat]
  have : tl (S "") = [] := by decide +kernel
  rw [this]
  induction tl x with
  | nil => rfl
  | cons d r ih =>
    rw [List.flatMap_cons, ih, List.filter_cons]
    unfold rp
    by_cases h : d = c
    · simp [h]
    · simp [h]
theorem strike_len (x : PySem.Str) (c : Nat) : (Txt.replace x ⟨#[c]⟩ (S "")).length ≤ x.length := by
  rw [len_tl, strike_tl, len_tl]; exact List.length_filter_le _ _
theorem strike_eq (x : PySem.Str) (c0 c1 : Nat) : (Txt.replace (Txt.replace x ⟨#[c0]⟩ (S "")) ⟨#[c1]⟩ (S "") == S "") = inPair c0 c1 x := by
  rw [Bool.eq_iff_iff, beq_iff_eq]
  have e0 : tl (S "") = [] := by decide +kernel
  constructor
  · intro h
    have h2 := congrArg tl h
    rw [strike_tl, strike_tl, e0, List.filter_filter, List.filter_eq_nil_iff] at h2
    refine List.all_eq_true.mpr fun d hd => ?_
    have := h2 d hd
    simp only [Bool.and_eq_true, bne_iff_ne, ne_eq, not_and, Decidable.not_not, Bool.or_eq_true, beq_iff_eq] at this ⊢
    by_cases q : d = c1
    · exact .inr q
    · exact .inl (this q)
  · intro h
    refine tl_inj ?_
    rw [strike_tl, strike_tl, e0, List.filter_filter, List.filter_eq_nil_iff]
    intro d hd
    have := List.all_eq_true.mp h d hd
    simp only [Bool.and_eq_true, bne_iff_ne, ne_eq, not_and, Decidable.not_not, Bool.or_eq_true, beq_iff_eq] at this ⊢
    intro q; exact this.resolve_right q

theorem one_ne (c : Nat) : ((⟨#[c]⟩ : PySem.Str) == S "") = false := by
  rw [Bool.eq_false_iff]
  intro h
  have := congrArg (fun x : PySem.Str => (tl x).length) (eq_of_beq h)
  have e0 : tl (S "") = [] := by decide +kernel
  simp [e0, tl] at this
theorem setL_app {d : Addr} {o : Obj} {a b : Led} : setL d o (a ++ b) = setL d o a ++ setL d o b := by unfold setL; rw [List.map_append]
theorem g_ex (w : World) : nsIn (KK w) mainGlobals (S "EXACT_TOKEN_TYPES") = some (some (.ref 22)) := by kernel_rfl
theorem exK_nodup : (exK.map (·.1)).Nodup := by decide +kernel
theorem exT_short : ∀ e ∈ exT, e.1.length ≤ 3 := by decide +kernel
theorem hand_len (c0 c1 : Nat) : ∀ (l : List (PySem.Str × Nat × Nat × Nat)) (D : List (Int × PySem.Str)), (l.foldl (handStep c0 c1) D).length ≤ D.length + l.length
  | [], D => by simp
  | e :: r, D => by
    have := hand_len c0 c1 r (handStep c0 c1 D e)
    have h2 : (handStep c0 c1 D e).length ≤ D.length + 1 := by
      unfold handStep putA; split
      · split <;> simp
      · omega
    rw [List.foldl_cons, List.length_cons]; omega

set_option maxRecDepth 100000 in
set_option maxHeartbeats 8000000 in
theorem hand_call {w : World} {A : Around} {I : HP} {c0 c1 : Nat} {ta : Tok} (hB : ∀ h, I.on h → Base w h) (hR : Rm A 1) :
    Tr w A I (call (.ref 94) [.str (ms [c0, c1]) ta]) (IsD (intKind PR w) RS (handOf c0 c1)) := by
  refine' Tr.fn (binds := [(S "pair", .str (ms [c0, c1]) ta)]) hB hR ?ho ?hcd ?hbind ?hloc ?h ?c1 ?c2 ?c3 ?c4
  case ho => with_unfolding_all rfl
  case hcd => kernel_rfl
  case hbind => rfl
  case hloc => rfl
  case c1 => rfl
  case c2 => rfl
  case c3 => rfl
  case c4 => rfl
  intro s g L hI B F0 N0 ht0
  generalize hEnv : envOf _ _ L 94 (Value.ref 93) = env
  have hE : EnvOk env L := by subst hEnv; exact ⟨rfl, rfl, rfl, rfl⟩
  have kp : env.kindOf (S "pair") = some .local := by subst hEnv; rfl
  have kh : env.kindOf (S "hand") = some .local := by subst hEnv; rfl
  have kt : env.kindOf (S "text") = some .local := by subst hEnv; rfl
  have ke : env.kindOf (S "EXACT_TOKEN_TYPES") = some .globalImplicit := by subst hEnv; rfl
  have hR' : Rm (A.deeper env) 0 := hR.deeper
  generalize A.deeper env = A' at hR' ⊢
  refine st_assign hE kh (Pu.dict0 (knd := intKind PR w) (FR.base B)) F0 N0 ht0 fun v nw h1 tk1 ht1 hv F1 N1 => ?_
  obtain ⟨d, o1, rfl, rfl, hlow, hd1⟩ := hv
  rw [List.append_nil] at N1
  refine st_for (V := IsV (.ref 22)) hE kt (Pu.glob hE (FR.base B) ke (g_ex w)) F1 N1 ht1 fun v nw h2 tk2 ht2 hv st2 F2 N2 _ => ?_
  cases hv
  have N2' : News g L h2 [(d, o1)] := fun p hp => N2 p (List.mem_append_right _ hp)
  have hX := ex_dict (B.stays F2.keep)
  have h22L : 22 ≠ L := by
    intro e
    obtain ⟨ep, e22⟩ := h22 w
    exact absurd (Nat.lt_of_lt_of_le (Heap.lt_size (B.K _ _ e22)) F2.above) (by rw [← e]; exact Nat.lt_irrefl 22)
  have hd22 : d ≠ 22 := by
    rintro rfl
    obtain ⟨ep, e22⟩ := h22 w
    have := (N1 _ (.head _)).2.2
    rw [B.K _ _ e22] at this; cases this
  have hdsz : d ≠ h2.objs.size := Nat.ne_of_lt (Heap.lt_size (N2' _ (.head _)).1)
  refine it_keys hR'.hh hE kt hX (by decide) h22L F2 N2' ht2
    (fun i l₁ news₁ => ∃ o kvs, lk l₁ (S "hand") = some (.ref d) ∧ (∀ v, lk ((S "text", v) :: l₁) = lk [(S "text", v), (S "hand", .ref d), (S "pair", .str (ms [c0, c1]) ta)]) ∧ news₁ = [(d, o)] ∧ o.IsDictOf (intKind PR w) kvs ∧ Rel RS kvs ((exT.take i).foldl (handStep c0 c1) []))
    ⟨o1, [], rfl, fun _ => rfl, rfl, hd1, .nil⟩ ?_ ?_
  · rintro i k u v l₁ news₁ own s₁ hk hv ⟨o, kvs, hh, hlk, rfl, hd, hrel⟩ hown hnw F₁ N₁ ht₁ -
    obtain ⟨t, rfl⟩ := Value.isStrOf_shape hv
    rw [hlk] at F₁
    have hvk := valueAt_item exK_nodup hk
    obtain ⟨e, he, hek⟩ : ∃ e, exT[i]? = some e ∧ (e.1, Value.int e.2.2.1 e.2.2.2) = (k, u) := by
      unfold exK at hk; rw [List.getElem?_map] at hk
      cases q : exT[i]? with
      | none => rw [q] at hk; cases hk
      | some e => rw [q] at hk; exact ⟨e, rfl, by simpa using hk⟩
    obtain ⟨rfl, rfl⟩ := Prod.mk.inj hek
    have hshort := exT_short e (List.mem_of_getElem? he)
    have hlen : kvs.length ≤ 48 := by
      rw [hrel.len]
      have := hand_len c0 c1 (exT.take i) []
      have h48 : exT.length = 48 := by decide +kernel
      have h2 : (exT.take i).length ≤ 48 := by rw [List.length_take]; omega
      simp only [List.length_nil] at this; omega
    have hfold : (exT.take (i + 1)).foldl (handStep c0 c1) [] = handStep c0 c1 ((exT.take i).foldl (handStep c0 c1) []) e := by
      rw [List.take_add_one, he, List.foldl_append]; rfl
    refine st_if (c := inPair c0 c1 e.1) (Te.cmp (Pu.strike (x := Txt.replace e.1 ⟨#[c0]⟩ (S "")) (pr := ms [c0, c1]) (i := 1) (Pu.strike (x := e.1) (pr := ms [c0, c1]) (i := 0) (Pu.loc hE rfl kt).asS (Pu.loc hE rfl kp) (by decide) rfl ?_ (by omega)) (Pu.loc hE rfl kp) (by decide) rfl ?_ (by have := strike_len e.1 c0; omega)) Pu.str fun _ _ _ _ ha hb => (op_eqS ha hb).mono fun v nw hv => by rw [← strike_eq]; exact hv) F₁ N₁ ht₁ fun h3 tk3 ht3 F3 N3 => ?_
    · exact one_ne c0
    · exact one_ne c1
    cases hc : inPair c0 c1 e.1 with
    | false =>
      refine st_nil (st_nil (LE.next (news₂ := [(d, o)]) ht3 F3 N3 (fun p hp => .inl (List.mem_map_of_mem hp)) ⟨o, kvs, rfl, fun v => lk_ext ?_, rfl, hd, ?_⟩))
      · repeat' (first | exact trivial | refine ⟨rfl, ?_⟩)
      · rw [hfold]; unfold handStep; rw [hc]; exact hrel
    | true =>
      refine st_setD (k := (e.2.2.1 : Int)) (P := IsV (.int e.2.2.1 e.2.2.2)) (Pu.loc hE rfl kh) (Pu.key (Pu.glob hE (FR.base B) ke (g_ex w)) (fun h x => ex_dict (B.stays x.1.keep)) (Pu.loc hE rfl kt) (fun u n hu => by cases hu; exact hv) hvk) (Pu.loc hE rfl kt)
        (fun u n hu => by cases hu; exact intKind_is PR w _ _) (List.mem_append_right _ (.head _)) hd (by rw [sizeLine_eq]; omega) F3 N3 ht3 fun v nw o' h4 tk4 ht4 hv4 hd4 F4 N4 => ?_
      cases hv4
      refine st_nil (st_nil (LE.next (news₂ := [(d, o')]) ht4 F4 (fun p hp => N4 p ?_) (fun p hp => .inl ?_) ⟨o', stored kvs (e.2.2.1 : Int) (.str e.1 t), rfl, fun v => lk_ext ?_, rfl, hd4, ?_⟩))
      · refine List.mem_append_right _ ?_
        rw [setL_app, setL_off fun q hq => (hown q hq).elim (fun e => e ▸ Ne.symm hd22) (fun e => e ▸ Ne.symm hdsz), setL_cons_self]
        exact hp
      · rw [List.mem_singleton.mp hp]; exact .head _
      · repeat' (first | exact trivial | refine ⟨rfl, ?_⟩)
      · rw [hfold]; unfold handStep; rw [hc]; exact hrel.put ⟨t, rfl⟩
  · rintro h' tk l' news' tp F' N' ⟨o, kvs, hh, hlk, rfl, hd, hrel⟩
    refine st_ret (Pu.loc hE hh kh) F' N' tp fun v nw h'' tk' tp' hv F'' N'' => ?_
    cases hv
    refine Ret.intro (nw := [(d, o)]) F'' N'' (fun p hp => List.mem_append_right _ hp) ⟨d, o, kvs, rfl, .head _, hd, hlow, ?_⟩
    have e48 : exK.length = exT.length := by unfold exK; simp
    rw [e48, List.take_length] at hrel
    exact hrel
end Mine
end
section
open PySem PySem.W PyProof.Rows PySem.Calls
open PySem.Builtin PySem.Builtin.Str
set_option Elab.async false
set_option linter.unusedVariables false
namespace Mine
theorem mulOk {x : PySem.Str} {n : Int} (hx : x.length ≤ 100000) (h0 : 1 ≤ n) (h3 : n ≤ 3) : MulOk x n := by
  refine ⟨by simp; omega, fun _ _ => ?_, fun _ _ => ?_⟩
  · have : (2 ^ 63 - 1 : Int) / 3 ≤ (2 ^ 63 - 1) / n := by
      rcases (by omega : n = 1 ∨ n = 2 ∨ n = 3) with rfl | rfl | rfl <;> decide
    have h : (2 ^ 63 - 1 : Int) / 3 = 3074457345618258602 := by decide
    omega
  · unfold tooLong
    rw [sizeLine_eq]
    have : x.length * n.toNat ≤ x.length * 3 := Nat.mul_le_mul_left _ (by omega)
    exact decide_eq_false (by omega)
theorem op_mul {w : World} {A : Around} {I : HP} {x : PySem.Str} {n : Int} {a b : Value} {n0 n1 n2 : Led} (ha : IsS x a n1) (hb : IsI n b n2) (hx : x.length ≤ 100000) (h0 : 1 ≤ n) (h3 : n ≤ 3) : Tr w A I (binaryOp .Mult a b) (fun v nu => IsS (Txt.mul x n) v (nu ++ n0)) := by
  obtain ⟨t, rfl⟩ := ha; obtain ⟨u, rfl⟩ := hb
  exact .mk fun _ _ _ _ k => SB.mul (mulOk hx h0 h3) fun t' k' => k _ [] _ _ (stays_refl _) .nil ⟨_, rfl⟩
theorem mul2_tl (x : PySem.Str) : tl (Txt.mul x 2) = tl x ++ tl x := by
  unfold Txt.mul
  rw [if_neg (by decide)]
  split
  · rename_i h
    have : x.length = 0 := by simpa using h
    rw [len_tl] at this
    rw [List.length_eq_zero_iff.mp this]; rfl
  · simp [tl, List.replicate]
theorem mul3_tl (x : PySem.Str) : tl (Txt.mul x 3) = tl x ++ tl x ++ tl x := by
  unfold Txt.mul
  rw [if_neg (by decide)]
  split
  · rename_i h
    have : x.length = 0 := by simpa using h
    rw [len_tl] at this
    rw [List.length_eq_zero_iff.mp this]; rfl
  · simp [tl, List.replicate]
/-- a new tuple of these texts -/
def IsTS (xs : List PySem.Str) : Value → Led → Prop := fun v nw => ∃ a vs, v = .ref a ∧ (a, To vs) ∈ nw ∧ StrsAre vs xs
theorem op_inT {w : World} {A : Around} {I : HP} {x : PySem.Str} {ys : List PySem.Str} {a b : Value} {n1 n2 : Led} (ha : IsS x a n1) (hb : IsTS ys b n2) : Tr w A (I.and (n2 ++ n1)) (compareOp .In a b) (fun v nu => IsB (ys.any (· == x)) v (nu ++ (n2 ++ n1))) := by
  obtain ⟨t, rfl⟩ := ha; obtain ⟨c, vs, rfl, hm, hS⟩ := hb
  exact .mk fun s _ hI _ k => in_tuple_strs (⟨_, hI.2 _ (List.mem_append_left _ hm), rfl, _, rfl⟩ : IsTup s.heap c vs.toArray) (by simpa using hS) (k _ [] _ _ (stays_refl _) .nil rfl)
theorem reads_bools (h : Heap) : ∀ bs : List Bool, ReadsAll h (bs.map Value.bool) (bs.map PyData.bool) []
  | [] => ReadsAll.nil
  | b :: r => readsAll_cons_val (Reads.bool b) (reads_bools h r)
theorem lay_bools : ∀ bs : List Bool, PyData.canLayAll0 (bs.map PyData.bool) = true ∧ PyData.depthAll (bs.map PyData.bool) = 0
  | [] => ⟨rfl, rfl⟩
  | b :: r => ⟨by simp [PyData.canLayAll0, PyData.canLay0, (lay_bools r).1], by simp [PyData.depthAll, PyData.depth, (lay_bools r).2]⟩
theorem eqv_bools : ∀ bs cs : List Bool, PyData.eqvAll (bs.map PyData.bool) (cs.map PyData.bool) = (bs == cs)
  | [], [] => rfl
  | [], _ :: _ => rfl
  | _ :: _, [] => rfl
  | b :: r, c :: q => by
    simp only [List.map_cons, PyData.eqvAll, eqv_bools r q]
    cases b <;> cases c <;> simp [PyData.eqv]
def IsLB (bs : List Bool) : Value → Led → Prop := fun v nw => ∃ a n, v = .ref a ∧ (a, Lo (bs.map Value.bool) n) ∈ nw
theorem op_neB {w : World} {A : Around} {I : HP} {a b : Value} {bs cs : List Bool} {da : Addr} {na : Nat} {n1 n2 : Led} (ha : IsV (.ref da) a n1) (hl : ∀ h, I.on h → h.get? da = some (Lo (bs.map Value.bool) na)) (hb : IsLB cs b n2) (hu : A.units + 64 < cLine) :
    Tr w A (I.and (n2 ++ n1)) (compareOp .NotEq a b) (fun v nu => IsB (bs != cs) v (nu ++ (n2 ++ n1))) := by
  cases ha; obtain ⟨db, nb, rfl, hm⟩ := hb
  have sh : ∀ bs : List Bool, SeqAt.shaped (.list (bs.map PyData.bool)) = true := fun bs => by simp [SeqAt.shaped, PyData.canLay0, PyData.depth, lay_bools]
  refine .mk fun s _ hI _ k => ne_dataH (reads_list_at (hl _ hI.1) rfl rfl (by simpa using reads_bools s.heap bs)) (reads_list_at (hI.2 _ (List.mem_append_left _ hm)) rfl rfl (by simpa using reads_bools s.heap cs)) (sh _) (sh _) hu ?_
  rw [PyData.eqv, eqv_bools]
  exact k _ [] _ _ (stays_refl _) .nil rfl
theorem same_list {α : Type} {a b : List α} (hl : a.length = b.length) (h : ∀ (j : Nat) (v : α), a[j]? = some v → b[j]? = some v) : a = b := by
  refine List.ext_getElem? fun i => ?_
  cases e : a[i]? with
  | some v => exact (h i v e).symm
  | none => rw [List.getElem?_eq_none_iff] at e; rw [List.getElem?_eq_none_iff.mpr (by omega)]
theorem paired_map {β : Type} {f : PySem.Str → β} {mkv : β → Value} {F : Value → Value → Prop} (hF : ∀ x t y, F (.str x t) y → y = mkv (f x)) : ∀ {vs : List Value} {xs : List PySem.Str} {ys : List Value}, StrsAre vs xs → Paired F vs ys → ys = xs.map fun x => mkv (f x)
  | _, _, _, .nil, .nil => rfl
  | _, _, _, .cons n t r, .cons h p => by rw [List.map_cons, hF _ _ _ h, paired_map hF r p]

abbrev dots : PySem.Str := S "..."
def wantsOf (own : PySem.Str) : List PySem.Str := [own, own ++ dots ++ own, dots ++ own ++ dots ++ own ++ dots, own ++ dots ++ own ++ dots ++ own]
def gotsOf (own : PySem.Str) : List PySem.Str := [own, Txt.mul own 2, Txt.mul own 3, S " " ++ Txt.mul own 2, Txt.mul own 2 ++ S " "]
def heldAt (own got : PySem.Str) : Bool := (wantsOf own).map (fun want => ell want got) == [got == own, [Txt.mul own 2, Txt.mul own 3].any (· == got), got != own, got == Txt.mul own 3]
section
variable {w : World} {A : Around} {env : Env} {g : Heap} {L : Addr} {s : Shared} {rest : List Stmt}
/-- for x in e, whatever x is -/
theorem st_forN {x : PySem.Str} {px p : Pos} {iter : Expr} {body : List Stmt} {l : List (PySem.Str × Value)} {news : Led} {V : Value → Led → Prop} {Q : Flow → Shared → Prop}
    (hp : Pu w A env (FR g L l news) iter V) (F : Fr g L s.heap (lk l)) (N : News g L s.heap news) (ht : 0 < s.toks)
    (hit : ∀ v nw h1 tk1, 0 < tk1 → V v nw → s.heap.StaysIn h1 → Fr g L h1 (lk l) → News g L h1 (nw ++ news) → New s.heap h1 nw →
      wpAny (MD w) A (pyIter v) (fun it s₂ => ∃ I, it = .ref I ∧ codeAny (MD w) A (.forLoop (.Name x px) (.ref I) body [] env)
        (fun r s' => match r with | .ok .next => wpAny (MD w) A (execs rest env) Q NE s' | .ok f => Q f s' | .error _ => False) s₂) NE { s with heap := h1, toks := tk1 })
    (hs : ∀ x, foldedSetIterable iter env x = pure x := by intro _; rfl) :
    wpAny (MD w) A (execs (.For (.Name x px) iter body [] p :: rest) env) Q NE s := by
  refine wpAny_execs_cons (wpAny_For (hp s _ ⟨F, N⟩ ht fun v nw h1 tk1 tp1 st1 i1 n1 hv => ?_) hs)
  refine wpAny_mono (hit v nw h1 tk1 tp1 hv st1 i1.1 (news_new F N st1 n1) n1) (fun it s₂ h₂ => ?_) fun _ _ e => e
  obtain ⟨I, rfl, hc⟩ := h₂
  refine codeAny_mono hc fun r s' hr => ?_
  cases r with
  | error e => exact hr.elim
  | ok f => cases f <;> exact hr

/-- a tuple, item by item, into a cell -/
theorem it_tupleC {x : PySem.Str} {px : Pos} {body : List Stmt} {l : List (PySem.Str × Value)} {news : Led} {a c : Addr} {vs : List Value} {R : Result → Shared → Prop} (hh : A.handled = none) (hE : EnvOk env L) (hx : env.kindOf x = some .cell) (hc : env.cells.lookup x = some c)
    (hl : s.heap.get? a = some (To vs)) (haL : a ≠ L) (hac : c ≠ a) (hcl : c < s.heap.objs.size) (F : Fr g L s.heap (lk l)) (N : News g L s.heap news) (ht : 0 < s.toks)
    (J : Nat → List (PySem.Str × Value) → Led → Prop) (h0 : J 0 l news) (hJc : ∀ i l₁ news₁, J i l₁ news₁ → ∃ o v, (c, o) ∈ news₁ ∧ o.data = .cell v)
    (step : ∀ i v l₁ news₁ o' own s₁, vs[i]? = some v → J i l₁ news₁ → o'.data = .cell (some v) → (∀ p ∈ own, p.1 = a ∨ p.1 = s.heap.objs.size) → (∀ p ∈ news₁, p.1 ≠ s.heap.objs.size) → Fr g L s₁.heap (lk l₁) → News g L s₁.heap (own ++ setL c o' news₁) → 0 < s₁.toks → (∃ h tk, s₁ = { s with heap := h, toks := tk }) →
      wpAny (MD w) A (execs body env) (LE g L own news₁ (J (i + 1)) s₁ fun v s' => R (.ok (.ret v)) s') NE s₁)
    (hR : ∀ h' tk l' news', 0 < tk → Fr g L h' (lk l') → News g L h' news' → J vs.length l' news' → R (.ok .next) { s with heap := h', toks := tk }) :
    wpAny (MD w) A (pyIter (.ref a)) (fun it s₂ => ∃ I, it = .ref I ∧ codeAny (MD w) A (.forLoop (.Name x px) (.ref I) body [] env) R s₂) NE s := by
  have hlt : a < s.heap.objs.size := Heap.lt_size hl
  have hT : s.heap.IsTuple a vs.toArray := ⟨_, hl, rfl, _, rfl⟩
  have hLlt : L < s.heap.objs.size := F.ns.lt
  have W := Walks.tuple (prog := PR) (w := w) hh s.heap.objs.size a (Nat.ne_of_lt hlt) vs.toArray
  simp only [List.size_toArray, List.getElem?_toArray] at W
  refine wpAny_pyIter_tuple hT ⟨_, rfl, ?_⟩
  refine for_coreC hE hx hc ?_ W ?_ ?_ ?_ ⟨⟨_, Heap.get?_push_size _ rfl, rfl, rfl⟩, hT.push _⟩ ?_ (F.push _) (fun p hp => ⟨Heap.get?_push_of_some _ (N p hp).1, (N p hp).2⟩) ht J h0 hJc ?_ ?_
  · intro hm
    rcases List.mem_cons.mp hm with e | hm
    · exact Nat.lt_irrefl _ (e ▸ hcl)
    · exact hac (List.mem_singleton.mp hm)
  · intro hm
    rcases List.mem_cons.mp hm with e | hm
    · exact absurd hLlt (e ▸ Nat.lt_irrefl _)
    · exact haL (List.mem_singleton.mp hm).symm
  · intro b hb
    rw [List.mem_singleton.mp hb]
    exact get_none_back F.keep (size_none _ (Nat.le_refl _))
  · intro p hp hI
    exact absurd (Heap.lt_size (N p hp).1) ((List.mem_singleton.mp hI) ▸ Nat.lt_irrefl _)
  · rintro i h ⟨⟨o, ho, _⟩, _⟩ b hb
    rw [List.mem_singleton.mp hb]; exact ⟨o, ho⟩
  · intro i v l₁ news₁ o' own s₁ hi hP hJ ho' hown hnw F₁ N₁ ht₁ hs₁ _
    refine step i v l₁ news₁ o' own s₁ hP hJ ho' (fun p hp => ?_) (fun p hp e => hnw p hp (List.mem_singleton.mpr e)) F₁ N₁ ht₁ (by obtain ⟨h, tk, e⟩ := hs₁; exact ⟨h, tk, e⟩)
    rcases List.mem_cons.mp (hown p hp) with q | q
    · exact .inr q
    · exact .inl (List.mem_singleton.mp q)
  · intro h' tk l' news' tp F' N' hJ
    exact hR h' tk l' news' tp F' N' hJ
end
end Mine
end
section
open PySem PySem.W PyProof.Rows PySem.Calls
open PySem.Builtin PySem.Builtin.Str
set_option Elab.async false
set_option linter.unusedVariables false
namespace Mine
theorem bindL_loc {kindOf : PySem.Str → Option NameKind} {n : PySem.Str} {v : Value} {r : List (PySem.Str × Value)} {m : PySem.Str → Option Value} (h : kindOf n = some .local) : bindL kindOf ((n, v) :: r) m = bindL kindOf r (fun y => if y = n then some v else m y) := by
  show bindL kindOf r (if kindOf n = some .local then _ else m) = _
  rw [if_pos h]
theorem bindL_cell {kindOf : PySem.Str → Option NameKind} {n : PySem.Str} {v : Value} {r : List (PySem.Str × Value)} {m : PySem.Str → Option Value} (h : kindOf n = some .cell) : bindL kindOf ((n, v) :: r) m = bindL kindOf r m := by
  show bindL kindOf r (if kindOf n = some .local then _ else m) = _
  rw [if_neg (by rw [h]; decide)]
theorem bindC_loc {kindOf : PySem.Str → Option NameKind} {n : PySem.Str} {v : Value} {r : List (PySem.Str × Value)} {m : PySem.Str → Option Value} (h : kindOf n = some .local) : bindC kindOf ((n, v) :: r) m = bindC kindOf r m := by
  show bindC kindOf r (if kindOf n = some .local then m else _) = _
  rw [if_pos h]
theorem bindC_cell {kindOf : PySem.Str → Option NameKind} {n : PySem.Str} {v : Value} {r : List (PySem.Str × Value)} {m : PySem.Str → Option Value} (h : kindOf n = some .cell) : bindC kindOf ((n, v) :: r) m = bindC kindOf r (fun y => if y = n then some v else m y) := by
  show bindC kindOf r (if kindOf n = some .local then m else _) = _
  rw [if_neg (by rw [h]; decide)]
theorem g_em (w : World) : nsIn (KK w) mainGlobals (S "_ellipsis_match") = some (some (.ref 21)) := by kernel_rfl
theorem k_em (w : World) : keepIn (KK w) (.ref 21) = true := by kernel_rfl
theorem mul2_len (x : PySem.Str) : (Txt.mul x 2).length = 2 * x.length := by rw [len_tl, mul2_tl, List.length_append, ← len_tl]; omega
theorem mul3_len (x : PySem.Str) : (Txt.mul x 3).length = 3 * x.length := by rw [len_tl, mul3_tl, List.length_append, List.length_append, ← len_tl]; omega
theorem app_len (x y : PySem.Str) : (x ++ y).length = x.length + y.length := by rw [len_tl, tl_app, List.length_append, ← len_tl, ← len_tl]
theorem dots_len : (PySem.Str.ofString "...").length = 3 := by decide +kernel
theorem blank_len : (PySem.Str.ofString " ").length = 1 := by decide +kernel
theorem LVstrs : ∀ {xs : List PySem.Str} {vs : List Value} {m : Led}, LV (xs.map IsS) vs m → StrsAre vs xs
  | [], _, _, h => by cases h; exact .nil
  | x :: r, _, _, ⟨v, q, e, u, h⟩ => by
    obtain ⟨t, rfl⟩ := u.s
    subst e
    exact .cons _ _ (LVstrs h)
theorem Pu.strs {w : World} {A : Around} {env : Env} {I : HP} {es : List Expr} {k : Nat} {p : Pos} {xs : List PySem.Str} (h : PuL w A env I es (LV (xs.map IsS))) (hx : xs.length ≤ 100)
    (hs : backTo p (starEach es env) = es.map fun e => (false, eval e env) := by rfl) : Pu w A env I (.Tuple es k p) (IsTS xs) :=
  .tuple h (fun vs m hv => by rw [(LVstrs hv).len_eq, sizeLine_eq]; omega) (fun vs m a hv => ⟨a, vs, rfl, .head _, LVstrs hv⟩) hs

set_option maxRecDepth 100000 in
set_option maxHeartbeats 8000000 in
theorem held_call {w : World} {A : Around} {I : HP} {own : PySem.Str} {ta : Tok} (hB : ∀ h, I.on h → Base w h) (hR : Rm A 2) (ho : own.length ≤ 10000) :
    Tr w A I (call (.ref 116) [.str own ta]) (IsB ((gotsOf own).all (heldAt own))) := by
  have hz : sizeLine = 16777216 := sizeLine_eq
  refine' Tr.fnC (binds := [(S "own", .str own ta)]) hB (hR.less (by decide)) ?ho ?hcd ?hbind ?hkind ?hnd ?h ?c2 ?c3 ?c4
  case ho => with_unfolding_all rfl
  case hcd => kernel_rfl
  case hbind => rfl
  case hkind => intro L x hx; rw [List.mem_singleton.mp hx]; exact .inl rfl
  case hnd => decide +kernel
  case c2 => rfl
  case c3 => rfl
  case c4 => rfl
  intro s g L cells hI B CA F0 N0 ht0
  obtain ⟨oc, rfl, hoc⟩ := CellsAre.one CA
  have F0' : Fr g L s.heap (lk [(S "own", .str own ta)]) := by
    refine Eq.mp (congrArg (Fr g L s.heap) ?_) F0
    exact (bindL_loc (by rfl)).trans (lk_cons [] _ _)
  clear F0 CA
  generalize hEnv : callEnvC _ L 116 = env
  have hE : EnvOk env L := by subst hEnv; exact ⟨rfl, rfl, rfl, rfl⟩
  have ko : env.kindOf (S "own") = some .local := by subst hEnv; rfl
  have kw : env.kindOf (S "wants") = some .local := by subst hEnv; rfl
  have kt : env.kindOf (S "told") = some .local := by subst hEnv; rfl
  have kg : env.kindOf (S "got") = some .cell := by subst hEnv; rfl
  have cg : env.cells.lookup (S "got") = some (L + 1) := by subst hEnv; rfl
  have hR' : Rm (A.deeper env) 1 := hR.deeper
  generalize hA' : A.deeper env = A' at hR' ⊢
  have dl := dots_len
  have bl := blank_len
  have dl' : dots.length = 3 := dots_len
  have bl' : (S " ").length = 1 := blank_len
  have cat : ∀ {I : HP} {x y : PySem.Str} {a b : Value} {n n1 n2 : Led}, x.length + y.length ≤ 1000000 → IsS x a n1 → IsS y b n2 → Tr w A' I (binaryOp .Add a b) (fun v nu => IsS (x ++ y) v (nu ++ n)) := fun h ha hb => op_cat ha hb (by omega)
  have lo : ∀ {l news p}, lk l (S "own") = some (.str own ta) → Pu w A' env (FR g L l news) (.Name (S "own") p) (IsS own) := fun h => (Pu.loc hE h ko).asS
  refine st_assign (V := IsTS (wantsOf own)) hE kw (Pu.strs (xs := wantsOf own) (.cons (lo rfl) (.cons (Pu.binop (Pu.binop (lo rfl) Pu.str fun _ _ _ _ => cat (by omega)) (lo rfl) fun _ _ _ _ => cat (by simp only [app_len]; omega))
    (.cons (Pu.binop (Pu.binop (Pu.binop (Pu.binop Pu.str (lo rfl) fun _ _ _ _ => cat (by omega)) Pu.str fun _ _ _ _ => cat (by simp only [app_len]; omega)) (lo rfl) fun _ _ _ _ => cat (by simp only [app_len]; omega)) Pu.str fun _ _ _ _ => cat (by simp only [app_len]; omega))
    (.cons (Pu.binop (Pu.binop (Pu.binop (Pu.binop (lo rfl) Pu.str fun _ _ _ _ => cat (by omega)) (lo rfl) fun _ _ _ _ => cat (by simp only [app_len]; omega)) Pu.str fun _ _ _ _ => cat (by simp only [app_len]; omega)) (lo rfl) fun _ _ _ _ => cat (by simp only [app_len]; omega)) .nil)))) (by simp [wantsOf])) F0' N0 ht0 fun v nw h1 tk1 ht1 hv F1 N1 => ?_
  obtain ⟨tw, wv, rfl, hmw, hSw⟩ := hv
  have N1' : News g L h1 [(L + 1, oc), (tw, To wv)] := fun p hp => N1 p (by
    rcases List.mem_cons.mp hp with rfl | hp
    · exact List.mem_append_right _ (.head _)
    · rw [List.mem_singleton.mp hp]; exact List.mem_append_left _ hmw)
  clear N1
  have m2 : ∀ {l news p1 p2 k q}, lk l (S "own") = some (.str own ta) → Pu w A' env (FR g L l news) (.BinOp (.Name (S "own") p1) .Mult (.Constant (.int 2) k q) p2) (IsS (Txt.mul own 2)) := fun h => Pu.binop (lo h) Pu.int fun _ _ _ _ ha hb => op_mul ha hb (by omega) (by decide) (by decide)
  have m3 : ∀ {l news p1 p2 k q}, lk l (S "own") = some (.str own ta) → Pu w A' env (FR g L l news) (.BinOp (.Name (S "own") p1) .Mult (.Constant (.int 3) k q) p2) (IsS (Txt.mul own 3)) := fun h => Pu.binop (lo h) Pu.int fun _ _ _ _ ha hb => op_mul ha hb (by omega) (by decide) (by decide)
  have e2 := mul2_len own
  have e3 := mul3_len own
  refine st_forN (V := IsTS (gotsOf own)) (Pu.strs (xs := gotsOf own) (.cons (lo rfl) (.cons (m2 rfl) (.cons (m3 rfl) (.cons (Pu.binop Pu.str (m2 rfl) fun _ _ _ _ => cat (by omega)) (.cons (Pu.binop (m2 rfl) Pu.str fun _ _ _ _ => cat (by omega)) .nil))))) (by simp [gotsOf])) F1 N1' ht1 fun v nw h2 tk2 ht2 hv st2 F2 N2 new2 => ?_
  obtain ⟨tg, gv, rfl, hmg, hSg⟩ := hv
  have hgl := N2 _ (List.mem_append_left _ hmg)
  have N2' : News g L h2 [(L + 1, oc), (tw, To wv)] := fun p hp => N2 p (List.mem_append_right _ hp)
  have hgn := (new2 _ hmg).2
  have hLc : L + 1 < h2.objs.size := Heap.lt_size (N2' _ (.head _)).1
  have hcg : L + 1 ≠ tg := by
    intro e; rw [← e, (N1' _ (.head _)).1] at hgn; cases hgn
  have hwc : tw ≠ L + 1 := by
    intro e
    have h1' := (N1' _ (.head _)).1
    have h2' := (N1' _ (.tail _ (.head _))).1
    rw [show (tw, To wv).1 = L + 1 from e, h1'] at h2'
    have : oc = To wv := Option.some.inj h2'
    rw [this] at hoc; cases hoc
  have hall : ∀ x ∈ gotsOf own, x.length ≤ 1048576 := by
    intro x hx
    simp only [gotsOf, List.mem_cons, List.not_mem_nil, or_false] at hx
    rcases hx with rfl | rfl | rfl | rfl | rfl <;> (try simp only [app_len]) <;> omega
  have hallw : ∀ x ∈ wantsOf own, x.length ≤ 1048576 := by
    intro x hx
    simp only [wantsOf, List.mem_cons, List.not_mem_nil, or_false] at hx
    rcases hx with rfl | rfl | rfl | rfl <;> (try simp only [app_len]) <;> omega
  refine it_tupleC hR'.hh hE kg cg hgl.1 hgl.2.1 hcg hLc F2 N2' ht2
    (fun i l₁ news₁ => ∃ o v, news₁ = [(L + 1, o), (tw, To wv)] ∧ o.data = .cell v ∧ lk l₁ (S "wants") = some (.ref tw) ∧ lk l₁ (S "own") = some (.str own ta) ∧ ((gotsOf own).take i).all (heldAt own) = true)
    ⟨oc, none, rfl, hoc, rfl, rfl, rfl⟩ (fun i l₁ news₁ ⟨o, v, e, h, _⟩ => ⟨o, v, by rw [e]; exact .head _, h⟩) ?_ ?_
  · rintro i v l₁ news₁ o' own' s₁ hi ⟨o, v0, rfl, ho0, hlw, hlo, hJ⟩ ho' hown hnw F₁ N₁ ht₁ ⟨hh₁, tkk, rfl⟩
    obtain ⟨got, tgt, rfl, hgot⟩ := hSg.item i v hi
    have hgs := hall got (List.mem_of_getElem? hgot)
    rw [setL_cons_self, setL_off (fun p hp => by rw [List.mem_singleton.mp hp]; exact hwc)] at N₁
    refine st_comp (p := fun _ => true) (U := fun v y n => ∃ x t, v = .str x t ∧ y = .bool (ell x got)) (V := IsV (.ref tw)) (n := wv.length) (P := fun i v => wv[i]? = some v) (cl := [(S "got", L + 1)]) hE kt (by subst hEnv; rfl) (by subst hEnv; rfl) (Pu.loc hE hlw kw)
      (fun v nw hv => by cases hv; exact Src.tuple hR'.hh fun h x => (x.1.2 _ (List.mem_append_right _ (.tail _ (.head _)))).1) (by rw [hSw.len_eq, hz]; simp [wantsOf]) (fun nn C i v hP hnn => rfl) (fun nn C i v hP _ hnn => ?_) F₁ N₁ ht₁ fun D ys m vs nw h3 tk3 ht3 hvl hvP hpair F3 N3 => ?_
    · obtain ⟨x, tx, rfl, hx⟩ := hSw.item i v hP
      have hxs := hallw x (List.mem_of_getElem? hx)
      refine (Pu.callF (U := IsB (ell x got)) (CF.base B) (k_em w) (Pu.glob (comp_env hE rfl) (CF.base B) (by subst hEnv; rfl) (g_em w)) (.cons (CF.loc (comp_env hE rfl) (by subst hEnv; rfl)) (.cons (Pu.cell rfl (by subst hEnv; rfl) rfl (CF.cell (hnn _ (List.mem_append_right _ (.head _))) ho')) .nil)) fun vs n hvs => ?_).mono fun y n hy => ⟨x, tx, rfl, hy⟩
      obtain ⟨a, b, rfl, u1, u2⟩ := LV2 hvs
      obtain rfl := u1.v; obtain rfl := u2.v
      exact ell_call (fun h y => CF.base B h y.1) hR' hxs hgs
    · have hvs : vs = wv := same_list hvl hvP
      subst hvs
      rw [List.filter_eq_self.mpr fun _ _ => rfl] at hpair
      have hys := paired_map (f := fun x => ell x got) (mkv := Value.bool) (fun x t y hF => by obtain ⟨n, x', t', e, e2⟩ := hF; cases e; exact e2) hSw hpair
      have hys2 : ys = ((wantsOf own).map fun x => ell x got).map Value.bool := by rw [hys, List.map_map]; rfl
      subst hys2
      have hlo3 : lk ((S "told", Value.ref D) :: l₁) (S "own") = some (.str own ta) := by rw [← lk_cons]; exact hlo
      have hgc : ∀ {q : Pos}, Pu w A' env (FR g L ((S "told", Value.ref D) :: l₁) ((D, Lo (((wantsOf own).map fun x => ell x got).map Value.bool) m) :: (nw ++ (own' ++ [(L + 1, o'), (tw, To vs)])))) (.Name (S "got") q) (IsS got) :=
        fun {q} => (Pu.cell hE.kind kg cg (FR.cell (.tail _ (List.mem_append_right _ (List.mem_append_right _ (.head _)))) ho')).asS
      refine st_if (c := ((wantsOf own).map fun x => ell x got) != [got == own, [Txt.mul own 2, Txt.mul own 3].any (· == got), got != own, got == Txt.mul own 3])
        (Te.cmp (P := IsV (.ref D)) (R := IsLB [got == own, [Txt.mul own 2, Txt.mul own 3].any (· == got), got != own, got == Txt.mul own 3]) (Pu.loc hE rfl kt)
          (Pu.list (V := LV [IsB _, IsB _, IsB _, IsB _]) (.cons (Pu.cmp hgc (lo hlo3) fun _ _ _ _ ha hb => op_eqS ha hb) (.cons (Pu.cmp hgc (Pu.strs (xs := [Txt.mul own 2, Txt.mul own 3]) (.cons (m2 hlo3) (.cons (m3 hlo3) .nil)) (by simp)) fun _ _ _ _ ha hb => op_inT ha hb)
            (.cons (Pu.cmp hgc (lo hlo3) fun _ _ _ _ ha hb => op_neS ha hb) (.cons (Pu.cmp hgc (m3 hlo3) fun _ _ _ _ ha hb => op_eqS ha hb) .nil))))
            (fun vs m hv => by obtain ⟨_, _, rfl, _, _, _, rfl, _, hv⟩ := hv; obtain ⟨_, _, rfl, _, _⟩ := LV2 hv; rw [hz]; simp) (fun vs m a hv => by
              obtain ⟨_, _, rfl, ⟨_, _, u1⟩, _, _, rfl, ⟨_, _, u2⟩, hv⟩ := hv; obtain ⟨_, _, rfl, ⟨_, _, u3⟩, ⟨_, _, u4⟩⟩ := LV2 hv
              cases u1; cases u2; cases u3; cases u4
              exact ⟨a, 0, rfl, .head _⟩))
          fun _ _ _ _ ha hb => op_neB ha (fun h x => (x.2 _ (.head _)).1) hb (by have := hR'.hu; omega)) F3 N3 ht3 fun h4 tk4 ht4 F4 N4 => ?_
      have hhe : heldAt own got = !(((wantsOf own).map fun x => ell x got) != [got == own, [Txt.mul own 2, Txt.mul own 3].any (· == got), got != own, got == Txt.mul own 3]) := (Bool.not_not _).symm
      have hgd : gotsOf own = (gotsOf own).take i ++ got :: (gotsOf own).drop (i + 1) := by
        have hlt := (List.getElem?_eq_some_iff.mp hgot).1
        have := (List.getElem?_eq_some_iff.mp hgot).2
        rw [← this, ← List.drop_eq_getElem_cons hlt, List.take_append_drop]
      cases hc : (((wantsOf own).map fun x => ell x got) != [got == own, [Txt.mul own 2, Txt.mul own 3].any (· == got), got != own, got == Txt.mul own 3]) with
      | true =>
        refine st_ret Pu.bool F4 N4 ht4 fun v nw h' tk tp hv F' N' => ?_
        refine Ret.intro F' N' (fun p hp => List.mem_append_left _ hp) ?_
        have : (gotsOf own).all (heldAt own) = false := by
          rw [hgd, List.all_append, List.all_cons, hhe, hc]; simp
        rw [this]; exact hv
      | false =>
        refine st_nil (st_nil (LE.next (news₂ := [(L + 1, o'), (tw, To vs)]) ht4 F4 (fun p hp => N4 p (.tail _ (List.mem_append_right _ hp))) (fun p hp => .inl (by
          rcases List.mem_cons.mp hp with rfl | hp
          · exact .head _
          · rw [List.mem_singleton.mp hp]; exact .tail _ (.head _))) ⟨o', some (.str got tgt), rfl, ho', ?_, ?_, ?_⟩))
        · rw [← lk_cons]; exact hlw
        · exact hlo3
        · rw [List.take_add_one, hgot, List.all_append, hJ]
          have hq : heldAt own got = true := by rw [hhe, hc]; rfl
          simp [hq]
  · rintro h' tk l' news' tp F' N' ⟨o, v, rfl, ho0, hlw, hlo, hJ⟩
    refine st_ret Pu.bool F' N' tp fun v nw h'' tk' tp' hv F'' N'' => ?_
    refine Ret.intro F'' N'' (fun p hp => List.mem_append_left _ hp) ?_
    have e5 : gv.length = (gotsOf own).length := hSg.len_eq
    rw [e5, List.take_length] at hJ
    rw [hJ]; exact hv
end Mine
end
section
open PySem PySem.W PyProof.Rows PySem.Calls
open PySem.Builtin PySem.Builtin.Str
set_option Elab.async false
set_option linter.unusedVariables false
namespace Mine
/-- a new list of these ints -/
def IsLI (ns : List Int) : Value → Led → Prop := fun v nw => ∃ a vs n, v = .ref a ∧ (a, Lo vs n) ∈ nw ∧ IntsAre vs ns
theorem ints_keys {w : World} {kvs : List (Int × Value)} : ∀ {vs : List Value}, vs.length = kvs.length → (∀ (j : Nat) (v : Value), vs[j]? = some v → ∃ k x, kvs[j]? = some (k, x) ∧ (intKind PR w).is k v = true) → IntsAre vs (kvs.map (·.1)) := by
  induction kvs with
  | nil => intro vs h _; rw [List.length_eq_zero_iff.mp h]; exact .nil
  | cons p r ih =>
    intro vs h hv
    cases vs with
    | nil => cases h
    | cons v vs =>
      obtain ⟨k, x, e, hk⟩ := hv 0 v rfl
      obtain ⟨t, rfl⟩ := Value.isInt_shape hk
      cases e
      exact .cons _ _ (ih (by simpa using h) fun j u hu => by
        have := hv (j + 1) u (by simpa using hu)
        simpa using this)
/-- numbers in their order -/
def sortI : List Int → List Int := fun l => l.mergeSort (fun a b => decide (a ≤ b))
theorem sortI_eq {a b : List Int} (hp : a.Perm b) (hs : a.Pairwise (· ≤ ·)) : a = sortI b := by
  refine List.Perm.eq_of_pairwise (le := (· ≤ ·)) (fun a b _ _ h1 h2 => Int.le_antisymm h1 h2) hs ?_ (hp.trans (List.mergeSort_perm b _).symm)
  have := List.pairwise_mergeSort (le := fun a b : Int => decide (a ≤ b)) (fun a b c h1 h2 => by simp at *; omega) (fun a b => by simp; omega) b
  exact this.imp (by simp)

section
variable {w : World} {A : Around} {env : Env} {I : HP} {g : Heap} {L : Addr} {l : List (PySem.Str × Value)} {news : Led} {s : Shared} {Q : Flow → Shared → Prop} {rest : List Stmt}

theorem c_sortedD {d : Addr} {kvs : List (Int × Value)} {vs : List Value} {m n : Led} (hh : A.handled = none) (hd : ∀ h, I.on h → h.DictOf (intKind PR w) d kvs) (hds : (d == sysModules) = false) (hl : kvs.length < 64) (h : LV [IsV (.ref d)] vs m) :
    Tr w A I (call (.builtin "sorted") vs) (fun r nu => IsLI (sortI (kvs.map (·.1))) r (nu ++ n)) := by
  obtain ⟨b, rfl, u⟩ := LV1 h; obtain rfl := u.v
  refine .mk fun s Q hI ht k => ?_
  obtain ⟨ep, hat⟩ := (hd _ hI).dictAt
  refine call_function_entry kind_sorted plain_sorted entry_sorted (args_sorted1 _) ?_
  unfold Builtin.«sorted»
  refine wpAny_bind (m := checkCount "sorted" 1 1 _) (wpAny_pure ?_)
  refine wpAny_bind (kdu_collect (A := A.in1) (kdl_dict (knd := intKind PR w) (kvs := kvs) (ep := ep) hds) hh hat (by rw [sizeLine_eq]; omega) fun h' tk acc hk hacc => ?_)
  have hl' : acc.toList.length = kvs.length := by rw [Array.length_toList]; exact hacc.1
  have hI' : IntsAre acc.toList (kvs.map (·.1)) := ints_keys hl' fun j v e => hacc.2 j v (by rw [← Array.getElem?_toList]; exact e)
  refine wpAny_bind (wpAny_newList ?_ (by rw [hl', sizeLine_eq]; omega))
  have ho : (h'.push { cls := .type "list", data := .seq acc.toList.toArray }).get? h'.objs.size = some (seqObj "list" acc.toList.toArray 0) := Heap.get?_push_size _ rfl
  refine wpAny_bind (wpAny_holding (wpAny_call_entry slot_list_sort ⟨_, ho, rfl⟩ entry_list_sort (list_sort_tree ho hI' (by omega) fun out ns' a1 a2 a3 => ⟨_, rfl, ?_⟩) (args_list_sort _)))
  refine wpAny_pure ⟨_, rfl, ?_⟩
  obtain ⟨e, he⟩ := sortedHeap_at (vs := acc.toList) (out := out) ho
  have st : s.heap.StaysIn (sortedHeap (h'.push { cls := .type "list", data := .seq acc.toList.toArray }) h'.objs.size acc.toList out) := fun b o q => by
    have q' := hk b o q
    have hlt := Heap.lt_size q'
    rw [sortedHeap_old (Nat.ne_of_lt hlt) (by rw [Heap.size_push]; exact Nat.lt_succ_of_lt hlt)]
    exact Heap.get?_push_of_some _ q'
  refine k _ [(h'.objs.size, Lo out.toList e)] _ tk st (.one (by simpa using he) (get_none_back hk (size_none _ (Nat.le_refl _)))) ⟨_, out.toList, e, rfl, by simp, ?_⟩
  rw [← sortI_eq a2 a3]; exact a1

theorem op_mod {i j : Int} {a b : Value} {n n1 n2 : Led} (ha : IsI i a n1) (hb : IsI j b n2) (hj : j ≠ 0) : Tr w A I (binaryOp .Mod a b) (fun v nu => IsI (i.fmod j) v (nu ++ n)) := by
  obtain ⟨t, rfl⟩ := ha; obtain ⟨u, rfl⟩ := hb
  exact .mk fun _ _ _ _ k => PyProof.Rows.mod_int hj (k _ [] _ _ (stays_refl _) .nil ⟨_, rfl⟩)
theorem op_fdiv {i j : Int} {a b : Value} {n n1 n2 : Led} (ha : IsI i a n1) (hb : IsI j b n2) (hj : j ≠ 0) (hp : Builtin.divisionGoesByPylong i j = false) : Tr w A I (binaryOp .FloorDiv a b) (fun v nu => IsI (i.fdiv j) v (nu ++ n)) := by
  obtain ⟨t, rfl⟩ := ha; obtain ⟨u, rfl⟩ := hb
  exact .mk fun _ _ _ _ k => PyProof.Rows.floordiv_int hj (k _ [] _ _ (stays_refl _) .nil ⟨_, rfl⟩) (.inl hp)
theorem op_leI {i j : Int} {a b : Value} {n : Led} {n1 n2 : Led} (ha : IsI i a n1) (hb : IsI j b n2) : Tr w A I (compareOp .LtE a b) (fun v nu => IsB (decide (i ≤ j)) v (nu ++ n)) := by
  obtain ⟨t, rfl⟩ := ha; obtain ⟨u, rfl⟩ := hb
  exact .mk fun _ _ _ _ k => PyProof.Rows.le_int (k _ [] _ _ (stays_refl _) .nil rfl)
theorem op_mulI {i j : Int} {a b : Value} {n n1 n2 : Led} (ha : IsI i a n1) (hb : IsI j b n2) (hm : IntMulOk i j) : Tr w A I (binaryOp .Mult a b) (fun v nu => IsI (i * j) v (nu ++ n)) := by
  obtain ⟨t, rfl⟩ := ha; obtain ⟨u, rfl⟩ := hb
  exact .mk fun _ _ _ _ k => PyProof.Rows.mul_int (k _ [] _ _ (stays_refl _) .nil ⟨_, rfl⟩) hm
theorem tt_list {a : Addr} {vs : List Value} {v : Value} {n : Led} (hv : IsV (.ref a) v n) (hl : ∀ h, I.on h → h.IsList a vs.toArray) (hz : (vs.length : Int) < 2 ^ 63) : Tr w A I (truthy v) (IsT (!vs.isEmpty)) := by
  cases hv
  exact .mk fun s Q hI _ k => wpAny_truthy_list (hl _ hI) (by simpa using hz) (by have := k (!vs.isEmpty) [] s.heap (s.toks + 1 + 1) (stays_refl _) .nil rfl; simpa using this)

/-- xs.append(e) -/
theorem st_append {oe e : Expr} {apos pos p : Pos} {a : Addr} {vs : List Value} {n : Nat} {V : Value → Led → Prop} (ho : Pu w A env (FR g L l news) oe (IsV (.ref a))) (hp : Pu w A env (FR g L l news) e V) (hm : (a, Lo vs n) ∈ news) (hz : vs.length ≤ sizeLine)
    (F : Fr g L s.heap (lk l)) (N : News g L s.heap news) (ht : 0 < s.toks)
    (k : ∀ v nw n' h' tk, 0 < tk → V v nw → Fr g L h' (lk l) → News g L h' (nw ++ setL a (Lo (vs ++ [v]) n') news) → wpAny (MD w) A (execs rest env) Q NE { s with heap := h', toks := tk })
    (hi : interactive env = false)
    (hbase : attributeBase oe (S "append") env (eval oe env) = eval oe env := by rfl)
    (hfew : ((backTo pos (starEach [e] env)).all (fun x => !x.1) && (backToKw pos (keywordEach [] env)).all (fun x => x.1.isSome)
      && decide (([e] : List Expr).length + ([] : List Keyword).length + (if ([] : List Keyword).isEmpty then 0 else 1) < 30)) = true := by rfl)
    (hline : (apos.endLine == pos.line) = true := by rfl) (htrees : backTo pos (starEach [e] env) = [(false, eval e env)] := by rfl)
    (hs : swapsWith (.Call (.Attribute oe (S "append") apos) [e] [] pos) none p.line env = pure false := by rfl) :
    wpAny (MD w) A (execs (.Expr (.Call (.Attribute oe (S "append") apos) [e] [] pos) p :: rest) env) Q NE s := by
  refine wpAny_execs_cons (wpAny_Expr_any (wpAny_Call_append hbase hfew hline htrees (ho s _ ⟨F, N⟩ ht fun v n1 h1 tk1 tp1 st1 i1 new1 hv => ?_)) hi hs)
  cases hv
  refine ⟨a, vs.toArray, rfl, ⟨_, n, (i1.2 _ hm).1, rfl, rfl, rfl⟩, hp _ _ i1 tp1 fun v nw h2 tk2 tp2 st2 i2 new2 hv2 => ?_⟩
  have N2 : News g L h2 (nw ++ news) := news_new i1.1 i1.2 st2 new2
  have hm2 : (a, Lo vs n) ∈ nw ++ news := List.mem_append_right _ hm
  have hla : s.heap = s.heap := rfl
  refine wpAny_list_append_plain (items := vs.toArray) ⟨n, (N2 _ hm2).1⟩ (fun h' hpl hs' => ?_) (by simpa using hz)
  obtain ⟨n', e'⟩ := hpl
  have e'' : h'.get? a = some (Lo (vs ++ [v]) n') := by rw [e']; simp
  obtain ⟨F', N'⟩ := news_upd' i2.1 N2 hm2 hs' e''
  refine k v nw n' h' tk2 tp2 hv2 F' ?_
  have : setL a (Lo (vs ++ [v]) n') (nw ++ news) = nw ++ setL a (Lo (vs ++ [v]) n') news := by
    rw [setL_app, setL_off fun p hp e => ?_]
    have := (new2 p hp).2
    rw [e, (i1.2 _ hm).1] at this; cases this
  rwa [this] at N'
end
end Mine
end
section
open PySem PySem.W PyProof.Rows PySem.Calls
open PySem.Builtin PySem.Builtin.Str
set_option Elab.async false
set_option linter.unusedVariables false
namespace Mine
def textAt (D : List (Int × PySem.Str)) (k : Int) : PySem.Str := (getA D k).getD (S "")
/-- does operator p stand in operator q? -/
def standsIn (D : List (Int × PySem.Str)) (p q : Int) : Bool := Txt.contains (textAt D q) (textAt D p)
def partsOf (D : List (Int × PySem.Str)) (q : Int) : List Int := (D.map (·.1)).filter fun p => standsIn D p q
def wordStep (D : List (Int × PySem.Str)) (ranks : List Int) (st : List Int × Int) (cell : Int) : List Int × Int :=
  let number := if (!st.1.isEmpty && (cell.fmod 2 == 0)) = true then st.1.getLastD 0 else ranks.getD ((cell.fdiv 2).fmod ranks.length).toNat 0
  let choices : Int := 1 + (partsOf D number).length
  if choices ≤ st.2 then (st.1 ++ [number], st.2.fdiv choices) else st
def wordOf (D : List (Int × PySem.Str)) (cells : List Int) : List Int := (cells.foldl (wordStep D (sortI (D.map (·.1)))) ([], 16)).1

theorem lk_ne {l : List (PySem.Str × Value)} {x y : PySem.Str} {v : Value} {r : Option Value} (h : lk l y = r) (hn : y ≠ x := by decide) : lk ((x, v) :: l) y = r := by rw [← lk_cons]; exact (if_neg hn).trans h
theorem lk_eq {l : List (PySem.Str × Value)} {x : PySem.Str} {v : Value} : lk ((x, v) :: l) x = some v := by rw [← lk_cons]; exact if_pos rfl
theorem getA_some {K β : Type} [DecidableEq K] {D : List (K × β)} {k : K} (h : k ∈ D.map (·.1)) : ∃ b, getA D k = some b ∧ (k, b) ∈ D := by
  induction D with
  | nil => cases h
  | cons p r ih =>
    unfold getA
    rw [List.find?_cons]
    by_cases e : p.1 = k
    · simp only [e, decide_true]
      exact ⟨p.2, rfl, by rw [← e]; exact .head _⟩
    · simp only [e, decide_false]
      rcases List.mem_cons.mp h with q | q
      · exact absurd q.symm e
      · obtain ⟨b, hb, hm⟩ := ih q
        exact ⟨b, hb, .tail _ hm⟩
theorem Rel.keys {K β : Type} {R : Value → β → Prop} {kvs : List (K × Value)} {D : List (K × β)} (h : Rel R kvs D) : kvs.map (·.1) = D.map (·.1) := by induction h with | nil => rfl | cons _ _ ih => simp [ih]
/-- the hand of operators, in the heap -/
structure HandIn (w : World) (h : Heap) (d : Addr) (kvs : List (Int × Value)) (D : List (Int × PySem.Str)) : Prop where
  dict : h.DictOf (intKind PR w) d kvs
  rel : Rel RS kvs D
  low : (d == sysModules) = false
theorem HandIn.keep {w : World} {h h' : Heap} {d : Addr} {kvs : List (Int × Value)} {D : List (Int × PySem.Str)} (H : HandIn w h d kvs D) (k : h.StaysIn h') : HandIn w h' d kvs D := ⟨H.dict.keep k, H.rel, H.low⟩
theorem HandIn.at {w : World} {h : Heap} {d : Addr} {kvs : List (Int × Value)} {D : List (Int × PySem.Str)} (H : HandIn w h d kvs D) {k : Int} (hk : k ∈ D.map (·.1)) : ∃ t, valueAt kvs k = some (.str (textAt D k) t) := by
  obtain ⟨b, hb, _⟩ := getA_some hk
  obtain ⟨v, hv, t, rfl⟩ := H.rel.get hb
  exact ⟨t, by unfold textAt; rw [hb]; exact hv⟩
def partTest (D : List (Int × PySem.Str)) (q : Int) (v : Value) : Bool := match v with | .int k _ => standsIn D k q | _ => false
theorem filter_ints {D : List (Int × PySem.Str)} {q : Int} : ∀ {vs : List Value} {ns : List Int}, IntsAre vs ns → IntsAre (vs.filter (partTest D q)) (ns.filter fun p => standsIn D p q)
  | _, _, .nil => .nil
  | _, _, .cons n t r => by
    rw [List.filter_cons, List.filter_cons]
    show IntsAre (if standsIn D n q = true then _ else _) _
    cases standsIn D n q with
    | true => exact .cons _ _ (filter_ints r)
    | false => exact filter_ints r
theorem paired_same : ∀ {vs ys : List Value}, Paired (fun v y => ∃ n : Led, y = v) vs ys → ys = vs
  | _, _, .nil => rfl
  | _, _, .cons ⟨_, h⟩ p => by rw [h, paired_same p]

section
variable {w : World} {A : Around} {env : Env} {g : Heap} {L : Addr} {l : List (PySem.Str × Value)} {news : Led}
theorem c_lenC {I : HP} {n : Nat} {P : Nat → Value → Prop} {p : Value → Bool} {U : Value → Value → Led → Prop} {vs : List Value} {m k : Led} (hn : n ≤ 1000000) (h : LV [IsLC n P p U] vs m) (cnt : Nat)
    (hc : ∀ vs : List Value, vs.length = n → (∀ j v, vs[j]? = some v → P j v) → (vs.filter p).length = cnt) : Tr w A (I.and m) (call (.builtin "len") vs) (fun r nu => IsI cnt r (nu ++ k)) := by
  obtain ⟨b, rfl, m', hm', a, ys, k', us, rfl, hm, hl, hP, hpair⟩ := LV1 h
  have e := hpair.length
  rw [hc us hl hP] at e
  have hle : cnt ≤ n := by rw [← hc us hl hP, ← hl]; exact List.length_filter_le _ _
  rw [e]
  have e2 : ((ys.length : Nat) : Int) = ((ys.toArray.size : Nat) : Int) := by rw [List.size_toArray]
  rw [e2]
  exact .mk fun _ _ hI _ kk => call_len_list (isList_of (hI.2 _ (hm' _ hm))) (by simp; omega) (kk _ [] _ _ (stays_refl _) .nil ⟨_, rfl⟩)
end
end Mine
end
section
open PySem PySem.W PyProof.Rows PySem.Calls
open PySem.Builtin PySem.Builtin.Str
set_option Elab.async false
set_option linter.unusedVariables false
namespace Mine
theorem g_sorted (w : World) : nsIn (KK w) mainGlobals (S "sorted") = some none := by kernel_rfl
theorem b_sorted : bootBuiltins (S "sorted") = some (.builtin "sorted") := by first | exact boot_sorted | kernel_rfl
theorem ints_item {vs : List Value} {ns : List Int} (h : IntsAre vs ns) {i : Nat} {n : Int} (e : ns[i]? = some n) : ∃ t, vs[i]? = some (.int n t) := by
  have hl : i < vs.length := by rw [h.length]; exact (List.getElem?_eq_some_iff.mp e).1
  obtain ⟨m, t, hv, hm⟩ := h.at i vs[i] (by simp [hl])
  rw [e] at hm; cases hm
  exact ⟨t, by rw [← hv]; simp [hl]⟩
theorem ints_unique {vs : List Value} : ∀ {ns ms : List Int}, IntsAre vs ns → IntsAre vs ms → ns = ms := fun h h' => by rw [← h.nums, ← h'.nums]

/-- the part of the state that a turn needs to know -/
structure WordOk (D : List (Int × PySem.Str)) (st : List Int × Int) : Prop where
  keys : ∀ n ∈ st.1, n ∈ D.map (·.1)
  room : 0 ≤ st.2 ∧ st.2 ≤ 16
  len : st.1.length ≤ 100
theorem sortI_mem {l : List Int} {n : Int} : n ∈ sortI l ↔ n ∈ l := (List.mergeSort_perm l _).mem_iff
theorem sortI_len (l : List Int) : (sortI l).length = l.length := (List.mergeSort_perm l _).length_eq

set_option maxRecDepth 100000 in
set_option maxHeartbeats 8000000 in
theorem word_call {w : World} {A : Around} {I : HP} {d c : Addr} {kvs : List (Int × Value)} {D : List (Int × PySem.Str)} {cv : List Value} {ns : List Int} (hB : ∀ h, I.on h → Base w h) (hR : Rm A 1) (hH : ∀ h, I.on h → HandIn w h d kvs D) (hC : ∀ h, I.on h → h.IsList c cv.toArray)
    (hns : IntsAre cv ns) (hn0 : ns.length ≤ 50) (hD0 : 0 < D.length) (hD : D.length ≤ 48) :
    Tr w A I (call (.ref 99) [.ref d, .ref c]) (IsLI (wordOf D ns)) := by
  have hz : sizeLine = 16777216 := sizeLine_eq
  refine' Tr.fnC (binds := [(S "hand", .ref d), (S "cells", .ref c)]) hB (hR.less (by decide)) ?ho ?hcd ?hbind ?hkind ?hnd ?h ?c2 ?c3 ?c4
  case ho => with_unfolding_all rfl
  case hcd => kernel_rfl
  case hbind => rfl
  case hkind =>
    intro L x hx
    rcases List.mem_cons.mp hx with rfl | hx
    · exact .inr ⟨rfl, rfl⟩
    · rw [List.mem_singleton.mp hx]; exact .inl rfl
  case hnd => decide +kernel
  case c2 => rfl
  case c3 => rfl
  case c4 => rfl
  intro s g L cells hI B CA F0 N0 ht0
  obtain ⟨on, oh, rfl, hon, hoh⟩ := CellsAre.two CA
  have F0' : Fr g L s.heap (lk [(S "cells", .ref c)]) := by
    refine Eq.mp (congrArg (Fr g L s.heap) ?_) F0
    exact (bindL_cell (by rfl)).trans ((bindL_loc (by rfl)).trans (lk_cons [] _ _))
  have hoh' : oh.data = .cell (some (.ref d)) := hoh
  have hon' : on.data = .cell none := hon
  clear F0 CA hoh hon
  generalize hEnv : callEnvC _ L 99 = env
  have hE : EnvOk env L := by subst hEnv; exact ⟨rfl, rfl, rfl, rfl⟩
  have kc : env.kindOf (S "cells") = some .local := by subst hEnv; rfl
  have kw : env.kindOf (S "word") = some .local := by subst hEnv; rfl
  have kr : env.kindOf (S "room") = some .local := by subst hEnv; rfl
  have kk : env.kindOf (S "ranks") = some .local := by subst hEnv; rfl
  have kl : env.kindOf (S "cell") = some .local := by subst hEnv; rfl
  have kch : env.kindOf (S "choices") = some .local := by subst hEnv; rfl
  have kh : env.kindOf (S "hand") = some .cell := by subst hEnv; rfl
  have kn : env.kindOf (S "number") = some .cell := by subst hEnv; rfl
  have ch : env.cells.lookup (S "hand") = some (L + 1) := by subst hEnv; rfl
  have cn : env.cells.lookup (S "number") = some (L + 1 + 1) := by subst hEnv; rfl
  have ks : env.kindOf (S "sorted") = some .globalImplicit := by subst hEnv; rfl
  have kln : env.kindOf (S "len") = some .globalImplicit := by subst hEnv; rfl
  have hR' : Rm (A.deeper env) 0 := hR.deeper
  generalize hA' : A.deeper env = A' at hR' ⊢
  have hHg := hH g hI
  have hCg := hC g hI
  have hcl : c < g.objs.size := by obtain ⟨o, ho, _⟩ := hCg; exact Heap.lt_size ho
  have hHF : ∀ {l news}, ∀ h, (FR g L l news).on h → HandIn w h d kvs D := fun h x => hHg.keep x.1.keep
  have hkl : kvs.length = D.length := hHg.rel.len
  have rankl : (sortI (kvs.map (·.1))).length = D.length := by rw [sortI_len, List.length_map, hkl]
  refine st_tuple (names := [S "word", S "room", S "ranks"]) (V := LV [IsLI [], IsI 16, IsLI (sortI (kvs.map (·.1)))]) hR'.hh hE
    (.cons (Pu.list (V := LV []) .nil (fun vs m h => by cases h; simp) fun vs m a h => by cases h; exact ⟨a, [], 0, rfl, .head _, .nil⟩)
      (.cons Pu.int (.cons (Pu.callB (Pu.blt hE (FR.base B) ks (g_sorted w) b_sorted) (.cons (Pu.cell hE.kind kh ch (FR.cell (.tail _ (.head _)) hoh')) .nil) fun vs n h => c_sortedD hR'.hh (by intro h x; exact (hHF h x.1).dict) hHg.low (by omega) h) .nil)))
    (fun vs m h => by obtain ⟨_, _, _, rfl, _⟩ := LV3 h; rfl) (by simp [hz]) (by simp [kw, kr, kk]) F0' N0 ht0 (fun us m h1 tk1 ht1 hv F1 N1 => ?_) rfl (by subst hEnv; rfl)
  obtain ⟨u1, u2, u3, rfl, ⟨m1, hm1, aw, wv0, nw0, rfl, hwm, hwI⟩, hu2, ⟨m3, hm3, ar, rv, nr, rfl, hrm, hrI⟩⟩ := LV3 hv
  obtain ⟨tr, rfl⟩ := hu2.i
  have hw0 : wv0 = [] := hwI.nil_inv
  subst hw0
  have N1' : News g L h1 [(aw, Lo [] nw0), (ar, Lo rv nr), (L + 1 + 1, on), (L + 1, oh)] := fun p hp => N1 p (by
    rcases List.mem_cons.mp hp with rfl | hp
    · exact List.mem_append_left _ (hm1 _ hwm)
    · rcases List.mem_cons.mp hp with rfl | hp
      · exact List.mem_append_left _ (hm3 _ hrm)
      · exact List.mem_append_right _ hp)
  rw [hHg.rel.keys] at hrI rankl
  have hranksK : ∀ n ∈ sortI (D.map (·.1)), n ∈ D.map (·.1) := fun n hn => sortI_mem.mp hn
  have hcL : c ≠ L := Nat.ne_of_lt (Nat.lt_of_lt_of_le hcl F1.above)
  refine st_for (V := IsV (.ref c)) hE kl (Pu.loc hE rfl kc) F1 N1' ht1 fun v nw h2 tk2 ht2 hv st2 F2 N2 _ => ?_
  cases hv
  have N2' : News g L h2 [(aw, Lo [] nw0), (ar, Lo rv nr), (L + 1 + 1, on), (L + 1, oh)] := fun p hp => N2 p (List.mem_append_right _ hp)
  have hne : ∀ p ∈ [(aw, Lo [] nw0), (ar, Lo rv nr), (L + 1 + 1, on), (L + 1, oh)], p.1 ≠ c ∧ p.1 ≠ h2.objs.size := by
    intro p hp
    refine ⟨fun e => ?_, Nat.ne_of_lt (Heap.lt_size (N2' p hp).1)⟩
    obtain ⟨o, ho, _⟩ := hCg
    have := (N2' p hp).2.2
    rw [e, ho] at this; cases this
  have hws : aw ≠ L + 1 + 1 := fun e => by
    have a1 := (N2' _ (.head _)).1
    have a2 := (N2' _ (.tail _ (.tail _ (.head _)))).1
    rw [show (aw, Lo [] nw0).1 = L + 1 + 1 from e] at a1
    rw [show (L + 1 + 1, on).1 = L + 1 + 1 from rfl, a1] at a2
    have : on = Lo [] nw0 := (Option.some.inj a2).symm
    rw [this] at hon'; cases hon'
  have hrs : ar ≠ L + 1 + 1 := fun e => by
    have a1 := (N2' _ (.tail _ (.head _))).1
    have a2 := (N2' _ (.tail _ (.tail _ (.head _)))).1
    rw [show (ar, Lo rv nr).1 = L + 1 + 1 from e] at a1
    rw [show (L + 1 + 1, on).1 = L + 1 + 1 from rfl, a1] at a2
    have : on = Lo rv nr := (Option.some.inj a2).symm
    rw [this] at hon'; cases hon'
  have hoa : L + 1 ≠ aw := fun e => by
    have a1 := (N2' _ (.head _)).1
    have a2 := (N2' _ (.tail _ (.tail _ (.tail _ (.head _))))).1
    rw [show (L + 1, oh).1 = aw from e, a1] at a2
    have : oh = Lo [] nw0 := (Option.some.inj a2).symm
    rw [this] at hoh'; cases hoh'
  have hra : ar ≠ aw := fun e => by
    have a1 := (N2' _ (.head _)).1
    have a2 := (N2' _ (.tail _ (.head _))).1
    rw [show (ar, Lo rv nr).1 = aw from e, a1] at a2
    have : Lo [] nw0 = Lo rv nr := Option.some.inj a2
    have e3 : rv = [] := by
      have : (Lo [] nw0).data = (Lo rv nr).data := by rw [this]
      injection this with h1 _
      have := congrArg Array.toList h1
      simpa using this.symm
    rw [e3] at hrI
    have := hrI.length
    rw [rankl] at this; simp at this; omega
  refine it_list hR'.hh hE kl (hCg.at fun o e => F2.keep _ _ e) hcL F2 N2' ht2
    (fun i l₁ news₁ => ∃ wv nwv on' v0 tr, news₁ = [(aw, Lo wv nwv), (ar, Lo rv nr), (L + 1 + 1, on'), (L + 1, oh)] ∧ on'.data = .cell v0 ∧
      lk l₁ (S "word") = some (.ref aw) ∧ lk l₁ (S "ranks") = some (.ref ar) ∧ lk l₁ (S "room") = some (.int ((ns.take i).foldl (wordStep D (sortI (D.map (·.1)))) ([], 16)).2 tr) ∧
      IntsAre wv ((ns.take i).foldl (wordStep D (sortI (D.map (·.1)))) ([], 16)).1 ∧ (∀ n ∈ ((ns.take i).foldl (wordStep D (sortI (D.map (·.1)))) ([], 16)).1, n ∈ D.map (·.1)) ∧
      0 ≤ ((ns.take i).foldl (wordStep D (sortI (D.map (·.1)))) ([], 16)).2 ∧ ((ns.take i).foldl (wordStep D (sortI (D.map (·.1)))) ([], 16)).1.length ≤ i)
    ⟨[], nw0, on, none, tr, rfl, hon', rfl, rfl, rfl, .nil, by simp, by simp, by simp⟩ ?_ ?_
  · rintro i v l₁ news₁ own s₁ hi ⟨wv, nwv, on', v0, tr', rfl, hon2, hlw, hlr, hlo, hwI, hwK, hr0, hwl⟩ hown hnw F₁ N₁ ht₁ ⟨hh₁, tkk, rfl⟩
    obtain ⟨cell, tc, rfl, hcell⟩ := hns.at i v hi
    have hfold : (ns.take (i + 1)).foldl (wordStep D (sortI (D.map (·.1)))) ([], 16) = wordStep D (sortI (D.map (·.1))) ((ns.take i).foldl (wordStep D (sortI (D.map (·.1)))) ([], 16)) cell := by
      rw [List.take_add_one, hcell, List.foldl_append]; rfl
    have hi50 : i < 50 := Nat.lt_of_lt_of_le (List.getElem?_eq_some_iff.mp hcell).1 hn0
    generalize (ns.take i).foldl (wordStep D (sortI (D.map (·.1)))) ([], 16) = st at *
    have hwL := hwI.length
    generalize hnum : (if (!st.1.isEmpty && (cell.fmod 2 == 0)) = true then st.1.getLastD 0 else (sortI (D.map (·.1))).getD ((cell.fdiv 2).fmod (sortI (D.map (·.1))).length).toNat 0) = number
    have hrl0 : ((sortI (D.map (·.1))).length : Int) ≠ 0 := by rw [rankl]; omega
    have hidx0 : 0 ≤ (cell.fdiv 2).fmod (sortI (D.map (·.1))).length := Int.fmod_nonneg_of_pos _ (by rw [rankl]; omega)
    have hidx1 : (cell.fdiv 2).fmod (sortI (D.map (·.1))).length < (sortI (D.map (·.1))).length := Int.fmod_lt_of_pos _ (by rw [rankl]; omega)
    have hmr : (ar, Lo rv nr) ∈ own ++ [(aw, Lo wv nwv), (ar, Lo rv nr), (L + 1 + 1, on'), (L + 1, oh)] := List.mem_append_right _ (.tail _ (.head _))
    have hmw : (aw, Lo wv nwv) ∈ own ++ [(aw, Lo wv nwv), (ar, Lo rv nr), (L + 1 + 1, on'), (L + 1, oh)] := List.mem_append_right _ (.head _)
    have hmn : (L + 1 + 1, on') ∈ own ++ [(aw, Lo wv nwv), (ar, Lo rv nr), (L + 1 + 1, on'), (L + 1, oh)] := List.mem_append_right _ (.tail _ (.tail _ (.head _)))
    have hrvl : rv.length = (sortI (D.map (·.1))).length := hrI.length
    have hcl2 : ∀ {news p}, Pu w A' env (FR g L ((S "cell", Value.int cell tc) :: l₁) news) (.Name (S "cell") p) (IsI cell) := (Pu.loc hE lk_eq kl).asI
    have knum : number ∈ D.map (·.1) := by
      rw [← hnum]; split
      · rename_i hc
        simp only [Bool.and_eq_true, Bool.not_eq_true', List.isEmpty_eq_false_iff] at hc
        have := getLastD_get st.1 0 hc.1
        exact hwK _ (List.mem_of_getElem? this)
      · refine hranksK _ ?_
        rw [List.getD_eq_getElem?_getD]
        have hlt : ((cell.fdiv 2).fmod (sortI (D.map (·.1))).length).toNat < (sortI (D.map (·.1))).length := by omega
        rw [List.getElem?_eq_getElem hlt]
        exact List.getElem_mem _
    have hwe : wv.isEmpty = st.1.isEmpty := by
      cases wv <;> cases hs : st.1 <;> simp_all
    refine st_assignC (V := IsI number) hE kn cn hmn hon2 (Pu.ifexp (c := !wv.isEmpty && (cell.fmod 2 == 0))
      (Te.and2 (Te.val (Pu.loc hE (lk_ne hlw) kw) (fun a n1 ha => tt_list ha (by intro h x; exact isList_of (x.1.2 _ hmw).1) (by omega))) fun _ => Te.cmp (Pu.binop hcl2 Pu.int fun _ _ _ _ ha hb => op_mod ha hb (by decide)) Pu.int fun _ _ _ _ ha hb => op_eqI ha hb)
      (fun hc => ?_) (fun hc => ?_)) F₁ N₁ ht₁ fun v nw o' h3 tk3 ht3 hv ho' F3 N3 => ?_
    · have hc' : (!st.1.isEmpty && (cell.fmod 2 == 0)) = true := by rw [← hwe]; exact hc
      rw [if_pos hc'] at hnum
      simp only [Bool.and_eq_true, Bool.not_eq_true', List.isEmpty_eq_false_iff] at hc'
      have hg := getLastD_get st.1 0 hc'.1
      rw [hnum] at hg
      obtain ⟨t, ht⟩ := ints_item hwI hg
      have hpos : 0 < st.1.length := List.length_pos_iff.mpr hc'.1
      exact (Pu.itemNeg (v := .int number t) (Pu.loc hE (lk_ne hlw) kw) (FR.list hmw) (Pu.neg (Pu.int (i := 1))) (by decide) (by omega) (by rw [← ht]; congr 1; omega)).asI
    · have hc' : (!st.1.isEmpty && (cell.fmod 2 == 0)) = false := by rw [← hwe]; exact hc
      rw [if_neg (by rw [hc']; decide)] at hnum
      have hlt : ((cell.fdiv 2).fmod (sortI (D.map (·.1))).length).toNat < (sortI (D.map (·.1))).length := by omega
      have hg : (sortI (D.map (·.1)))[((cell.fdiv 2).fmod (sortI (D.map (·.1))).length).toNat]? = some number := by
        rw [List.getD_eq_getElem?_getD] at hnum
        rw [List.getElem?_eq_getElem hlt] at hnum ⊢
        exact congrArg some hnum
      obtain ⟨t, ht⟩ := ints_item hrI hg
      exact (Pu.item (v := .int number t) (i := (cell.fdiv 2).fmod (sortI (D.map (·.1))).length) (Pu.loc hE (lk_ne hlr) kk) (FR.list hmr)
        (Pu.binop (Pu.binop hcl2 Pu.int fun _ _ _ _ ha hb => op_fdiv ha hb (by decide) (PyProof.noPylong_small (by decide))) (Pu.callB (U := IsI (sortI (D.map (·.1))).length) (Pu.blt hE (FR.base B) kln (g_len w) b_len) (.cons (Pu.loc hE (lk_ne hlr) kk) .nil) fun _ _ h => by rw [← hrvl]; exact c_lenL (FR.list hmr) (by omega) h) fun _ _ _ _ ha hb => op_mod ha hb hrl0)
        hidx0 ht (by omega)).asI
    · obtain ⟨tn, rfl⟩ := hv
      have hset : setL (L + 1 + 1) o' (own ++ [(aw, Lo wv nwv), (ar, Lo rv nr), (L + 1 + 1, on'), (L + 1, oh)]) = own ++ [(aw, Lo wv nwv), (ar, Lo rv nr), (L + 1 + 1, o'), (L + 1, oh)] := by
        rw [setL_app, setL_off fun q hq => ?_]
        · congr 1
          simp [setL, hws, hrs]
        · rcases hown q hq with e | e
          · rw [e]; exact Ne.symm (hne _ (.tail _ (.tail _ (.head _)))).1
          · rw [e]; exact Ne.symm (hne _ (.tail _ (.tail _ (.head _)))).2
      rw [hset] at N3
      clear hset hmr hmw hmn N₁ F₁
      generalize hnu : own ++ [(aw, Lo wv nwv), (ar, Lo rv nr), (L + 1 + 1, o'), (L + 1, oh)] = nu at *
      have mw : (aw, Lo wv nwv) ∈ nu := by rw [← hnu]; exact List.mem_append_right _ (.head _)
      have mn : (L + 1 + 1, o') ∈ nu := by rw [← hnu]; exact List.mem_append_right _ (.tail _ (.tail _ (.head _)))
      have mh : (L + 1, oh) ∈ nu := by rw [← hnu]; exact List.mem_append_right _ (.tail _ (.tail _ (.tail _ (.head _))))
      obtain ⟨tnum, hvn⟩ := hHg.at knum
      refine st_assign (V := IsI (1 + (partsOf D number).length)) hE kch (Pu.binop Pu.int (Pu.callB (V := LV [IsLC kvs.length (fun i v => ∃ k x, kvs[i]? = some (k, x) ∧ (intKind PR w).is k v = true) (partTest D number) (fun v y _ => y = v)]) (U := IsI (partsOf D number).length) (Pu.blt hE (FR.base B) kln (g_len w) b_len) (.cons (Pu.comp (V := IsV (.ref d)) (cl := [(S "number", L + 1 + 1), (S "hand", L + 1)]) (partTest D number) (fun v y _ => y = v) (by subst hEnv; rfl)
          (Pu.cell hE.kind kh ch (FR.cell (List.mem_append_right _ mh) hoh')) (fun v nw hv => by cases hv; exact Src.keys hR'.hh (fun h x => (hHF h x.1).dict) hHg.low) (by rw [hz]; omega)
          (fun nn C i v hP hnn => ?_) (fun nn C i v hP _ hnn => ?_)) .nil) fun vs n h => ?_) fun _ _ _ _ ha hb => op_add ha hb) F3 N3 ht3 fun v nw h4 tk4 ht4 hv4 F4 N4 => ?_
      · obtain ⟨k, x, hkx, hkv⟩ := hP
        obtain ⟨tk', rfl⟩ := Value.isInt_shape hkv
        have hkD : k ∈ D.map (·.1) := by rw [← hHg.rel.keys]; exact List.mem_map.mpr ⟨_, List.mem_of_getElem? hkx, rfl⟩
        obtain ⟨t1, hv1⟩ := hHg.at hkD
        have hHC : ∀ h, (CF g L ((S "cell", Value.int cell tc) :: l₁) nn C (S "part") (.int k tk')).on h → h.DictOf (intKind PR w) d kvs := fun h y => (hHg.keep y.2.1.keep).dict
        refine Te.cmp (P := IsS (textAt D k)) (R := IsS (textAt D number)) (Pu.key (Pu.cell rfl (by subst hEnv; rfl) (by rfl) (CF.cell (hnn _ (List.mem_append_right _ mh)) hoh')) hHC (CF.loc (comp_env hE rfl) (by subst hEnv; rfl)) (fun u n hu => by cases hu; exact intKind_is PR w _ _) hv1).asS
          (Pu.key (Pu.cell rfl (by subst hEnv; rfl) (by rfl) (CF.cell (hnn _ (List.mem_append_right _ mh)) hoh')) hHC (Pu.cell rfl (by subst hEnv; rfl) (by rfl) (CF.cell (hnn _ (List.mem_append_right _ mn)) ho')) (fun u n hu => by cases hu; exact intKind_is PR w _ _) hvn).asS
          fun _ _ _ _ ha hb => op_in ha hb
      · exact CF.loc (comp_env hE rfl) (by subst hEnv; rfl)
      · refine c_lenC (by omega) h _ fun vs hl hP => ?_
        have := ints_keys hl hP
        rw [hHg.rel.keys] at this
        exact (filter_ints this).length
      · obtain ⟨tch, rfl⟩ := hv4
        have hpl : (partsOf D number).length ≤ 48 := by
          have := List.length_filter_le (fun p => standsIn D p number) (D.map (·.1))
          rw [List.length_map] at this
          exact Nat.le_trans this hD
        have hws' : wordStep D (sortI (D.map (·.1))) st cell = if (1 + (partsOf D number).length : Int) ≤ st.2 then (st.1 ++ [number], st.2.fdiv (1 + (partsOf D number).length)) else st := by
          unfold wordStep; rw [hnum]
        rw [hws'] at hfold
        have N4' : News g L h4 nu := fun p hp => N4 p (List.mem_append_right _ (List.mem_append_right _ hp))
        clear N4
        refine st_if (c := decide ((1 + (partsOf D number).length : Int) ≤ st.2)) (Te.cmp (Pu.loc hE lk_eq kch).asI (Pu.loc hE (lk_ne (lk_ne hlo)) kr).asI fun _ _ _ _ ha hb => op_leI ha hb) F4 N4' ht4 fun h5 tk5 ht5 F5 N5 => ?_
        by_cases hle : (1 + (partsOf D number).length : Int) ≤ st.2
        · rw [decide_eq_true hle]
          rw [if_pos hle] at hfold
          refine st_append (V := IsV (.int number tn)) (Pu.loc hE (lk_ne (lk_ne hlw)) kw) (Pu.cell hE.kind kn cn (FR.cell mn ho')) mw (by omega) F5 N5 ht5 (fun v nw n' h6 tk6 ht6 hv6 F6 N6 => ?_) (by subst hEnv; rfl)
          cases hv6
          have hset : setL aw (Lo (wv ++ [.int number tn]) n') nu = own ++ [(aw, Lo (wv ++ [.int number tn]) n'), (ar, Lo rv nr), (L + 1 + 1, o'), (L + 1, oh)] := by
            rw [← hnu, setL_app, setL_off fun q hq => ?_]
            · congr 1
              simp [setL, hra, Ne.symm hws, hoa]
            · rcases hown q hq with e | e
              · rw [e]; exact Ne.symm (hne _ (.head _)).1
              · rw [e]; exact Ne.symm (hne _ (.head _)).2
          rw [hset] at N6
          refine st_assign hE kr (Pu.binop (Pu.loc hE (lk_ne (lk_ne hlo)) kr).asI (Pu.loc hE lk_eq kch).asI fun _ _ _ _ ha hb => op_fdiv ha hb (by omega) (PyProof.noPylong_small (by omega))) F6 N6 ht6 fun v nw h7 tk7 ht7 hv7 F7 N7 => ?_
          obtain ⟨t7, rfl⟩ := hv7
          refine st_nil (st_nil (LE.next (news₂ := [(aw, Lo (wv ++ [.int number tn]) n'), (ar, Lo rv nr), (L + 1 + 1, o'), (L + 1, oh)]) ht7 F7 (fun p hp => N7 p (List.mem_append_right _ (List.mem_append_right _ hp))) (fun p hp => .inl ?_)
            ⟨wv ++ [.int number tn], n', o', some (.int number tn), t7, rfl, ho', lk_ne (lk_ne (lk_ne hlw)), lk_ne (lk_ne (lk_ne hlr)), ?_, ?_, ?_, ?_, ?_⟩))
          · simp only [List.mem_cons, List.not_mem_nil, or_false] at hp
            rcases hp with rfl | rfl | rfl | rfl <;> simp
          · rw [hfold]; exact lk_eq
          · rw [hfold]; exact hwI.append (.cons _ _ .nil)
          · rw [hfold]; intro n hn
            rcases List.mem_append.mp hn with h | h
            · exact hwK n h
            · rw [List.mem_singleton.mp h]; exact knum
          · rw [hfold]; exact Int.fdiv_nonneg hr0 (by omega)
          · rw [hfold]; simp only [List.length_append, List.length_cons, List.length_nil]; omega
        · rw [decide_eq_false hle]
          rw [if_neg hle] at hfold
          refine st_nil (st_nil (LE.next (news₂ := [(aw, Lo wv nwv), (ar, Lo rv nr), (L + 1 + 1, o'), (L + 1, oh)]) ht5 F5 (fun p hp => N5 p ?_) (fun p hp => .inl ?_) ⟨wv, nwv, o', some (.int number tn), tr', rfl, ho', lk_ne (lk_ne hlw), lk_ne (lk_ne hlr), ?_, ?_, ?_, ?_, ?_⟩))
          · rw [hnu] at hp; exact hp
          · simp only [List.mem_cons, List.not_mem_nil, or_false] at hp
            rcases hp with rfl | rfl | rfl | rfl <;> simp
          · rw [hfold]; exact lk_ne (lk_ne hlo)
          · rw [hfold]; exact hwI
          · rw [hfold]; exact hwK
          · rw [hfold]; exact hr0
          · rw [hfold]; omega
  · rintro h' tk l' news' tp F' N' ⟨wv, nwv, on', v0, tr', rfl, hon2, hlw, hlr, hlo, hwI, hwK, hr0, hwl⟩
    refine st_ret (Pu.loc hE hlw kw) F' N' tp fun v nw h'' tk' tp' hv F'' N'' => ?_
    cases hv
    refine Ret.intro (nw := [(aw, Lo wv nwv)]) F'' N'' (fun p hp => List.mem_append_right _ (by rw [List.mem_singleton.mp hp]; exact .head _)) ⟨aw, wv, nwv, rfl, .head _, ?_⟩
    rw [hns.length, List.take_length] at hwI
    exact hwI
end Mine
end
section
open PySem PySem.W PyProof.Rows PySem.Calls
open PySem.Builtin PySem.Builtin.Str
set_option Elab.async false
set_option linter.unusedVariables false
namespace Mine
abbrev lamPos : Pos := ⟨197, 34, 197, 63⟩
abbrev lamQual : PySem.Str := S "_law_weights" ++ S ".<locals>." ++ S "<lambda>"
abbrev tabHit (c' : Addr) : Array Value := #[rawInt 197, rawInt 34, .ref c']
/-- the code table of `_law_weights`: empty, or with its lambda's code -/
def TabP (h : Heap) (ps : Array Value) : Prop := ps = #[] ∨ ∃ c', ps = tabHit c' ∧ h.CodeRec (.ref c') lamQual
def TabOk (h : Heap) : Prop := ∃ ps, h.get? 101 = some (tabObj ps) ∧ TabP h ps
theorem TabP.keeps {h h' : Heap} {ps : Array Value} (x : TabP h ps) (k : h.StaysIn h') : TabP h' ps := x.imp_right fun ⟨c', e, r⟩ => ⟨c', e, r.keeps k⟩
/-- a heap with the table hidden -/
abbrev gh (h : Heap) : Heap := h.hide 101
theorem gh_none (h : Heap) : (gh h).get? 101 = none := Heap.hide_self h 101
theorem gh_ne {h : Heap} {b : Addr} (hb : b ≠ 101) : (gh h).get? b = h.get? b := Heap.hide_ne h hb
theorem gh_of {h : Heap} {b : Addr} {o : Obj} (e : (gh h).get? b = some o) : h.get? b = some o := Heap.of_hide e
theorem gh_size (h : Heap) : (gh h).objs.size = h.objs.size := Heap.hide_size h 101
theorem gh_stays {g h : Heap} (k : g.StaysIn h) (hn : g.get? 101 = none) : g.StaysIn (gh h) := fun b o e => by
  rw [gh_ne (fun q => by rw [q, hn] at e; cases e)]; exact k b o e
theorem tab_code {h : Heap} {ps : Array Value} (e : h.get? 101 = some (tabObj ps)) (x : TabP h ps) : TabP (gh h) ps := by
  rcases x with x | ⟨c', rfl, c, o, vs, t, e1, e2, e3, e4⟩
  · exact .inl x
  · refine .inr ⟨c', rfl, c, o, vs, t, e1, ?_, e3, e4⟩
    rw [gh_ne fun q => ?_]; exact e2
    rw [q, e] at e2
    have := Option.some.inj e2
    rw [← this] at e3
    injection e3 with e3
    rw [← e3] at e4
    cases e4
/-- what a function that makes the lambda leans on -/
structure GBase (w : World) (g : Heap) : Prop where
  base : Base w g
  code : CodeHd g 103 101
  none : g.get? 101 = none
theorem GBase.gh {w : World} {g h : Heap} (B : GBase w g) (k : g.StaysIn h) : GBase w (gh h) := ⟨B.base.stays (gh_stays k B.none), B.code.keeps (gh_stays k B.none), gh_none h⟩

def TrG (w : World) (A : Around) (g0 : Heap) (Pre : Heap → Prop) (t : Sem Value) (V : Value → Led → Prop) : Prop :=
  ∀ (s : Shared) (Q : Value → Shared → Prop), g0.StaysIn s.heap → Pre (gh s.heap) → TabOk s.heap → 0 < s.toks →
    (∀ v nw h' tk, 0 < tk → (∀ b o, b ≠ 101 → s.heap.get? b = some o → h'.get? b = some o) → TabOk h' → New s.heap h' nw → V v nw → Q v { s with heap := h', toks := tk }) → wpAny (MD w) A t Q NE s
def RetG (g : Heap) (U : Value → Led → Prop) (s : Shared) (fl : Flow) (s' : Shared) : Prop :=
  ∃ v nw h' tk, fl = .ret v ∧ s' = { s with heap := h', toks := tk } ∧ g.StaysIn h' ∧ TabOk h' ∧ (∀ p ∈ nw, p.1 ≠ 101) ∧ New g h' nw ∧ U v nw
theorem RetG.intro {g h' : Heap} {L : Addr} {m : PySem.Str → Option Value} {nw news : Led} {U : Value → Led → Prop} {s : Shared} {tk : Nat} {v : Value} {ps : Array Value} (F : Fr g L h' m) (N : News g L h' ((101, tabObj ps) :: news)) (hT : TabP h' ps) (hs : ∀ p ∈ nw, p ∈ news ∧ p.1 ≠ 101) (hu : U v nw) :
    RetG g U s (.ret v) { s with heap := h', toks := tk } :=
  ⟨v, nw, h', tk, rfl, rfl, F.keep, ⟨ps, (N _ (.head _)).1, hT⟩, fun p hp => (hs p hp).2, fun p hp => ⟨(N p (.tail _ (hs p hp).1)).1, (N p (.tail _ (hs p hp).1)).2.2⟩, hu⟩

section
variable {w : World} {A : Around} {env : Env} {g : Heap} {L : Addr} {l : List (PySem.Str × Value)} {news : Led} {s : Shared} {Q : Flow → Shared → Prop} {rest : List Stmt}

theorem TrG.fn {g0 : Heap} {Pre : Heap → Prop} {f : Addr} {vals : List Value} {U : Value → Led → Prop} {name qual : PySem.Str} {params : Arguments} {body : List Stmt} {scope : Scope} {dV kV doc pm cdv ct oc : Value} {an od : Option Addr} {osl : Array (Option Value)} {binds : List (PySem.Str × Value)}
    (hG : GBase w g0) (hR : Rm A 1)
    (ho : (KK w).lookup f = some ⟨oc, od, .func (fnOf name qual params body scope dV kV doc pm an cdv ct), osl⟩) (hcd : codeIn (KK w) cdv qual = true)
    (hbind : bindArgs (fnOf name qual params body scope dV kV doc pm an cdv ct) ⟨vals, []⟩ = pure binds)
    (hkind : ∀ L : Addr, ∀ x ∈ binds, scope.names.lookup x.1 = some .local ∨ (scope.names.lookup x.1 = some .cell ∧ ((cellsFrom (L + 1) scope.names []).lookup x.1).isSome = true))
    (hnd : ((cellsFrom 0 scope.names []).map (·.1)).Nodup)
    (h : ∀ (s : Shared) (g : Heap) (L : Addr) (cells : Led) (ps : Array Value), Pre g → GBase w g → TabP g ps → CellsAre (bindC (fun x => scope.names.lookup x) binds fun _ => none) (cellsFrom (L + 1) scope.names []) cells →
      Fr g L s.heap (bindL (fun x => scope.names.lookup x) binds fun _ => none) → News g L s.heap ((101, tabObj ps) :: cells) → (∀ p ∈ cells, p.1 ≠ 101) → 0 < s.toks →
      wpAny (MD w) (A.deeper (callEnvC (fnOf name qual params body scope dV kV doc pm an cdv ct) L f)) (execs body (callEnvC (fnOf name qual params body scope dV kV doc pm an cdv ct) L f)) (RetG g U s) NE s)
    (hco : scope.isCoroutine = false := by rfl) (hgen : scope.isGenerator = false := by rfl) (hk : scope.kind = .function := by rfl) :
    TrG w A g0 Pre (call (.ref f) vals) U := by
  intro s Q hst hpre hT ht k
  refine wpAny_with_toks (n := 1) ht (wpAny_call ?_)
  have B := hG.base.stays hst
  obtain ⟨mean, mg, mb, T⟩ := B.T
  have hr : A.depth < recursionLimit := by have := hR.hd; omega
  refine codeAny_call_function hr (B.K _ _ ho) rfl hco hgen rfl (codeRec_of B.K hcd) ?_
  rw [hbind]
  refine wpAny_pure (wpAny_with_toks (n := 1) ht (wpAny_newFunctionEnv_cells hk (hkind _) fun env he s' X htk => ?_))
  subst he
  refine ⟨T.nolimit.keeps X.toInCall.keep, codeAny_func ?_⟩
  obtain ⟨h₁, tk₁, rfl⟩ := X.toInCall.same
  have hkeep : s.heap.StaysIn h₁ := X.toInCall.keep
  have F : Fr (gh s.heap) s.heap.objs.size h₁ (bindL (fun x => scope.names.lookup x) binds fun _ => none) := ⟨X.toInCall.ns, fun b o e => hkeep b o (gh_of e), Nat.le_of_eq (gh_size _)⟩
  have hnd' : ((cellsFrom (s.heap.objs.size + 1) scope.names []).map (·.1)).Nodup := by rw [cellsFrom_names _ _ 0 [] [] rfl]; exact hnd
  have key : ∀ n c, (n, c) ∈ cellsFrom (s.heap.objs.size + 1) scope.names [] → h₁.IsCell c (bindC (fun x => scope.names.lookup x) binds (fun _ => none) n) ∧ s.heap.objs.size < c := fun n c hm =>
    ⟨X.cell n c (lookup_of_mem_nodup hnd' hm), X.above n c hm⟩
  obtain ⟨cells, N, CA⟩ := Cl.news (h₀ := gh s.heap) (Nat.le_of_eq (gh_size _)) key
  obtain ⟨ps, hps, hTP⟩ := hT
  have h101 := Heap.lt_size hps
  have hc101 : ∀ p ∈ cells, p.1 ≠ 101 := by
    have key2 : ∀ {cs : List (PySem.Str × Addr)} {cells : Led}, CellsAre (bindC (fun x => scope.names.lookup x) binds fun _ => Option.none) cs cells → (∀ n c, (n, c) ∈ cs → s.heap.objs.size < c) → ∀ p ∈ cells, p.1 ≠ 101 := by
      intro cs cells X
      induction X with
      | nil => intro _ p hp; cases hp
      | @cons n c o cs cells hd _ ih =>
        intro hlt p hp e
        rcases List.mem_cons.mp hp with rfl | hp
        · have := hlt n c (.head _)
          rw [show c = 101 from e] at this
          exact absurd h101 (Nat.not_lt.mpr (Nat.le_of_lt this))
        · exact ih (fun n c hm => hlt n c (.tail _ hm)) p hp e
    exact key2 CA fun n c hm => (key n c hm).2
  have N' : News (gh s.heap) s.heap.objs.size h₁ ((101, tabObj ps) :: cells) := fun p hp => by
    rcases List.mem_cons.mp hp with rfl | hp
    · exact ⟨hkeep _ _ hps, Nat.ne_of_lt h101, gh_none _⟩
    · exact N p hp
  refine wpAny_mono (h _ (gh s.heap) s.heap.objs.size cells ps hpre (hG.gh hst) (tab_code hps hTP) CA F N' hc101 (by have := htk; exact this)) (fun fl s' x => ?_) fun _ _ x => x.elim
  obtain ⟨v, nw, h', tk, rfl, rfl, st, hT', hne, n, hu⟩ := x
  refine fun hl => k v nw h' tk hl (fun b o hb e => st b o (by rw [gh_ne hb]; exact e)) hT' (fun p hp => ⟨(n p hp).1, ?_⟩) hu
  rw [← gh_ne (hne p hp)]; exact (n p hp).2

/-- x = f(..), f a function that may change the table -/
theorem st_assignG {x y : PySem.Str} {f : Addr} {e : Expr} {es : List Expr} {p1 p2 p3 pos : Pos} {V : List Value → Led → Prop} {Pre : List Value → Led → Heap → Prop} {U : Value → Led → Prop} {ps : Array Value} (hE : EnvOk env L) (hx : env.kindOf x = some .local) (hG : GBase w g)
    (hk : keepIn (KK w) (.ref f) = true) (hn : Pu w A env (FR g L l ((101, tabObj ps) :: news)) (.Name y p3) (IsV (.ref f))) (ha : PuL w A env (FR g L l ((101, tabObj ps) :: news)) (e :: es) V)
    (hf : ∀ vs n, V vs n → TrG w A g (Pre vs n) (call (.ref f) vs) U) (hPre : ∀ vs n h, V vs n → Fr g L h (lk l) → News g L h ((101, tabObj ps) :: (n ++ news)) → (∀ p ∈ n ++ news, p.1 ≠ 101) → Pre vs n (gh h))
    (hne : ∀ p ∈ news, p.1 ≠ 101) (F : Fr g L s.heap (lk l)) (N : News g L s.heap ((101, tabObj ps) :: news)) (hT : TabP s.heap ps) (ht : 0 < s.toks)
    (k : ∀ v nw vs n ps' h' tk, 0 < tk → V vs n → U v nw → TabP h' ps' → (∀ p ∈ nw ++ (n ++ news), p.1 ≠ 101) → (∀ p ∈ nw, ∀ q ∈ n ++ news, q.1 ≠ p.1) → Fr g L h' (lk ((x, v) :: l)) → News g L h' ((101, tabObj ps') :: (nw ++ (n ++ news))) → wpAny (MD w) A (execs rest env) Q NE { s with heap := h', toks := tk })
    (hs : backTo pos (starEach (e :: es) env) = (e :: es).map fun e => (false, eval e env) := by rfl)
    (hsw : swapsWith (.Call (.Name y p3) (e :: es) [] pos) (some (.Name x p1)) p2.line env = pure false := by rfl) : wpAny (MD w) A (execs (.Assign [.Name x p1] (.Call (.Name y p3) (e :: es) [] pos) p2 :: rest) env) Q NE s := by
  refine wpAny_execs_cons (wpAny_Assign_Name ?_ hsw)
  refine wpAny_Call_NameR (hn s _ ⟨F, N⟩ ht fun v n1 h1 tk1 tp1 st1 i1 new1 hv => ?_)
  cases hv
  rw [hs]
  refine callWith_of (P := fun h => (KK w).In h) (by simp) (keeps_K hk) (Calls.evalArgs_plain ?_)
  refine ha _ _ i1 tp1 fun vs n2 h2 tk2 tp2 st2 i2 new2 hvs => ⟨(FR.base hG.base _ i2).K, ?_⟩
  have hm101 : (101, tabObj ps) ∈ (101, tabObj ps) :: news := .head _
  have hn2 : ∀ p ∈ n2 ++ news, p.1 ≠ 101 := fun p hp e => by
    rcases List.mem_append.mp hp with q | q
    · have := (new2 p q).2
      rw [e, (i1.2 _ hm101).1] at this; cases this
    · exact hne p q e
  have N2 : News g L h2 ((101, tabObj ps) :: (n2 ++ news)) := by
    have := news_new i1.1 i1.2 st2 new2
    intro p hp
    rcases List.mem_cons.mp hp with rfl | hp
    · exact this _ (List.mem_append_right _ (.head _))
    · rcases List.mem_append.mp hp with q | q
      · exact this _ (List.mem_append_left _ q)
      · exact this _ (List.mem_append_right _ (.tail _ q))
  refine hf vs n2 hvs _ _ i2.1.keep (hPre vs n2 h2 hvs i2.1 N2 hn2) ⟨ps, (N2 _ (.head _)).1, hT.keeps (stays_trans st1 st2)⟩ tp2 fun v nw h' tk tp hkp ⟨ps', hps', hTP'⟩ hnew hu => ?_
  have hgk : ∀ b o, g.get? b = some o → h'.get? b = some o := fun b o q => hkp b o (fun z => by rw [z, hG.none] at q; cases q) (i2.1.keep b o q)
  have hL101 : L ≠ 101 := fun z => (N2 _ (.head _)).2.1 (z ▸ rfl)
  have F' : Fr g L h' (lk l) := ⟨i2.1.ns.at' fun o q => hkp _ o hL101 q, hgk, i2.1.above⟩
  have hnw : ∀ p ∈ nw ++ (n2 ++ news), p.1 ≠ 101 := fun p hp e => by
    rcases List.mem_append.mp hp with q | q
    · have := (hnew p q).2
      rw [e, (N2 _ (.head _)).1] at this; cases this
    · exact hn2 p q e
  have N' : News g L h' ((101, tabObj ps') :: (nw ++ (n2 ++ news))) := by
    intro p hp
    rcases List.mem_cons.mp hp with rfl | hp
    · exact ⟨hps', (N2 _ (.head _)).2⟩
    · rcases List.mem_append.mp hp with q | q
      · refine ⟨(hnew p q).1, fun z => ?_, get_none_back i2.1.keep (hnew p q).2⟩
        obtain ⟨oL, _, _, hL, _⟩ := i2.1.ns
        have := (hnew p q).2
        rw [z, hL] at this; cases this
      · exact ⟨hkp _ _ (hn2 p q) (N2 _ (.tail _ q)).1, (N2 _ (.tail _ q)).2⟩
  refine wpAny_storeName_local hx (hE.loc ▸ F'.ns) (fun h3 hn3 hs3 => ?_) (by rw [hE.kind]; rfl)
  rw [hE.loc] at hn3 hs3
  rw [lk_cons] at hn3
  refine k v nw vs n2 ps' h3 _ (Nat.succ_pos _) hvs hu ?_ hnw (fun p hp q hq z => ?_) (F'.set hn3 hs3) (News.set N' hs3)
  rotate_left
  · have e1 := (hnew p hp).2
    rw [← z, (N2 _ (.tail _ hq)).1] at e1; cases e1
  rcases hTP' with e | ⟨c', e, c, o, vs', t, e1, e2, e3, e4⟩
  · exact .inl e
  · refine .inr ⟨c', e, c, o, vs', t, e1, ?_, e3, e4⟩
    rw [hs3.2 c fun z => ?_]; exact e2
    obtain ⟨oL, _, _, hL, hd, _⟩ := F'.ns
    rw [z, hL] at e2
    have := Option.some.inj e2
    rw [← this, hd] at e3; cases e3
end
end Mine
end
section
open PySem PySem.W PyProof.Rows PySem.Calls
open PySem.Builtin PySem.Builtin.Str
set_option Elab.async false
set_option linter.unusedVariables false
namespace Mine
abbrev lamParams : Arguments := { posonlyargs := [], args := [{ arg := S "part", annotation := none, pos := ⟨197, 41, 197, 45⟩ }], vararg := none, kwonlyargs := [], kw_defaults := [], kwarg := none, defaults := [] }
abbrev lamBody : Expr := .UnaryOp .USub (.Call (.Name (S "len") ⟨197, 48, 197, 51⟩) [.Subscript (.Name (S "hand") ⟨197, 52, 197, 56⟩) (.Name (S "part") ⟨197, 57, 197, 61⟩) ⟨197, 52, 197, 62⟩] [] ⟨197, 48, 197, 63⟩) ⟨197, 47, 197, 63⟩
abbrev lamScope : Scope := { kind := .function, names := [(S "part", .local), (S "hand", .free), (S "len", .globalImplicit)], isGenerator := false, isCoroutine := false, more := [] }

theorem lam_turn {w : World} {A : Around} {g : Heap} {L c f c' d : Addr} {m : PySem.Str → Option Value} {need : Led} {pm ctv : Value} {oh : Obj} {kvs : List (Int × Value)} {D : List (Int × PySem.Str)} {n : Int} {t : Tok} {s : Shared}
    (hR : Rm A 0) (B : Base w g) (H : HandIn w g d kvs D) (F : Fr g L s.heap m) (N : News g L s.heap need)
    (ho : (f, kla_obj (S "<lambda>") lamQual lamParams lamBody lamScope [(S "hand", c)] pm c' ctv) ∈ need) (hrec : s.heap.CodeRec (.ref c') lamQual) (hc : (c, oh) ∈ need) (hoh : oh.data = .cell (some (.ref d))) (hn : n ∈ D.map (·.1)) (hlen : (textAt D n).length ≤ 1000) :
    wpAny (MD w) A (call (.ref f) [.int n t]) (KskEnd g L m need (-((textAt D n).length : Int)) s) (fun _ _ => False) s := by
  refine wpAny_call ?_
  have B' := B.stays F.keep
  obtain ⟨mean, mg, mb, T⟩ := B'.T
  have hr : A.depth < recursionLimit := by have := hR.hd; omega
  refine kla_callFunE hr (N _ ho).1 rfl rfl rfl rfl hrec ?_
  rw [show bindArgs (kla_fn (S "<lambda>") lamQual lamParams lamBody lamScope [(S "hand", c)] pm (.ref c') ctv) ⟨[.int n t], []⟩ = pure [(S "part", .int n t)] from rfl]
  refine wpAny_pure (wpAny_newFunctionEnv (show ∀ x ∈ lamScope.names, x.2 ≠ .cell by decide) (locs rfl) (fun h₁ hns hsb => ⟨T.nolimit.fresh _ hsb, ?_⟩) rfl)
  show codeAny _ _ (.expr lamBody (envX lamQual lamScope s.heap.objs.size f (.ref c') [(S "hand", c)])) _ _
  have hk₁ : s.heap.StaysIn h₁ := fun b o e => hsb.extBut b o (Nat.ne_of_lt (Heap.lt_size e)) (Heap.get?_push_of_some _ e)
  have T₁ := T.keeps hk₁
  generalize hEnv : envX lamQual lamScope s.heap.objs.size f (.ref c') [(S "hand", c)] = env
  have hk : env.scope.kind = .function := by subst hEnv; rfl
  have khd : env.kindOf (S "hand") = some .free := by subst hEnv; rfl
  have kp : env.kindOf (S "part") = some .local := by subst hEnv; rfl
  have kl : env.kindOf (S "len") = some .globalImplicit := by subst hEnv; rfl
  have ch : env.cells.lookup (S "hand") = some c := by subst hEnv; rfl
  have eg : env.globals = mainGlobals := by subst hEnv; rfl
  have eb : env.builtins = builtinsNs := by subst hEnv; rfl
  have el : env.locals = s.heap.objs.size := by subst hEnv; rfl
  have H₁ := (H.keep F.keep).keep hk₁
  obtain ⟨tx, hv⟩ := H₁.at hn
  refine kla_codeExpr (wpAny_UnaryOp (wpAny_Call_NameR (wpAny_Name ?_ rfl)))
  rw [loadName_read hk kl]
  refine loadGlobal_builtin (eg ▸ T₁.g) (mg_none_of (B'.stays hk₁).K T₁.g (g_len w)) (eb ▸ T₁.b) ((T₁.builtins _ (by decide)).trans b_len) ?_
  rw [show backTo ⟨197, 48, 197, 63⟩ (starEach [Expr.Subscript (.Name (S "hand") ⟨197, 52, 197, 56⟩) (.Name (S "part") ⟨197, 57, 197, 61⟩) ⟨197, 52, 197, 62⟩] env) = [(false, eval (Expr.Subscript (.Name (S "hand") ⟨197, 52, 197, 56⟩) (.Name (S "part") ⟨197, 57, 197, 61⟩) ⟨197, 52, 197, 62⟩) env)] from rfl]
  refine Calls.callWith_builtin (by simp) (Calls.evalArgs_plain (Calls.spliced_cons (Subscript_ (wpAny_Name (wpAny_loadName_free hk khd ch ⟨oh, hk₁ _ _ (N _ hc).1, hoh⟩ ?_) rfl))))
  refine wpAny_Name (wpAny_loadName_local (v := .int n t) hk kp (el ▸ hns) rfl ?_) rfl
  refine tail_any H₁.dict.typeIs slot_dict_getitem.lookup (wpAny_getItem_of (intKind_is PR w n t) H₁.dict.mapOf hv ?_) rfl
  refine Calls.spliced_nil (P.len_str (by omega) (PyProof.Rows.neg_int ?_))
  exact ⟨h₁, _, _, rfl, rfl, fr_stays F hk₁, news_stays N hk₁⟩

theorem sorted_lam {w : World} {A : Around} {env : Env} {g : Heap} {L c d dp : Addr} {cs : Scope} {cl : List (PySem.Str × Addr)} {l : List (PySem.Str × Value)} {news : Led} {oh : Obj} {kvs : List (Int × Value)} {D : List (Int × PySem.Str)} {pv : List Value} {np : Nat} {parts : List Int} {ps : Array Value} {s : Shared} {Q : Value → Shared → Prop} {p0 p1 kpos pos : Pos}
    (hX : env = envX (S "_law_weights") cs L 104 (.ref 103) cl) (hE : EnvOk env L) (hR : Rm A 1) (ks : env.kindOf (S "sorted") = some .globalImplicit) (kp : env.kindOf (S "parts") = some .local) (hv : lk l (S "parts") = some (.ref dp)) (hcl : closureFor lamScope env = pure [(S "hand", c)])
    (G : GBase w g) (H : HandIn w g d kvs D) (hm : (dp, Lo pv np) ∈ news) (hpI : IntsAre pv parts) (hp64 : parts.length < 64) (hpk : ∀ n ∈ parts, n ∈ D.map (·.1)) (hlen : ∀ n ∈ D.map (·.1), (textAt D n).length ≤ 1000) (hc : (c, oh) ∈ news) (hoh : oh.data = .cell (some (.ref d)))
    (hne : ∀ p ∈ news, p.1 ≠ 101) (F : Fr g L s.heap (lk l)) (N : News g L s.heap ((101, tabObj ps) :: news)) (hT : TabP g ps) (ht : 0 < s.toks)
    (k : ∀ Dd vs' ns' cc ps' more h' tk, 0 < tk → Fr g L h' (lk l) → News g L h' ((Dd, Lo vs' cc) :: (101, tabObj ps') :: (more ++ news)) → (∀ p ∈ more, ∃ vs, p.2.data = .fields vs) → (∀ p ∈ more, p.1 ≠ 101) → (∀ h, g.StaysIn h → (∀ p ∈ more, h.get? p.1 = some p.2) → TabP h ps') → IntsAre vs' ns' → ns'.Perm parts → ns'.Pairwise (fun x y => (textAt D y).length ≤ (textAt D x).length) → Q (.ref Dd) { s with heap := h', toks := tk })
    (hline : backTo pos (starEach [.Name (S "parts") p1] env) = [(false, eval (.Name (S "parts") p1) env)] := by rfl) :
    wpAny (MD w) A (eval (.Call (.Name (S "sorted") p0) [.Name (S "parts") p1] [⟨some (S "key"), .Lambda lamParams lamBody lamScope lamPos, kpos⟩] pos) env) Q NE s := by
  refine wpAny_with_toks (n := 1) ht (wpAny_Call_Name_kw ((Pu.blt hE (FR.base G.base) ks (g_sorted w) b_sorted).run ⟨F, N⟩ ht fun v n1 h1 tk1 tp1 st1 i1 new1 hv1 => ?_))
  cases hv1
  obtain ⟨mean, mg, mb, T⟩ := G.base.T
  refine callWith_kw ?_
  rw [hline]
  refine Calls.spliced_cons ((Pu.loc hE hv kp).run i1 tp1 fun v n2 h2 tk2 tp2 st2 i2 new2 hv2 => Calls.spliced_nil (kws_cons (kla_eval rfl ?_)))
  cases hv2
  have key : ∀ (f c' : Addr) (ctv : Value) (h3 : Heap) (tk3 : Nat) (more : Led) (ps' : Array Value), Fr g L h3 (lk l) → News g L h3 ((f, kla_obj (S "<lambda>") lamQual lamParams lamBody lamScope [(S "hand", c)] ((mg "__name__").getD .none) c' ctv) :: (more ++ (101, tabObj ps') :: news)) →
      ps' = tabHit c' → (∀ p ∈ more, ∃ vs, p.2.data = .fields vs) → (∀ p ∈ more, p.1 ≠ 101) → (∀ h, g.StaysIn h → (∀ p ∈ more, h.get? p.1 = some p.2) → h.CodeRec (.ref c') lamQual) →
      wpAny (MD w) A (call (.builtin "sorted") [.ref dp] [(S "key", .ref f)]) (fun a s' => 1 ≤ s'.toks → Q a s') (fun e s' => 1 ≤ s'.toks → NE e s') { s with heap := h3, toks := tk3 } := by
    intro f c' ctv h3 tk3 more ps' F3 N3 hps hmf hm1 hrec
    have sub : ∀ p ∈ news, p ∈ (f, kla_obj (S "<lambda>") lamQual lamParams lamBody lamScope [(S "hand", c)] ((mg "__name__").getD .none) c' ctv) :: (more ++ (101, tabObj ps') :: news) := fun p hp => .tail _ (List.mem_append_right _ (.tail _ hp))
    refine ksk_letter (b := false) (f := .ref f) (kw := [(S "key", .ref f)]) (fun n => -((textAt D n).length : Int)) F3 N3 (isList_of (N3 _ (sub _ hm)).1) hpI hp64 (ksk_s1 _ _) (fun x => ksk_l1 _ _) (fun x => ksk_t1 _ _) (fun n t h tk own hn F4 N4 => ?_) (fun Dd vs' ns' cc h4 tk4 F4 N4 _ hI' _ hperm hpw _ => ?_)
    · have hrec' : h.CodeRec (.ref c') lamQual := hrec h F4.keep fun p hp => (N4 _ (List.mem_append_left _ (.tail _ (List.mem_append_left _ hp)))).1
      refine lam_turn ⟨hR.hh, by have := hR.hd; show A.depth + 0 < _; omega, by have := hR.hu; show A.units + 1 + 1 + 30 * 0 + 60 < _; omega⟩ G.base H F4 N4 (List.mem_append_left _ (.head _)) hrec' (List.mem_append_left _ (sub _ hc)) hoh (hpk n hn) (hlen n (hpk n hn))
    · intro hl
      refine k Dd vs' ns' cc ps' more h4 tk4 hl F4 (fun p hp => ?_) hmf hm1 (fun h hg hm => .inr ⟨c', hps, hrec h hg hm⟩) hI' hperm (hpw.imp fun {x y} q => by
        have q' : -((textAt D x).length : Int) ≤ -((textAt D y).length : Int) := q
        omega)
      rcases List.mem_cons.mp hp with rfl | hp
      · exact N4 _ (.head _)
      · rcases List.mem_cons.mp hp with rfl | hp
        · exact N4 _ (.tail _ (.tail _ (List.mem_append_right _ (.head _))))
        · rcases List.mem_append.mp hp with hp | hp
          · exact N4 _ (.tail _ (.tail _ (List.mem_append_left _ hp)))
          · exact N4 _ (.tail _ (.tail _ (List.mem_append_right _ (.tail _ hp))))
  have N2 : News g L h2 ((101, tabObj ps) :: news) := i2.2
  subst hX
  rcases hT with rfl | ⟨c', rfl, hrec⟩
  · refine kla_nest (P := 101) (c := 103) i2.1 N2 T G.code rfl (.head hne) trivial rfl hcl fun f c' oc vs t ctv h' tk F' N' hd hv l1 l2 => kws_nil ?_
    refine key f c' ctv h' tk [(c', oc)] (tabHit c') F' N' rfl (fun p hp => by rw [List.mem_singleton.mp hp]; exact ⟨vs, hd⟩) (fun p hp => by rw [List.mem_singleton.mp hp]; exact Ne.symm (Nat.ne_of_lt (l1 _ (.head _)))) fun h F hm => ?_
    exact ⟨c', oc, vs, t, rfl, hm _ (.head _), hd, hv⟩
  · refine kla_hit (P := 101) (c := 103) (c' := c') i2.1 N2 T G.code rfl (.head _) trivial rfl hcl fun f ctv h' tk F' N' l1 => kws_nil ?_
    exact key f c' ctv h' tk [] (tabHit c') F' N' rfl (fun p hp => nomatch hp) (fun p hp => nomatch hp) fun h F hm => hrec.keeps F
end Mine
end
section
open PySem PySem.W PyProof.Rows PySem.Calls
open PySem.Builtin PySem.Builtin.Str
set_option Elab.async false
set_option linter.unusedVariables false
namespace Mine
theorem preSum_take (ns : List Int) : ∀ k, k ≤ ns.length → preSum (fun i => ns.getD i 0) k = (ns.take k).sum
  | 0, _ => rfl
  | k + 1, h => by
    show preSum (fun i => ns.getD i 0) k + ns.getD k 0 = _
    have hk : k < ns.length := by omega
    have e1 : ns.take (k + 1) = ns.take k ++ [ns[k]] := by rw [List.take_add_one, List.getElem?_eq_getElem hk]; rfl
    have e2 : ns.getD k 0 = ns[k] := by rw [List.getD_eq_getElem?_getD, List.getElem?_eq_getElem hk]; rfl
    rw [preSum_take ns k (by omega), e1, e2, List.sum_append]
    simp
theorem preSum_all (ns : List Int) : preSum (fun i => ns.getD i 0) ns.length = ns.sum := by rw [preSum_take ns _ (Nat.le_refl _), List.take_length]

section
variable {w : World} {A : Around} {env : Env} {I : HP} {g : Heap} {L : Addr} {l : List (PySem.Str × Value)} {news : Led} {s : Shared} {Q : Flow → Shared → Prop} {rest : List Stmt}

theorem c_sumL {a : Addr} {xs vs : List Value} {ns : List Int} {m n : Led} (hh : A.handled = none) (hl : ∀ h, I.on h → h.IsList a xs.toArray) (hi : IntsAre xs ns) (h : LV [IsV (.ref a)] vs m) : Tr w A (I.and m) (call (.builtin "sum") vs) (fun r nu => IsI ns.sum r (nu ++ n)) := by
  obtain ⟨b, rfl, u⟩ := LV1 h; obtain rfl := u.v
  refine .mk fun s Q hI ht k => ?_
  have hL := hl _ hI.1
  have hlt : a < s.heap.objs.size := by obtain ⟨o, ho, _⟩ := hL; exact Heap.lt_size ho
  have W := Walks.list (prog := PR) (w := w) (A := A.in1) hh s.heap.objs.size a (Nat.ne_of_lt hlt) xs.toArray
  simp only [List.size_toArray, List.getElem?_toArray] at W
  rw [hi.length] at W
  refine call_sum_walkG (wpAny_pyIter_list hL ⟨_, _, _, _, _, _, fun i => ns.getD i 0, rfl, W, ⟨⟨_, Heap.get?_push_size _ rfl, rfl, rfl⟩, hL.at fun o e => Heap.get?_push_of_some _ e⟩, fun b hb => ?_, fun i v hv => hi.int_at i v hv, fun h' tk t' hk => ?_⟩)
  · show b < (s.heap.push _).objs.size
    rw [Heap.size_push]
    rcases List.mem_cons.mp hb with rfl | hb
    · exact Nat.lt_succ_self _
    · rw [List.mem_singleton.mp hb]; exact Nat.lt_succ_of_lt hlt
  · rw [preSum_all]
    exact k _ [] h' tk (fun b o e => hk b o (by rw [List.mem_singleton]; exact Nat.ne_of_lt (Heap.lt_size e)) (Heap.get?_push_of_some _ e)) .nil ⟨_, rfl⟩

/-- a values view of a dict -/
def IsVW (d : Addr) : Value → Led → Prop := fun v nw => ∃ a, v = .ref a ∧ (a, ({ cls := .type "dict_values", data := .fields #[.ref d] } : Obj)) ∈ nw
theorem rel_vals {K : Type} {kvs : List (K × Value)} {W : List (K × Int)} (h : Rel (fun v (i : Int) => ∃ t, v = .int i t) kvs W) : ∀ (i : Nat) (v : Value), (∃ k, kvs[i]? = some (k, v)) → ∃ t, v = .int ((W.map (·.2)).getD i 0) t := by
  induction h with
  | nil => intro i v ⟨k, e⟩; simp at e
  | cons hr _ ih =>
    intro i v ⟨k, e⟩
    cases i with
    | zero => simp at e; obtain ⟨rfl, rfl⟩ := e; simpa using hr
    | succ i => simp only [List.getElem?_cons_succ] at e; simpa using ih i v ⟨k, e⟩
theorem c_sumV {K : Type} [DecidableEq K] {knd : KeyKind PR w K} {d : Addr} {kvs : List (K × Value)} {W : List (K × Int)} {vs : List Value} {m n : Led} (hh : A.handled = none) (hd : ∀ h, I.on h → h.DictOf knd d kvs) (hr : Rel (fun v (i : Int) => ∃ t, v = .int i t) kvs W) (h : LV [IsVW d] vs m) :
    Tr w A (I.and m) (call (.builtin "sum") vs) (fun r nu => IsI (W.map (·.2)).sum r (nu ++ n)) := by
  obtain ⟨b, rfl, m', hm', a, rfl, hm⟩ := LV1 h
  refine .mk fun s Q hI ht k => ?_
  obtain ⟨ep, hat⟩ := (hd _ hI.1).dictAt
  have hvw := hI.2 _ (hm' _ hm)
  have K1 := kdl_values (prog := PR) (w := w) (knd := knd) (kvs := kvs) (ep := ep) (d := d) (r := a)
  have hok : s.heap.IsValuesView a d ∧ Heap.DictAt knd s.heap d kvs ep := ⟨⟨_, hvw, rfl, rfl⟩, hat⟩
  refine call_sum_walkAnyS ?_
  obtain ⟨oI, St, hit, W1, st⟩ := K1.iter A.in1 s hh hok
  refine hit _ _ ⟨s.heap.objs.size, _, _, _, kvs.length, _, _, fun i => (W.map (·.2)).getD i 0, rfl, W1.toS, st, fun b hb => ?_, rel_vals hr, fun s' t' hm => ?_⟩
  · show b < (s.heap.push oI).objs.size
    rw [Heap.size_push]
    rcases List.mem_cons.mp hb with e | hb
    · rw [e]; exact Nat.lt_succ_self _
    · rw [List.mem_singleton.mp hb]; exact Nat.lt_succ_of_lt (K1.there _ hok).2
  · have hk : s.heap.StaysIn s'.heap := fun b o e =>
      hm.heap b o (fun hI => absurd (Heap.lt_size e) (by rw [List.mem_singleton.mp hI]; exact Nat.lt_irrefl _)) (Heap.get?_push_of_some _ e)
    rw [Moved.eq_with hm]
    have e : kvs.length = (W.map (·.2)).length := by rw [hr.len, List.length_map]
    rw [e, preSum_all]
    exact k _ [] s'.heap s'.toks hk .nil ⟨_, rfl⟩

/-- a method with no arguments -/
theorem Pu.meth0 {T id : String} {o : Expr} {name : PySem.Str} {apos pos : Pos} {P : Value → Led → Prop} {U : Value → Led → Prop}
    (pa : PlainAttrs T) (slot : Slot T name id) (hty : typeOf (.builtin id) = pure (.type "method_descriptor")) (ho : Pu w A env I o P)
    (hT : ∀ v n, P v n → ∀ s : Shared, (I.and n).on s.heap → s.TypeIs v T ∧ ∀ a, v = .ref a → ∃ ob, s.heap.get? a = some ob ∧ ob.dict = none)
    (hf : ∀ v n, P v n → Tr w A (I.and n) (call (.builtin id) [v]) (fun r nu => U r (nu ++ n)))
    (hs : backTo pos (starEach [] env) = [] := by rfl)
    (hbase : attributeBase o name env (eval o env) = eval o env := by rfl)
    (hfew : ((backTo pos (starEach [] env)).all (fun x => !x.1) && (backToKw pos (keywordEach [] env)).all (fun x => x.1.isSome)
      && decide (([] : List Expr).length + ([] : List Keyword).length + (if ([] : List Keyword).isEmpty then 0 else 1) < 30)) = true := by rfl)
    (hline : (apos.endLine == pos.line) = true := by rfl) : Pu w A env I (.Call (.Attribute o name apos) [] [] pos) U :=
  .mk fun s Q hI ht k => wpAny_Call_method_lateS hbase hfew hline (ho s _ hI ht fun v n1 h1 tk1 tp1 st1 i1 new1 hv => by
    have hTT := hT v n1 hv { s with heap := h1, toks := tk1 } ⟨i1, fun p hp => (new1 p hp).1⟩
    refine ⟨T, id, pa, slot, hty, hTT.1, hTT.2, ?_⟩
    rw [hs]
    refine Calls.callWith_builtin (by simp) (PySem.evalArgs_none ?_)
    refine hf v n1 hv _ _ ⟨i1, fun p hp => (new1 p hp).1⟩ tp1 fun r nu h' tk tp st _ n hr => ?_
    exact k r _ h' tk (stays_trans st1 st) ((New.earlier st1 n).append (new1.later st)) hr)
theorem c_values {K : Type} [DecidableEq K] {knd : KeyKind PR w K} {d : Addr} {kvs : List (K × Value)} {n : Led} (hd : ∀ h, I.on h → h.DictOf knd d kvs) (hds : (d == sysModules) = false) : Tr w A I (call (.builtin "dict.values") [.ref d]) (fun r nu => IsVW d r (nu ++ n)) :=
  .mk fun s Q hI ht k => call_meetsIn F.slot_dict_values (hd _ hI).typeIs F.entry_dict_values (F.args_dict_values_1 _) (meets_dict_values knd d hds) ⟨⟨kvs, hd _ hI⟩,
    k _ [(s.heap.objs.size, _)] _ _ (stays_push _ _) (.one (Heap.get?_push_size _ rfl) (size_none _ (Nat.le_refl _))) ⟨_, rfl, by simp⟩⟩

theorem mem_setL_ne {d : Addr} {o : Obj} {N : Led} {p : Addr × Obj} (hp : p ∈ N) (hn : p.1 ≠ d) : p ∈ setL d o N := List.mem_map.mpr ⟨p, hp, if_neg hn⟩
theorem mem_setL {d : Addr} {o o0 : Obj} {N : Led} (hp : (d, o0) ∈ N) : (d, o) ∈ setL d o N := List.mem_map.mpr ⟨_, hp, if_pos rfl⟩
theorem news_ne {h : Heap} {N : Led} {a b : Addr} {o o' : Obj} (N1 : News g L h N) (ha : (a, o) ∈ N) (hb : (b, o') ∈ N) (hd : o ≠ o') : a ≠ b := by
  rintro rfl
  have e1 := (N1 _ ha).1
  have e2 := (N1 _ hb).1
  rw [e1] at e2
  exact hd (Option.some.inj e2)

/-- a list, item by item, into a cell -/
theorem it_listC {x : PySem.Str} {px : Pos} {body : List Stmt} {a c : Addr} {vs : List Value} {R : Result → Shared → Prop} (hh : A.handled = none) (hE : EnvOk env L) (hx : env.kindOf x = some .cell) (hc : env.cells.lookup x = some c)
    (hl : s.heap.IsList a vs.toArray) (haL : a ≠ L) (hac : c ≠ a) (hcl : c < s.heap.objs.size) (F : Fr g L s.heap (lk l)) (N : News g L s.heap news) (ht : 0 < s.toks)
    (J : Nat → List (PySem.Str × Value) → Led → Prop) (h0 : J 0 l news) (hJc : ∀ i l₁ news₁, J i l₁ news₁ → ∃ o v, (c, o) ∈ news₁ ∧ o.data = .cell v)
    (step : ∀ i v l₁ news₁ o' own s₁, vs[i]? = some v → J i l₁ news₁ → o'.data = .cell (some v) → (∀ p ∈ own, p.1 = a ∨ p.1 = s.heap.objs.size) → (∀ p ∈ news₁, p.1 ≠ s.heap.objs.size) → Fr g L s₁.heap (lk l₁) → News g L s₁.heap (own ++ setL c o' news₁) → 0 < s₁.toks → (∃ h tk, s₁ = { s with heap := h, toks := tk }) →
      wpAny (MD w) A (execs body env) (LE g L own news₁ (J (i + 1)) s₁ fun v s' => R (.ok (.ret v)) s') NE s₁)
    (hR : ∀ h' tk l' news', 0 < tk → Fr g L h' (lk l') → News g L h' news' → J vs.length l' news' → R (.ok .next) { s with heap := h', toks := tk }) :
    wpAny (MD w) A (pyIter (.ref a)) (fun it s₂ => ∃ I, it = .ref I ∧ codeAny (MD w) A (.forLoop (.Name x px) (.ref I) body [] env) R s₂) NE s := by
  have hlt : a < s.heap.objs.size := by obtain ⟨o, ho, _⟩ := hl; exact Heap.lt_size ho
  have hLlt : L < s.heap.objs.size := F.ns.lt
  have W := Walks.list (prog := PR) (w := w) hh s.heap.objs.size a (Nat.ne_of_lt hlt) vs.toArray
  simp only [List.size_toArray, List.getElem?_toArray] at W
  refine wpAny_pyIter_list hl ⟨_, rfl, ?_⟩
  refine for_coreC hE hx hc ?_ W ?_ ?_ ?_ ⟨⟨_, Heap.get?_push_size _ rfl, rfl, rfl⟩, hl.at fun o e => Heap.get?_push_of_some _ e⟩ ?_ (F.push _) (fun p hp => ⟨Heap.get?_push_of_some _ (N p hp).1, (N p hp).2⟩) ht J h0 hJc ?_ ?_
  · intro hm
    rcases List.mem_cons.mp hm with e | hm
    · exact Nat.lt_irrefl _ (e ▸ hcl)
    · exact hac (List.mem_singleton.mp hm)
  · intro hm
    rcases List.mem_cons.mp hm with e | hm
    · exact absurd hLlt (e ▸ Nat.lt_irrefl _)
    · exact haL (List.mem_singleton.mp hm).symm
  · intro b hb
    rw [List.mem_singleton.mp hb]
    exact get_none_back F.keep (size_none _ (Nat.le_refl _))
  · intro p hp hI
    exact absurd (Heap.lt_size (N p hp).1) ((List.mem_singleton.mp hI) ▸ Nat.lt_irrefl _)
  · rintro i h ⟨⟨o, ho, _⟩, _⟩ b hb
    rw [List.mem_singleton.mp hb]; exact ⟨o, ho⟩
  · intro i v l₁ news₁ o' own s₁ hi hP hJ ho' hown hnw F₁ N₁ ht₁ hs₁ _
    refine step i v l₁ news₁ o' own s₁ hP hJ ho' (fun p hp => ?_) (fun p hp e => hnw p hp (List.mem_singleton.mpr e)) F₁ N₁ ht₁ (by obtain ⟨h, tk, e⟩ := hs₁; exact ⟨h, tk, e⟩)
    rcases List.mem_cons.mp (hown p hp) with q | q
    · exact .inr q
    · exact .inl (List.mem_singleton.mp q)
  · intro h' tk l' news' tp F' N' hJ
    exact hR h' tk l' news' tp F' N' hJ
end
end Mine
end
section
open PySem PySem.W PyProof.Rows PySem.Calls
open PySem.Builtin PySem.Builtin.Str
set_option Elab.async false
set_option linter.unusedVariables false
namespace Mine
def aboveOf (D : List (Int × PySem.Str)) (W : List (Int × Int)) (p : Int) : List Int := ((W.map (·.1)).filter fun q => standsIn D p q).map fun q => (getA W q).getD 0
def wStep (D : List (Int × PySem.Str)) (number : Int) (W : List (Int × Int)) (p : Int) : List (Int × Int) := putA W p ((if p == number then 1 else 0) - (aboveOf D W p).sum)
def weightsBy (D : List (Int × PySem.Str)) (number : Int) (order : List Int) : List (Int × Int) :=
  putA (order.foldl (wStep D number) []) 0 (-(((order.foldl (wStep D number) []).map (·.2)).sum))
structure OrderOk (D : List (Int × PySem.Str)) (number : Int) (order : List Int) : Prop where
  perm : order.Perm (partsOf D number)
  down : order.Pairwise fun x y => (textAt D y).length ≤ (textAt D x).length
abbrev RInt : Value → Int → Prop := fun v i => ∃ t, v = .int i t
def overTest (D : List (Int × PySem.Str)) (p : Int) (v : Value) : Bool := match v with | .int q _ => standsIn D p q | _ => false
theorem putA_keys {K β : Type} [DecidableEq K] {D : List (K × β)} {k : K} {b : β} : ∀ x ∈ (putA D k b).map (·.1), x = k ∨ x ∈ D.map (·.1) := by
  intro x hx
  unfold putA at hx
  split at hx
  · right
    rw [List.map_map] at hx
    obtain ⟨p, hp, rfl⟩ := List.mem_map.mp hx
    refine List.mem_map.mpr ⟨p, hp, ?_⟩
    simp only [Function.comp]; split <;> rfl
  · rw [List.map_append, List.mem_append] at hx
    exact hx.symm.imp_left (by simp)
theorem putA_len {K β : Type} [DecidableEq K] {D : List (K × β)} {k : K} {b : β} : (putA D k b).length ≤ D.length + 1 := by
  unfold putA; split <;> simp
theorem above_ints {D : List (Int × PySem.Str)} {W : List (Int × Int)} {p : Int} : ∀ {vs ys : List Value} {ks : List Int}, IntsAre vs ks → Paired (fun v y => ∃ _n : Led, ∃ q t, v = .int q t ∧ ∃ t', y = .int ((getA W q).getD 0) t') (vs.filter (overTest D p)) ys →
    IntsAre ys ((ks.filter fun q => standsIn D p q).map fun q => (getA W q).getD 0)
  | _, _, _, .nil, h => by cases h; exact .nil
  | _, _, _, .cons n t r, h => by
    rw [List.filter_cons] at h ⊢
    have e : overTest D p (.int n t) = standsIn D p n := rfl
    rw [e] at h
    cases hc : standsIn D p n with
    | true =>
      rw [hc] at h
      simp only [if_true] at h ⊢
      cases h with
      | cons h1 h2 =>
        obtain ⟨_, q, tq, e1, t', rfl⟩ := h1
        cases e1
        exact .cons _ _ (above_ints r h2)
    | false =>
      rw [hc] at h
      simp only [Bool.false_eq_true, if_false] at h ⊢
      exact above_ints r h

theorem ad14 (L : Nat) : L + 1 ≠ L + 1 + 1 + 1 + 1 := by omega
theorem ad24 (L : Nat) : L + 1 + 1 ≠ L + 1 + 1 + 1 + 1 := by omega
theorem ad34 (L : Nat) : L + 1 + 1 + 1 ≠ L + 1 + 1 + 1 + 1 := by omega
theorem ad13 (L : Nat) : L + 1 ≠ L + 1 + 1 + 1 := by omega
theorem ad23 (L : Nat) : L + 1 + 1 ≠ L + 1 + 1 + 1 := by omega
theorem ad43 (L : Nat) : L + 1 + 1 + 1 + 1 ≠ L + 1 + 1 + 1 := by omega
theorem st_forRaw {w : World} {A : Around} {env : Env} {s : Shared} {rest : List Stmt} {x : PySem.Str} {px p : Pos} {iter : Expr} {body : List Stmt} {Q : Flow → Shared → Prop}
    (h : wpAny (MD w) A (eval iter env) (fun v s₁ => wpAny (MD w) A (pyIter v) (fun it s₂ => ∃ I, it = .ref I ∧ codeAny (MD w) A (.forLoop (.Name x px) (.ref I) body [] env)
        (fun r s' => match r with | .ok .next => wpAny (MD w) A (execs rest env) Q NE s' | .ok f => Q f s' | .error _ => False) s₂) NE s₁) NE s)
    (hs : ∀ x, foldedSetIterable iter env x = pure x := by intro _; rfl) :
    wpAny (MD w) A (execs (.For (.Name x px) iter body [] p :: rest) env) Q NE s := by
  refine wpAny_execs_cons (wpAny_For (wpAny_mono h (fun v s₁ h₁ => ?_) fun _ _ e => e) hs)
  refine wpAny_mono h₁ (fun it s₂ h₂ => ?_) fun _ _ e => e
  obtain ⟨I, rfl, hc⟩ := h₂
  refine codeAny_mono hc fun r s' hr => ?_
  cases r with
  | error e => exact hr.elim
  | ok f => cases f <;> exact hr
theorem g_sum (w : World) : nsIn (KK w) mainGlobals (S "sum") = some none := by kernel_rfl
theorem b_sum : bootBuiltins (S "sum") = some (.builtin "sum") := by first | exact boot_sum | kernel_rfl

set_option maxRecDepth 100000 in
set_option maxHeartbeats 8000000 in
theorem weights_call {w : World} {A : Around} {g0 : Heap} {d : Addr} {kvs : List (Int × Value)} {D : List (Int × PySem.Str)} {number : Int} {tn : Tok} (hG : GBase w g0) (hR : Rm A 2) (hD : D.length ≤ 48) (hlen : ∀ n ∈ D.map (·.1), (textAt D n).length ≤ 1000) (hn : number ∈ D.map (·.1)) :
    TrG w A g0 (fun h => HandIn w h d kvs D) (call (.ref 104) [.ref d, .int number tn]) (fun v nw => ∃ order, OrderOk D number order ∧ IsD (intKind PR w) RInt (weightsBy D number order) v nw) := by
  have hz : sizeLine = 16777216 := sizeLine_eq
  refine' TrG.fn (binds := [(S "hand", .ref d), (S "number", .int number tn)]) hG (hR.less (by decide)) ?ho ?hcd ?hbind ?hkind ?hnd ?h ?c2 ?c3 ?c4
  case ho => with_unfolding_all rfl
  case hcd => kernel_rfl
  case hbind => rfl
  case hkind =>
    intro L x hx
    rcases List.mem_cons.mp hx with rfl | hx
    · exact .inr ⟨rfl, rfl⟩
    · rw [List.mem_singleton.mp hx]; exact .inr ⟨rfl, rfl⟩
  case hnd => decide +kernel
  case c2 => rfl
  case c3 => rfl
  case c4 => rfl
  intro s g L cells ps hH G hTP CA F0 N0 hc101 ht0
  obtain ⟨ow, op, on, oh, rfl, how, hop, hon, hoh⟩ := CellsAre.four CA
  have how' : ow.data = .cell none := how
  have hop' : op.data = .cell none := hop
  have hon' : on.data = .cell (some (.int number tn)) := hon
  have hoh' : oh.data = .cell (some (.ref d)) := hoh
  have F0' : Fr g L s.heap (lk []) := by
    refine Eq.mp (congrArg (Fr g L s.heap) ?_) F0
    exact (bindL_cell (by rfl)).trans ((bindL_cell (by rfl)).trans rfl)
  clear F0 CA how hop hon hoh
  generalize hEnv : callEnvC _ L 104 = env
  have hX : ∃ cs cl, env = envX (S "_law_weights") cs L 104 (.ref 103) cl := by subst hEnv; exact ⟨_, _, rfl⟩
  obtain ⟨cs, cl, hX⟩ := hX
  have hE : EnvOk env L := by subst hEnv; exact ⟨rfl, rfl, rfl, rfl⟩
  have kps : env.kindOf (S "parts") = some .local := by subst hEnv; rfl
  have kab : env.kindOf (S "above") = some .local := by subst hEnv; rfl
  have kh : env.kindOf (S "hand") = some .cell := by subst hEnv; rfl
  have kn : env.kindOf (S "number") = some .cell := by subst hEnv; rfl
  have kp : env.kindOf (S "part") = some .cell := by subst hEnv; rfl
  have kw : env.kindOf (S "weights") = some .cell := by subst hEnv; rfl
  have ch : env.cells.lookup (S "hand") = some (L + 1) := by subst hEnv; rfl
  have cn : env.cells.lookup (S "number") = some (L + 1 + 1) := by subst hEnv; rfl
  have cp : env.cells.lookup (S "part") = some (L + 1 + 1 + 1) := by subst hEnv; rfl
  have cw : env.cells.lookup (S "weights") = some (L + 1 + 1 + 1 + 1) := by subst hEnv; rfl
  have ks : env.kindOf (S "sorted") = some .globalImplicit := by subst hEnv; rfl
  have ksm : env.kindOf (S "sum") = some .globalImplicit := by subst hEnv; rfl
  have hcl : closureFor lamScope env = pure [(S "hand", L + 1)] := by subst hEnv; rfl
  have hR' : Rm (A.deeper env) 1 := hR.deeper
  have hkl : kvs.length = D.length := hH.rel.len
  generalize hA' : A.deeper env = A' at hR' ⊢
  obtain ⟨tnum, hvn⟩ := hH.at hn
  have cellIn : ∀ {c : Addr} {o : Obj}, (c, o) ∈ [(L + 1 + 1 + 1 + 1, ow), (L + 1 + 1 + 1, op), (L + 1 + 1, on), (L + 1, oh)] → (c, o) ∈ (101, tabObj ps) :: [(L + 1 + 1 + 1 + 1, ow), (L + 1 + 1 + 1, op), (L + 1 + 1, on), (L + 1, oh)] := fun h => .tail _ h
  have mh0 : (L + 1, oh) ∈ (101, tabObj ps) :: [(L + 1 + 1 + 1 + 1, ow), (L + 1 + 1 + 1, op), (L + 1 + 1, on), (L + 1, oh)] := by simp
  have mn0 : (L + 1 + 1, on) ∈ (101, tabObj ps) :: [(L + 1 + 1 + 1 + 1, ow), (L + 1 + 1 + 1, op), (L + 1 + 1, on), (L + 1, oh)] := by simp
  refine st_comp (p := partTest D number) (U := fun v y _ => y = v) (V := IsV (.ref d)) (n := kvs.length) (P := fun i v => ∃ k x, kvs[i]? = some (k, x) ∧ (intKind PR w).is k v = true) (cl := [(S "number", L + 1 + 1), (S "hand", L + 1)]) hE kps (by subst hEnv; rfl) (by subst hEnv; rfl)
    (Pu.cell hE.kind kh ch (FR.cell mh0 hoh')) (fun v nw hv => by cases hv; exact Src.keys hR'.hh (by intro h x; exact (hH.keep x.1.1.keep).dict) hH.low) (by omega) (fun nn C i v hP hnn => ?_) (fun nn C i v hP _ hnn => CF.loc (comp_env hE rfl) (by subst hEnv; rfl)) F0' N0 ht0
    fun dp pv np vs nw h1 tk1 ht1 hvl hvP hpair F1 N1 => ?_
  · obtain ⟨k, x, hkx, hkv⟩ := hP
    obtain ⟨tk', rfl⟩ := Value.isInt_shape hkv
    have hkD : k ∈ D.map (·.1) := by rw [← hH.rel.keys]; exact List.mem_map.mpr ⟨_, List.mem_of_getElem? hkx, rfl⟩
    obtain ⟨t1, hv1⟩ := hH.at hkD
    have hHC : ∀ h, (CF g L [] nn C (S "part") (.int k tk')).on h → h.DictOf (intKind PR w) d kvs := fun h y => (hH.keep y.2.1.keep).dict
    refine Te.cmp (P := IsS (textAt D k)) (R := IsS (textAt D number)) (Pu.key (Pu.cell rfl (by subst hEnv; rfl) (by rfl) (CF.cell (hnn _ mh0) hoh')) hHC (CF.loc (comp_env hE rfl) (by subst hEnv; rfl)) (fun u n hu => by cases hu; exact intKind_is PR w _ _) hv1).asS
      (Pu.key (Pu.cell rfl (by subst hEnv; rfl) (by rfl) (CF.cell (hnn _ mh0) hoh')) hHC (Pu.cell rfl (by subst hEnv; rfl) (by rfl) (CF.cell (hnn _ mn0) hon')) (fun u n hu => by cases hu; exact intKind_is PR w _ _) hvn).asS
      fun _ _ _ _ ha hb => op_in ha hb
  have hpv : pv = vs.filter (partTest D number) := paired_same hpair
  have hvI := ints_keys hvl hvP
  rw [hH.rel.keys] at hvI
  have hpI : IntsAre pv (partsOf D number) := by rw [hpv]; exact filter_ints hvI
  have hpk : ∀ n ∈ partsOf D number, n ∈ D.map (·.1) := fun n hn => (List.mem_filter.mp hn).1
  have hpl : (partsOf D number).length ≤ 48 := by
    have := List.length_filter_le (fun p => standsIn D p number) (D.map (·.1))
    rw [List.length_map] at this
    exact Nat.le_trans this hD
  have hcellne : ∀ {o : Obj} {v : Option Value} {p : Addr × Obj}, o.data = .cell v → (∀ u, p.2.data ≠ .cell u) → o ≠ p.2 := fun ho hp e => hp _ (by rw [← e]; exact ho)
  have N1' : News g L h1 [(101, tabObj ps), (dp, Lo pv np), (L + 1 + 1 + 1 + 1, ow), (L + 1 + 1 + 1, op), (L + 1 + 1, on), (L + 1, oh)] := fun p hp => N1 p (by
    rcases List.mem_cons.mp hp with rfl | hp
    · exact .tail _ (List.mem_append_right _ (.head _))
    · rcases List.mem_cons.mp hp with rfl | hp
      · exact .head _
      · exact .tail _ (List.mem_append_right _ (.tail _ hp)))
  clear N1
  have hdp4 : dp ≠ L + 1 + 1 + 1 + 1 := news_ne N1' (.tail _ (.head _)) (.tail _ (.tail _ (.head _))) (fun e => by rw [← e] at how'; cases how')
  have h1014 : (101 : Nat) ≠ L + 1 + 1 + 1 + 1 := Ne.symm (hc101 _ (.head _))
  refine st_assignC (c := L + 1 + 1 + 1 + 1) hE kw cw (.tail _ (.tail _ (.head _))) how' (Pu.dict0 (knd := intKind PR w) (FR.base G.base)) F1 N1' ht1 fun v nw2 ow2 h2 tk2 ht2 hv2 how2 F2 N2 => ?_
  obtain ⟨dw, od0, rfl, rfl, hlow, hod0⟩ := hv2
  have N2' : News g L h2 ((101, tabObj ps) :: [(dp, Lo pv np), (dw, od0), (L + 1 + 1 + 1 + 1, ow2), (L + 1 + 1 + 1, op), (L + 1 + 1, on), (L + 1, oh)]) := fun p hp => N2 p (by
    simp only [List.mem_cons, List.not_mem_nil, or_false] at hp
    rcases hp with rfl | rfl | rfl | rfl | rfl | rfl | rfl
    · exact List.mem_append_right _ (mem_setL_ne (by simp) h1014)
    · exact List.mem_append_right _ (mem_setL_ne (by simp) hdp4)
    · exact List.mem_append_left _ (.head _)
    · exact List.mem_append_right _ (mem_setL (o0 := ow) (by simp))
    · exact List.mem_append_right _ (mem_setL_ne (by simp) (ad34 L))
    · exact List.mem_append_right _ (mem_setL_ne (by simp) (ad24 L))
    · exact List.mem_append_right _ (mem_setL_ne (by simp) (ad14 L)))
  clear N2
  have hdict : ∀ {o : Obj} {kvs : List (Int × Value)}, o.IsDictOf (intKind PR w) kvs → ∃ es ep, o.data = .dict es ep := fun ⟨es, ep, _, e, _⟩ => ⟨es, ep, e⟩
  have hne2 : ∀ p ∈ [(dp, Lo pv np), (dw, od0), (L + 1 + 1 + 1 + 1, ow2), (L + 1 + 1 + 1, op), (L + 1 + 1, on), (L + 1, oh)], p.1 ≠ 101 := by
    intro p hp
    simp only [List.mem_cons, List.not_mem_nil, or_false] at hp
    rcases hp with rfl | rfl | rfl | rfl | rfl | rfl
    · exact news_ne N2' (o := Lo pv np) (by simp) (.head _) (fun e => by have := congrArg Obj.data e; cases this)
    · exact news_ne N2' (o := od0) (by simp) (.head _) (fun e => by obtain ⟨es, ep, h⟩ := hdict hod0; rw [e] at h; cases h)
    · exact hc101 (_, ow) (.head _)
    · exact hc101 _ (.tail _ (.head _))
    · exact hc101 _ (.tail _ (.tail _ (.head _)))
    · exact hc101 _ (.tail _ (.tail _ (.tail _ (.head _))))
  refine st_forRaw (sorted_lam hX hE hR' ks kps lk_eq hcl G hH (.head _) hpI (by omega) hpk hlen (by simp) hoh' hne2 F2 N2' hTP ht2 fun Dd vo order cc ps' more h3 tk3 ht3 F3 N3 hmf hm1 hTab hoI hperm hpw => ?_)
  have hord : OrderOk D number order := ⟨hperm, hpw⟩
  have mtab : ∀ {p : Addr × Obj}, p ∈ [(dp, Lo pv np), (dw, od0), (L + 1 + 1 + 1 + 1, ow2), (L + 1 + 1 + 1, op), (L + 1 + 1, on), (L + 1, oh)] → p ∈ (Dd, Lo vo cc) :: (101, tabObj ps') :: (more ++ [(dp, Lo pv np), (dw, od0), (L + 1 + 1 + 1 + 1, ow2), (L + 1 + 1 + 1, op), (L + 1 + 1, on), (L + 1, oh)]) := fun hp => .tail _ (.tail _ (List.mem_append_right _ hp))
  have hDw : Dd ≠ dw := news_ne N3 (.head _) (mtab (by simp : (dw, od0) ∈ _)) (fun e => by obtain ⟨es, ep, h⟩ := hdict hod0; rw [← e] at h; cases h)
  have hDp : L + 1 + 1 + 1 ≠ Dd := Ne.symm (news_ne N3 (.head _) (mtab (by simp : (L + 1 + 1 + 1, op) ∈ _)) (fun e => by rw [← e] at hop'; cases hop'))
  have hwp : dw ≠ L + 1 + 1 + 1 := news_ne N3 (mtab (by simp : (dw, od0) ∈ _)) (mtab (by simp : (L + 1 + 1 + 1, op) ∈ _)) (fun e => by obtain ⟨es, ep, h⟩ := hdict hod0; rw [e, hop'] at h; cases h)
  have hmp : ∀ p ∈ more, p.1 ≠ L + 1 + 1 + 1 := fun p hp => news_ne (a := p.1) (o := p.2) N3 (.tail _ (.tail _ (List.mem_append_left _ hp))) (mtab (by simp : (L + 1 + 1 + 1, op) ∈ _)) (fun e => by obtain ⟨vs, h⟩ := hmf p hp; rw [e, hop'] at h; cases h)
  have hmw : ∀ p ∈ more, p.1 ≠ dw := fun p hp => news_ne (a := p.1) (o := p.2) N3 (.tail _ (.tail _ (List.mem_append_left _ hp))) (mtab (by simp : (dw, od0) ∈ _)) (fun e => by obtain ⟨vs, h⟩ := hmf p hp; obtain ⟨es, ep, h2⟩ := hdict hod0; rw [e, h2] at h; cases h)
  have h1013 : (101 : Nat) ≠ L + 1 + 1 + 1 := Ne.symm (hc101 _ (.tail _ (.head _)))
  have hw101 : (101 : Nat) ≠ dw := Ne.symm (hne2 (dw, od0) (by simp))
  have hwc : ∀ {c : Addr} {o : Obj} {u : Option Value}, (c, o) ∈ [(L + 1 + 1 + 1 + 1, ow2), (L + 1 + 1 + 1, op), (L + 1 + 1, on), (L + 1, oh)] → o.data = .cell u → c ≠ dw := fun hm hu => news_ne N3 (mtab (.tail _ (.tail _ hm))) (mtab (by simp : (dw, od0) ∈ _)) (fun e => by obtain ⟨es, ep, h2⟩ := hdict hod0; rw [e, h2] at hu; cases hu)
  have N3' : News g L h3 ([(101, tabObj ps'), (dw, od0), (L + 1 + 1 + 1 + 1, ow2), (L + 1 + 1 + 1, op), (L + 1 + 1, on), (L + 1, oh)] ++ more) := fun p hp => N3 p (by
    rcases List.mem_append.mp hp with hp | hp
    · rcases List.mem_cons.mp hp with rfl | hp
      · exact .tail _ (.head _)
      · exact mtab (.tail _ hp)
    · exact .tail _ (.tail _ (List.mem_append_left _ hp)))
  have hwsz : dw ≠ h3.objs.size := Nat.ne_of_lt (Heap.lt_size (N3' (dw, od0) (by simp)).1)
  have hpsz : L + 1 + 1 + 1 ≠ h3.objs.size := Nat.ne_of_lt (Heap.lt_size (N3' (L + 1 + 1 + 1, op) (by simp)).1)
  refine it_listC hR'.hh hE kp cp (isList_of (N3 _ (.head _)).1) (N3 _ (.head _)).2.1 hDp (Heap.lt_size (N3' (L + 1 + 1 + 1, op) (by simp)).1) F3 N3' ht3
    (fun i l₁ news₁ => ∃ od opx v0 kvsW, (∀ p ∈ [(101, tabObj ps'), (dw, od), (L + 1 + 1 + 1 + 1, ow2), (L + 1 + 1 + 1, opx), (L + 1 + 1, on), (L + 1, oh)] ++ more, p ∈ news₁) ∧ opx.data = .cell v0 ∧ od.IsDictOf (intKind PR w) kvsW ∧
      Rel RInt kvsW ((order.take i).foldl (wStep D number) []) ∧ (∀ k ∈ ((order.take i).foldl (wStep D number) []).map (·.1), k ∈ D.map (·.1)) ∧ ((order.take i).foldl (wStep D number) []).length ≤ i)
    ⟨od0, op, none, [], fun p hp => hp, hop', hod0, .nil, by simp, by simp⟩ (fun i l₁ news₁ ⟨od, opx, v0, kvsW, hm, ho, _⟩ => ⟨opx, v0, hm _ (by simp), ho⟩) ?_ ?_
  · rintro i v l₁ news₁ o' own s₁ hi ⟨od, opx, v0, kvsW, hm, hopx, hod, hrel, hWk, hWl⟩ ho' hown hnw F₁ N₁ ht₁ ⟨hh₁, tkk, rfl⟩
    obtain ⟨part, tp, rfl, hpart⟩ := hoI.at i v hi
    have hfold : (order.take (i + 1)).foldl (wStep D number) [] = wStep D number ((order.take i).foldl (wStep D number) []) part := by
      rw [List.take_add_one, hpart, List.foldl_append]; rfl
    have hi48 : i < 48 := by
      have h1 := (List.getElem?_eq_some_iff.mp hpart).1
      have h2 := hperm.length_eq
      omega
    have hpartK : part ∈ D.map (·.1) := hpk _ (hperm.mem_iff.mp (List.mem_of_getElem? hpart))
    obtain ⟨tpt, hvp⟩ := hH.at hpartK
    generalize hWdef : (order.take i).foldl (wStep D number) [] = W at *
    have N₂ : News g L hh₁ (own ++ ([(101, tabObj ps'), (dw, od), (L + 1 + 1 + 1 + 1, ow2), (L + 1 + 1 + 1, o'), (L + 1 + 1, on), (L + 1, oh)] ++ more)) := fun p hp => by
      rcases List.mem_append.mp hp with hp | hp
      · exact N₁ p (List.mem_append_left _ hp)
      · refine N₁ p (List.mem_append_right _ ?_)
        rcases List.mem_append.mp hp with hp | hp
        · simp only [List.mem_cons, List.not_mem_nil, or_false] at hp
          rcases hp with rfl | rfl | rfl | rfl | rfl | rfl
          · exact mem_setL_ne (hm _ (by simp)) h1013
          · exact mem_setL_ne (hm _ (by simp)) hwp
          · exact mem_setL_ne (hm _ (by simp)) (ad43 L)
          · exact mem_setL (o0 := opx) (hm _ (by simp))
          · exact mem_setL_ne (hm _ (by simp)) (ad23 L)
          · exact mem_setL_ne (hm _ (by simp)) (ad13 L)
        · exact mem_setL_ne (hm _ (List.mem_append_right _ hp)) (hmp p hp)
    clear N₁
    have hkW : kvsW.length = W.length := hrel.len
    have mW : (dw, od) ∈ own ++ ([(101, tabObj ps'), (dw, od), (L + 1 + 1 + 1 + 1, ow2), (L + 1 + 1 + 1, o'), (L + 1 + 1, on), (L + 1, oh)] ++ more) := by simp
    have mw : (L + 1 + 1 + 1 + 1, ow2) ∈ own ++ ([(101, tabObj ps'), (dw, od), (L + 1 + 1 + 1 + 1, ow2), (L + 1 + 1 + 1, o'), (L + 1 + 1, on), (L + 1, oh)] ++ more) := by simp
    have mp : (L + 1 + 1 + 1, o') ∈ own ++ ([(101, tabObj ps'), (dw, od), (L + 1 + 1 + 1 + 1, ow2), (L + 1 + 1 + 1, o'), (L + 1 + 1, on), (L + 1, oh)] ++ more) := by simp
    have mn : (L + 1 + 1, on) ∈ own ++ ([(101, tabObj ps'), (dw, od), (L + 1 + 1 + 1 + 1, ow2), (L + 1 + 1 + 1, o'), (L + 1 + 1, on), (L + 1, oh)] ++ more) := by simp
    have mh : (L + 1, oh) ∈ own ++ ([(101, tabObj ps'), (dw, od), (L + 1 + 1 + 1 + 1, ow2), (L + 1 + 1 + 1, o'), (L + 1 + 1, on), (L + 1, oh)] ++ more) := by simp
    refine st_comp (p := overTest D part) (U := fun v y _ => ∃ q t, v = .int q t ∧ ∃ t', y = .int ((getA W q).getD 0) t') (V := IsV (.ref dw)) (n := kvsW.length) (P := fun i v => ∃ k x, kvsW[i]? = some (k, x) ∧ (intKind PR w).is k v = true) (cl := [(S "weights", L + 1 + 1 + 1 + 1), (S "part", L + 1 + 1 + 1), (S "hand", L + 1)]) hE kab (by subst hEnv; rfl) (by subst hEnv; rfl)
      (Pu.cell hE.kind kw cw (FR.cell mw how2)) (fun v nw hv => by cases hv; exact Src.keys hR'.hh (by intro h x; exact FR.dict mW hod h x.1) hlow) (by omega) (fun nn C j v hP hnn => ?_) (fun nn C j v hP _ hnn => ?_) F₁ N₂ ht₁
      fun da ya na vs nw h4 tk4 ht4 hvl hvP hpair F4 N4 => ?_
    · obtain ⟨q, x, hqx, hqv⟩ := hP
      obtain ⟨tq, rfl⟩ := Value.isInt_shape hqv
      have hqD : q ∈ D.map (·.1) := hWk q (by rw [← hrel.keys]; exact List.mem_map.mpr ⟨_, List.mem_of_getElem? hqx, rfl⟩)
      obtain ⟨t1, hv1⟩ := hH.at hqD
      have hHC : ∀ h, (CF g L l₁ nn C (S "other") (.int q tq)).on h → h.DictOf (intKind PR w) d kvs := fun h y => (hH.keep y.2.1.keep).dict
      refine Te.cmp (P := IsS (textAt D part)) (R := IsS (textAt D q)) (Pu.key (Pu.cell rfl (by subst hEnv; rfl) (by rfl) (CF.cell (hnn _ mh) hoh')) hHC (Pu.cell rfl (by subst hEnv; rfl) (by rfl) (CF.cell (hnn _ mp) ho')) (fun u n hu => by cases hu; exact intKind_is PR w _ _) hvp).asS
        (Pu.key (Pu.cell rfl (by subst hEnv; rfl) (by rfl) (CF.cell (hnn _ mh) hoh')) hHC (CF.loc (comp_env hE rfl) (by subst hEnv; rfl)) (fun u n hu => by cases hu; exact intKind_is PR w _ _) hv1).asS
        fun _ _ _ _ ha hb => op_in ha hb
    · obtain ⟨q, x, hqx, hqv⟩ := hP
      obtain ⟨tq, rfl⟩ := Value.isInt_shape hqv
      have hqW : q ∈ W.map (·.1) := by rw [← hrel.keys]; exact List.mem_map.mpr ⟨_, List.mem_of_getElem? hqx, rfl⟩
      obtain ⟨b, hb, _⟩ := getA_some hqW
      obtain ⟨vv, hvv, tv, rfl⟩ := hrel.get hb
      refine (Pu.key (Pu.cell rfl (by subst hEnv; rfl) (by rfl) (CF.cell (hnn _ mw) how2)) (CF.dict (hnn _ mW) hod) (CF.loc (comp_env hE rfl) (by subst hEnv; rfl)) (fun u n hu => by cases hu; exact intKind_is PR w _ _) hvv).mono fun y n hy => ⟨q, tq, rfl, tv, ?_⟩
      rw [hb]; exact hy
    have hvI := ints_keys hvl hvP
    rw [hrel.keys] at hvI
    have hyI : IntsAre ya (aboveOf D W part) := above_ints hvI hpair
    have hm4 : ∀ {p : Addr × Obj}, p ∈ own ++ ([(101, tabObj ps'), (dw, od), (L + 1 + 1 + 1 + 1, ow2), (L + 1 + 1 + 1, o'), (L + 1 + 1, on), (L + 1, oh)] ++ more) → p ∈ (da, Lo ya na) :: (nw ++ (own ++ ([(101, tabObj ps'), (dw, od), (L + 1 + 1 + 1 + 1, ow2), (L + 1 + 1 + 1, o'), (L + 1 + 1, on), (L + 1, oh)] ++ more))) := fun h => .tail _ (List.mem_append_right _ h)
    refine st_setD (knd := intKind PR w) (k := part) (P := IsV (.int part tp)) (V := IsI ((if part == number then 1 else 0) - (aboveOf D W part).sum)) (Pu.cell hE.kind kw cw (FR.cell (hm4 mw) how2)) (Pu.cell hE.kind kp cp (FR.cell (hm4 mp) ho'))
      (Pu.binop (P := IsI (if part == number then 1 else 0)) (R := IsI (aboveOf D W part).sum) (Pu.ifexp (c := (part == number)) (Te.cmp (Pu.cell hE.kind kp cp (FR.cell (hm4 mp) ho')).asI (Pu.cell hE.kind kn cn (FR.cell (hm4 mn) hon')).asI fun _ _ _ _ ha hb => op_eqI ha hb) (fun hc => by rw [hc]; exact Pu.int) (fun hc => by rw [hc]; exact Pu.int))
        (Pu.callB (V := LV [IsV (.ref da)]) (Pu.blt hE (FR.base G.base) ksm (g_sum w) b_sum) (.cons (Pu.loc hE lk_eq kab) .nil) fun vs n h => c_sumL hR'.hh (FR.list (.head _)) hyI h) fun _ _ _ _ ha hb => op_sub ha hb)
      (fun u n hu => by cases hu; exact intKind_is PR w _ _) (hm4 mW) hod (by omega) F4 N4 ht4 fun v nw2' od2 h5 tk5 ht5 hv5 hod2 F5 N5 => ?_
    refine st_nil (LE.next (news₂ := [(101, tabObj ps'), (dw, od2), (L + 1 + 1 + 1 + 1, ow2), (L + 1 + 1 + 1, o'), (L + 1 + 1, on), (L + 1, oh)] ++ more) ht5 F5 (fun p hp => N5 p (List.mem_append_right _ ?_)) (fun p hp => .inl ?_) ⟨od2, o', some (.int part tp), stored kvsW part v, fun p hp => hp, ho', hod2, ?_, ?_, ?_⟩)
    · rcases List.mem_append.mp hp with hp | hp
      · refine mem_setL_ne (hm4 (List.mem_append_left _ hp)) ?_
        rcases hown p hp with e | e
        · rw [e]; exact hDw
        · rw [e]; exact Ne.symm hwsz
      · rcases List.mem_append.mp hp with hp | hp
        · simp only [List.mem_cons, List.not_mem_nil, or_false] at hp
          rcases hp with rfl | rfl | rfl | rfl | rfl | rfl
          · exact mem_setL_ne (hm4 (by simp)) hw101
          · exact mem_setL (o0 := od) (hm4 mW)
          · exact mem_setL_ne (hm4 mw) (hwc (by simp) how2)
          · exact mem_setL_ne (hm4 mp) (Ne.symm hwp)
          · exact mem_setL_ne (hm4 mn) (hwc (by simp) hon')
          · exact mem_setL_ne (hm4 mh) (hwc (by simp) hoh')
        · exact mem_setL_ne (hm4 (List.mem_append_right _ (List.mem_append_right _ hp))) (hmw p hp)
    · rcases List.mem_append.mp hp with hp | hp
      · simp only [List.mem_cons, List.not_mem_nil, or_false] at hp
        rcases hp with rfl | rfl | rfl | rfl | rfl | rfl
        · exact List.mem_map.mpr ⟨_, hm (101, tabObj ps') (by simp), rfl⟩
        · exact List.mem_map.mpr ⟨_, hm (dw, od) (by simp), rfl⟩
        · exact List.mem_map.mpr ⟨_, hm (L + 1 + 1 + 1 + 1, ow2) (by simp), rfl⟩
        · exact List.mem_map.mpr ⟨_, hm (L + 1 + 1 + 1, opx) (by simp), rfl⟩
        · exact List.mem_map.mpr ⟨_, hm (L + 1 + 1, on) (by simp), rfl⟩
        · exact List.mem_map.mpr ⟨_, hm (L + 1, oh) (by simp), rfl⟩
      · exact List.mem_map.mpr ⟨_, hm p (List.mem_append_right _ hp), rfl⟩
    · rw [hfold]; exact hrel.put hv5
    · rw [hfold]; intro k hk
      rcases putA_keys k hk with e | e
      · rw [e]; exact hpartK
      · exact hWk k e
    · rw [hfold]
      exact Nat.le_trans putA_len (Nat.succ_le_succ hWl)
  · rintro h' tk l' news' tp F' N' ⟨od, opx, v0, kvsW, hm, hopx, hod, hrel, hWk, hWl⟩
    rw [hoI.length, List.take_length] at hrel hWk hWl
    have mW : (dw, od) ∈ news' := hm _ (by simp)
    have mw : (L + 1 + 1 + 1 + 1, ow2) ∈ news' := hm _ (by simp)
    have hkW : kvsW.length = (order.foldl (wStep D number) []).length := hrel.len
    have hol := hperm.length_eq
    refine st_setD (knd := intKind PR w) (k := 0) (P := IsI 0) (V := IsI (-(((order.foldl (wStep D number) []).map (·.2)).sum))) (Pu.cell hE.kind kw cw (FR.cell mw how2)) Pu.int
      (Pu.neg (Pu.callB (V := LV [IsVW dw]) (U := IsI ((order.foldl (wStep D number) []).map (·.2)).sum) (Pu.blt hE (FR.base G.base) ksm (g_sum w) b_sum) (.cons (Pu.meth0 F.plainAttrs_dict F.slot_dict_values F.type_dict_values (Pu.cell hE.kind kw cw (FR.cell mw how2)) (fun v n hv s x => by cases hv; exact ⟨(FR.dict mW hod _ x.1).typeIs, (FR.dict mW hod _ x.1).mapOf.noDict⟩) (fun v n hv => by cases hv; exact c_values (by intro h x; exact FR.dict mW hod h x.1) hlow)) .nil)
        fun vs n h => c_sumV hR'.hh (FR.dict mW hod) hrel h))
      (fun u n hu => by obtain ⟨t, rfl⟩ := hu; exact intKind_is PR w _ _) mW hod (by omega) F' N' tp fun v nw2' od2 h5 tk5 ht5 hv5 hod2 F5 N5 => ?_
    have N5' : News g L h5 ((101, tabObj ps') :: ([(dw, od2), (L + 1 + 1 + 1 + 1, ow2)] ++ more)) := fun p hp => N5 p (List.mem_append_right _ (by
      rcases List.mem_cons.mp hp with rfl | hp
      · exact mem_setL_ne (hm _ (by simp)) hw101
      · rcases List.mem_append.mp hp with hp | hp
        · simp only [List.mem_cons, List.not_mem_nil, or_false] at hp
          rcases hp with rfl | rfl
          · exact mem_setL (o0 := od) mW
          · exact mem_setL_ne mw (hwc (by simp) how2)
        · exact mem_setL_ne (hm p (List.mem_append_right _ hp)) (hmw p hp)))
    refine st_ret (Pu.cell hE.kind kw cw (FR.cell (news := (101, tabObj ps') :: ([(dw, od2), (L + 1 + 1 + 1 + 1, ow2)] ++ more)) (by simp) how2)) F5 N5' ht5 fun v nw6 h6 tk6 tp6 hv6 F6 N6 => ?_
    cases hv6
    have N6' : News g L h6 ((101, tabObj ps') :: ([(dw, od2), (L + 1 + 1 + 1 + 1, ow2)] ++ more)) := fun p hp => N6 p (List.mem_append_right _ hp)
    refine RetG.intro (nw := [(dw, od2)]) F6 N6' (hTab h6 F6.keep fun p hp => (N6' p (.tail _ (List.mem_append_right _ hp))).1) (fun p hp => ?_) ⟨order, hord, dw, od2, _, rfl, .head _, hod2, hlow, ?_⟩
    · rw [List.mem_singleton.mp hp]; exact ⟨by simp, Ne.symm hw101⟩
    · exact hrel.put hv5
end Mine
end
section
open PySem PySem.W PyProof.Rows PySem.Calls
open PySem.Builtin PySem.Builtin.Str
set_option Elab.async false
set_option linter.unusedVariables false
namespace Mine
section
variable {w : World} {A : Around} {env : Env} {g : Heap} {L : Addr} {l : List (PySem.Str × Value)} {news : Led} {s : Shared} {rest : List Stmt}

/-- for x1, x2 in .. -/
theorem for_coreT {R : Result → Shared → Prop} {x1 x2 : PySem.Str} {p1 p2 pt : Pos} {kt : Nat} {body : List Stmt} {I : Addr} {fp wr : List Addr} {n : Nat} {Pt : Nat → Array Value → Prop} {P : Nat → Value → Value → Prop} {St : Nat → Heap → Prop} {Mid : Nat → Addr → Heap → Prop}
    (hh : A.handled = none) (hE : EnvOk env L) (hx1 : env.kindOf x1 = some .local) (hx2 : env.kindOf x2 = some .local) (W : WalksU PR w A I fp wr n Pt St Mid) (hPt : ∀ i vals, Pt i vals → ∃ a b, vals = #[a, b] ∧ P i a b) (hLf : L ∉ fp) (hwr : ∀ b ∈ wr, g.get? b = none) (hnw : ∀ p ∈ news, p.1 ∉ wr) (hst : St 0 s.heap)
    (hlive : ∀ i h, St i h → ∀ b ∈ wr, ∃ o, h.get? b = some o) (F : Fr g L s.heap (lk l)) (N : News g L s.heap news) (ht : 0 < s.toks)
    (J : Nat → List (PySem.Str × Value) → Led → Prop) (h0 : J 0 l news)
    (step : ∀ i a b l₁ news₁ own s₁, i < n → P i a b → J i l₁ news₁ → (∀ p ∈ own, p.1 ∈ fp) → (∀ p ∈ news₁, p.1 ∉ wr) → Fr g L s₁.heap (lk ((x2, b) :: (x1, a) :: l₁)) → News g L s₁.heap (own ++ news₁) → 0 < s₁.toks → (∃ h tk, s₁ = { s with heap := h, toks := tk }) → St (i + 1) s₁.heap →
      wpAny (MD w) A (execs body env) (LE g L own news₁ (J (i + 1)) s₁ fun v s' => R (.ok (.ret v)) s') NE s₁)
    (hR : ∀ h' tk l' news', 0 < tk → Fr g L h' (lk l') → News g L h' news' → J n l' news' → R (.ok .next) { s with heap := h', toks := tk }) :
    codeAny (MD w) A (.forLoop (.Tuple [.Name x1 p1, .Name x2 p2] kt pt) (.ref I) body [] env) R s := by
  have hLw : L ∉ wr := fun h => hLf (W.sub _ h)
  have old : ∀ b o, g.get? b = some o → b ∉ wr := fun b o e hb => by rw [hwr b hb] at e; cases e
  have hp : (env.scope.kind == .class || (env.scope.kind == .module && env.locals != env.globals)) = false := by rw [hE.kind]; rfl
  refine codeAny_forLoop_any
    (fun k s' => ∃ h' tk l' news' i, s' = { s with heap := h', toks := tk } ∧ 0 < tk ∧ St i h' ∧ Fr g L h' (lk l') ∧ News g L h' news' ∧ (∀ p ∈ news', p.1 ∉ wr) ∧ J i l' news' ∧ i ≤ n ∧ k = n + 1 - i) ?_ (n + 1)
    ⟨s.heap, s.toks, l, news, 0, rfl, ht, hst, F, N, hnw, h0, Nat.zero_le _, rfl⟩
  rintro k s' ⟨h', tk, l', news', i, rfl, tp, hst', F', N', hnw', hJ, hi, rfl⟩
  have next : ∀ h₁ : Heap, (∀ b o, b ∉ wr → h'.get? b = some o → h₁.get? b = some o) → Fr g L h₁ (lk l') ∧ News g L h₁ news' := fun h₁ hk₁ =>
    ⟨⟨F'.ns.at' fun o e => hk₁ _ o hLw e, fun b o e => hk₁ b o (old b o e) (F'.keep b o e), F'.above⟩, fun p hp => ⟨hk₁ _ _ (hnw' p hp) (N' p hp).1, (N' p hp).2⟩⟩
  by_cases hlt : i < n
  · refine wpAny_with_toks (n := 1) tp (W.item i _ _ _ hlt hst' fun T vals h₁ tk₁ hPv hT hMd hk₁ tp₁ => ?_)
    refine W.go _ _ _ i T _ _ _ hMd fun h₂ hst₂ hk₂ => ?_
    obtain ⟨a, b, rfl, hP⟩ := hPt i vals hPv
    obtain ⟨F₂, N₂⟩ := next h₂ fun b o hb x => hk₂ b o hb (hk₁ b o hb x)
    have hT2 : h₂.IsTuple T #[a, b] := hT.at fun o e => hk₂ T o (W.apart i T _ hMd) e
    refine wpAny_assign_Tuple hh hT2 rfl rfl fun h₃ he₃ => ?_
    have st3 := stays_ext he₃
    show wpAny _ _ (do holding [b] (assign (.Name x1 p1) env a); assignInOrder [assign (.Name x2 p2) env] [b]) _ _ _
    have F₃ := fr_stays F₂ st3
    have N₃ := news_stays N₂ st3
    have hst₃ : St (i + 1) h₃ := W.frame _ _ _ hst₂ fun b _ o e => st3 b o e
    refine wpAny_bind (wpAny_holding (wpAny_assign_Name (wpAny_storeName_local hx1 (hE.loc ▸ F₃.ns) (fun h₄ hn₄ hs₄ => ?_) hp)))
    rw [hE.loc] at hn₄ hs₄
    rw [lk_cons] at hn₄
    have F₄ := F₃.set hn₄ hs₄
    have N₄ := News.set N₃ hs₄
    have hst₄ : St (i + 1) h₄ := W.frame _ _ _ hst₃ fun b hb o e => (hs₄.2 b fun q => hLf (q ▸ hb)).trans e
    show wpAny _ _ (do holding [] (assign (.Name x2 p2) env b); assignInOrder [] []) _ _ _
    refine wpAny_bind (wpAny_holding (wpAny_assign_Name (wpAny_storeName_local hx2 (hE.loc ▸ F₄.ns) (fun h₅ hn₅ hs₅ => ?_) hp)))
    rw [hE.loc] at hn₅ hs₅
    rw [lk_cons] at hn₅
    have F₅ := F₄.set hn₅ hs₅
    have N₅ := News.set N₄ hs₅
    have hst₅ : St (i + 1) h₅ := W.frame _ _ _ hst₄ fun b hb o e => (hs₅.2 b fun q => hLf (q ▸ hb)).trans e
    unfold assignInOrder
    refine wpAny_pure ?_
    have Nown : News g L h₅ (ownOf g fp h₅) := news_ownOf hLf
    refine wpAny_mono (step i a b l' news' (ownOf g fp h₅) { s with heap := h₅, toks := tk₁ + 1 + 1 } hlt hP hJ ownOf_sub hnw' F₅ (Nown.append N₅) (Nat.succ_pos _) ⟨_, _, rfl⟩ hst₅) (fun f s₃ h₃ => ?_) fun _ _ e => e.elim
    cases f with
    | ret v => exact h₃
    | brk => exact h₃.elim
    | cont => exact h₃.elim
    | next =>
      obtain ⟨h₃', tk₃, l₂, news₂, rfl, tp₃, F₃, N₃, ha₃, hJ₃⟩ := h₃
      refine ⟨n + 1 - (i + 1), by omega, h₃', tk₃, l₂, news₂, i + 1, rfl, tp₃, ?_, F₃, N₃.right, ?_, hJ₃, hlt, rfl⟩
      · refine W.frame _ _ _ hst₅ fun b hb o e₂ => ?_
        cases hn : g.get? b with
        | some o₀ =>
          have : o₀ = o := by have := F₅.keep b o₀ hn; rw [e₂] at this; exact (Option.some.inj this).symm
          exact this ▸ F₃.keep b o₀ hn
        | none => exact (N₃ _ (List.mem_append_left _ (mem_ownOf hb hn e₂))).1
      · intro p hp hb
        rcases ha₃ p hp with q | q | q
        · obtain ⟨p', hp', e⟩ := List.mem_map.mp q
          exact hnw' p' hp' (e ▸ hb)
        rotate_left
        · obtain ⟨o, ho⟩ := hlive _ _ hst₅ _ hb
          exact q _ (mem_ownOf (W.sub _ hb) (hwr _ hb) ho) rfl
        · obtain ⟨o, ho⟩ := hlive _ _ hst₅ _ hb
          rw [show ({ s with heap := h₅, toks := tk₁ + 1 + 1 } : Shared).heap = h₅ from rfl, ho] at q
          cases q
  · have hin : i = n := by omega
    subst hin
    refine wpAny_with_toks (n := 1) tp (W.done _ _ _ hst' fun h₁ tk₁ hk₁ tp₁ => wpAny_execs_nil ?_)
    obtain ⟨F₁, N₁⟩ := next h₁ hk₁
    exact hR h₁ tk₁ l' news' tp₁ F₁ N₁ hJ

theorem st_forRawT {target : Expr} {p : Pos} {iter : Expr} {body : List Stmt} {Q : Flow → Shared → Prop}
    (h : wpAny (MD w) A (eval iter env) (fun v s₁ => wpAny (MD w) A (pyIter v) (fun it s₂ => ∃ I, it = .ref I ∧ codeAny (MD w) A (.forLoop target (.ref I) body [] env)
        (fun r s' => match r with | .ok .next => wpAny (MD w) A (execs rest env) Q NE s' | .ok f => Q f s' | .error _ => False) s₂) NE s₁) NE s)
    (hs : ∀ x, foldedSetIterable iter env x = pure x := by intro _; rfl) :
    wpAny (MD w) A (execs (.For target iter body [] p :: rest) env) Q NE s := by
  refine wpAny_execs_cons (wpAny_For (wpAny_mono h (fun v s₁ h₁ => ?_) fun _ _ e => e) hs)
  refine wpAny_mono h₁ (fun it s₂ h₂ => ?_) fun _ _ e => e
  obtain ⟨I, rfl, hc⟩ := h₂
  refine codeAny_mono hc fun r s' hr => ?_
  cases r with
  | error e => exact hr.elim
  | ok f => cases f <;> exact hr

/-- a call of a type, by its arguments, in front of a loop -/
theorem ev_callT {x : PySem.Str} {T : String} {e : Expr} {es : List Expr} {p1 p : Pos} {V : List Value → Led → Prop} {Q : Value → Shared → Prop} (hn : Pu w A env (FR g L l news) (.Name x p1) (IsV (.type T))) (ha : PuL w A env (FR g L l news) (e :: es) V) (F : Fr g L s.heap (lk l)) (N : News g L s.heap news) (ht : 0 < s.toks)
    (k : ∀ vs n h' tk, 0 < tk → V vs n → Fr g L h' (lk l) → News g L h' (n ++ news) → wpAny (MD w) A (call (.type T) vs) Q NE { s with heap := h', toks := tk })
    (hs : backTo p (starEach (e :: es) env) = (e :: es).map fun e => (false, eval e env) := by rfl) : wpAny (MD w) A (eval (.Call (.Name x p1) (e :: es) [] p) env) Q NE s :=
  wpAny_Call_NameR (hn s _ ⟨F, N⟩ ht fun v n1 h1 tk1 tp1 st1 i1 new1 hv => by
    cases hv
    rw [hs]
    refine PyProof.Rows.callWith_type (by simp) (Calls.evalArgs_plain ?_)
    refine ha _ _ i1 tp1 fun vs n2 h2 tk2 tp2 st2 i2 new2 hvs => ?_
    exact k vs n2 h2 tk2 tp2 hvs i2.1 (news_new i1.1 i1.2 st2 new2))

/-- enumerate(xs) -/
theorem it_enum {x1 x2 : PySem.Str} {p1 p2 pt : Pos} {kt : Nat} {body : List Stmt} {a : Addr} {vs : List Value} {R : Result → Shared → Prop} (hh : A.handled = none) (hE : EnvOk env L) (hx1 : env.kindOf x1 = some .local) (hx2 : env.kindOf x2 = some .local)
    (hl : s.heap.IsList a vs.toArray) (haL : a ≠ L) (F : Fr g L s.heap (lk l)) (N : News g L s.heap news) (ht : 0 < s.toks)
    (J : Nat → List (PySem.Str × Value) → Led → Prop) (h0 : J 0 l news)
    (step : ∀ i t v l₁ news₁ own s₁, vs[i]? = some v → J i l₁ news₁ → (∀ p ∈ own, p.1 = a ∨ s.heap.objs.size ≤ p.1) → (∀ p ∈ own, ∀ us q t, p.2.data = .fields us → us[1]? ≠ some (.str q t)) → (∀ p ∈ news₁, p.1 ≠ s.heap.objs.size ∧ p.1 ≠ s.heap.objs.size + 1) → Fr g L s₁.heap (lk ((x2, v) :: (x1, .int i t) :: l₁)) → News g L s₁.heap (own ++ news₁) → 0 < s₁.toks → (∃ h tk, s₁ = { s with heap := h, toks := tk }) →
      wpAny (MD w) A (execs body env) (LE g L own news₁ (J (i + 1)) s₁ fun v s' => R (.ok (.ret v)) s') NE s₁)
    (hR : ∀ h' tk l' news', 0 < tk → Fr g L h' (lk l') → News g L h' news' → J vs.length l' news' → R (.ok .next) { s with heap := h', toks := tk }) :
    wpAny (MD w) A (call (.type "enumerate") [.ref a]) (fun v s₁ => wpAny (MD w) A (pyIter v) (fun it s₂ => ∃ I, it = .ref I ∧ codeAny (MD w) A (.forLoop (.Tuple [.Name x1 p1, .Name x2 p2] kt pt) (.ref I) body [] env) R s₂) NE s₁) NE s := by
  have hlt : a < s.heap.objs.size := by obtain ⟨o, ho, _⟩ := hl; exact Heap.lt_size ho
  have hLlt : L < s.heap.objs.size := F.ns.lt
  refine wpAny_with_toks (n := 1) ht (call_enumerate_list hl fun h' hEn hI hsz hk tp => wpAny_pyIter_enum hEn ⟨_, rfl, ?_⟩)
  have W := (WalksT.enumerate (prog := PR) (w := w) hh (s.heap.objs.size + 1) s.heap.objs.size a (Nat.succ_ne_self _) (Nat.ne_of_lt (Nat.lt_succ_of_lt hlt)) (Nat.ne_of_lt hlt) vs.toArray).toU
  simp only [List.size_toArray, List.getElem?_toArray] at W
  refine for_coreT hh hE hx1 hx2 W (P := fun i a b => ∃ t, a = .int i t ∧ vs[i]? = some b) ?_ ?_ ?_ ?_ ⟨⟨_, hEn⟩, hI, hl.at fun o e => hk _ o e⟩ ?_ (fr_stays F hk) (news_stays N hk) tp J h0 ?_ ?_
  · rintro i vals ⟨t, x, hx, rfl⟩; exact ⟨_, _, rfl, t, rfl, hx⟩
  · intro hm
    rcases List.mem_cons.mp hm with e | hm
    · exact absurd (Nat.lt_succ_of_lt hLlt) (e ▸ Nat.lt_irrefl _)
    · rcases List.mem_cons.mp hm with e | hm
      · exact absurd hLlt (e ▸ Nat.lt_irrefl _)
      · exact haL (List.mem_singleton.mp hm).symm
  · intro b hb
    have : s.heap.objs.size ≤ b := by
      rcases List.mem_cons.mp hb with e | hb
      · rw [e]; exact Nat.le_succ _
      · rw [List.mem_singleton.mp hb]; exact Nat.le_refl _
    exact get_none_back F.keep (size_none _ this)
  · intro p hp hI'
    have hlp := Heap.lt_size (N p hp).1
    rcases List.mem_cons.mp hI' with e | hb
    · exact absurd (Nat.lt_succ_of_lt hlp) (by rw [e]; exact Nat.lt_irrefl _)
    · exact absurd hlp (by rw [List.mem_singleton.mp hb]; exact Nat.lt_irrefl _)
  · rintro i h ⟨⟨old, he⟩, ⟨o, ho, _⟩, _⟩ b hb
    rcases List.mem_cons.mp hb with e | hb
    · rw [e]; exact ⟨_, he⟩
    · rw [List.mem_singleton.mp hb]; exact ⟨o, ho⟩
  · rintro i x y l₁ news₁ own s₁ hi ⟨t, rfl, hy⟩ hJ hown hnw F₁ N₁ ht₁ hs₁ ⟨⟨old, hst1⟩, ⟨oi, hoi, _, hdi⟩, ⟨ol, hol, _, nl, hdl⟩⟩
    refine step i t y l₁ news₁ own s₁ hy hJ (fun p hp => ?_) (fun p hp us q t hd hs => ?_) (fun p hp => ⟨fun e => hnw p hp (by rw [e]; exact .tail _ (.head _)), fun e => hnw p hp (by rw [e]; exact .head _)⟩) F₁ N₁ ht₁ (by obtain ⟨h, tk, e⟩ := hs₁; exact ⟨h, tk, e⟩)
    rcases List.mem_cons.mp (hown p hp) with q | q
    · exact .inr (by rw [q]; exact Nat.le_succ _)
    · rcases List.mem_cons.mp q with q | q
      · exact .inr (by rw [q]; exact Nat.le_refl _)
      · exact .inl (List.mem_singleton.mp q)
    · have hpg := (N₁ p (List.mem_append_left _ hp)).1
      rcases List.mem_cons.mp (hown p hp) with z | z
      · rw [z, hst1] at hpg
        rw [← Option.some.inj hpg] at hd
        injection hd with hd
        rw [← hd] at hs; cases hs
      · rcases List.mem_cons.mp z with z | z
        · rw [z, hoi] at hpg
          rw [← Option.some.inj hpg, hdi] at hd
          injection hd with hd
          rw [← hd] at hs; cases hs
        · rw [List.mem_singleton.mp z, hol] at hpg
          rw [← Option.some.inj hpg, hdl] at hd
          cases hd
  · intro h' tk l' news' tp F' N' hJ
    exact hR h' tk l' news' tp F' N' hJ
end
end Mine
end
section
open PySem PySem.W PyProof.Rows PySem.Calls
open PySem.Builtin PySem.Builtin.Str
set_option Elab.async false
set_option linter.unusedVariables false
namespace Mine
def longerT (D : List (Int × PySem.Str)) (name : PySem.Str) (p : Int) : PySem.Str := if p == 0 then name else Txt.strip (name ++ S " " ++ textAt D p)
def inStep (D : List (Int × PySem.Str)) (N : List (PySem.Str × Int)) (W : List (Int × Int)) (name : PySem.Str) (G : List (PySem.Str × Int)) (q : Int × Int) : List (PySem.Str × Int) :=
  putA G (longerT D name q.1) ((getA G (longerT D name q.1)).getD 0 + (getA N name).getD 0 * (getA W q.1).getD 0)
def grownOf (D : List (Int × PySem.Str)) (N : List (PySem.Str × Int)) (W : List (Int × Int)) : List (PySem.Str × Int) := N.foldl (fun G e => W.foldl (inStep D N W e.1) G) []
def tweak (W : List (Int × Int)) (b : Bool) : List (Int × Int) := if b then putA W 0 ((getA W 0).getD 0 + 1) else W
def numStep (D : List (Int × PySem.Str)) (st : Option Int × List (PySem.Str × Int)) (x : Int × List Int) : Option Int × List (PySem.Str × Int) := (some x.1, grownOf D st.2 (tweak (weightsBy D x.1 x.2) (st.1 == some x.1)))
def numbersBy (D : List (Int × PySem.Str)) (xs : List (Int × List Int)) : List (PySem.Str × Int) := (xs.foldl (numStep D) (none, [(S "", 1)])).2
/-- numbers, with some order for each letter -/
structure NumWay (D : List (Int × PySem.Str)) (word : List Int) (xs : List (Int × List Int)) : Prop where
  word : xs.map (·.1) = word
  ok : ∀ x ∈ xs, OrderOk D x.1 x.2

theorem getA_put {K β : Type} [DecidableEq K] {D : List (K × β)} {k : K} {b : β} : getA (putA D k b) k = some b := by
  unfold putA
  split
  · rename_i h
    unfold getA
    induction D with
    | nil => cases h
    | cons p r ih =>
      rw [List.map_cons, List.find?_cons]
      by_cases e : p.1 = k
      · simp [e]
      · simp only [e, if_false, decide_false]
        simp only [List.any_cons, e, decide_false, Bool.false_or] at h
        exact ih h
  · rename_i h
    unfold getA
    rw [List.find?_append]
    have : D.find? (fun p => p.1 = k) = none := by
      rw [List.find?_eq_none]
      intro p hp q
      exact h (List.any_eq_true.mpr ⟨p, hp, q⟩)
    rw [this]; simp
theorem bits_small {a : Int} (h : a.natAbs ≤ 100000) : Builtin.Int.intBits a ≤ 64 := by
  unfold Builtin.Int.intBits
  split
  · omega
  · rename_i h0
    have h1 : a.natAbs ≠ 0 := by simpa using h0
    have : a.natAbs.log2 < 20 := (Nat.log2_lt h1).mpr (by omega)
    omega

section
variable {w : World} {A : Around} {env : Env} {I : HP} {g : Heap} {L : Addr} {l : List (PySem.Str × Value)} {news : Led} {s : Shared} {Q : Flow → Shared → Prop} {rest : List Stmt}
theorem c_strip {x : PySem.Str} {v : Value} {n : Led} (h : IsS x v n) (hz : x.length ≤ sizeLine) : Tr w A I (call (.builtin "str.strip") [v]) (fun r nu => IsS (Txt.strip x) r (nu ++ n)) := by
  obtain ⟨t, rfl⟩ := h
  exact .mk fun _ _ _ _ k => SC.strip (fun t' k' => k _ [] _ _ (stays_refl _) .nil ⟨_, rfl⟩) hz
theorem c_get2 {K : Type} [DecidableEq K] {knd : KeyKind PR w K} {kvs : List (K × Value)} {W : List (K × Int)} {d : Addr} {k : K} {vs : List Value} {P : Value → Led → Prop} {j : Int} {m n : Led} (hd : ∀ h, I.on h → h.DictOf knd d kvs) (hds : (d == sysModules) = false) (hr : Rel RInt kvs W) (hP : ∀ u n, P u n → knd.is k u = true) (h : LV [P, IsI j] vs m) :
    Tr w A I (call (.builtin "dict.get") (.ref d :: vs)) (fun r nu => IsI ((getA W k).getD j) r (nu ++ n)) := by
  obtain ⟨a, b, rfl, ⟨m1, _, u1⟩, u2⟩ := LV2 h
  obtain ⟨t, rfl⟩ := u2.i
  refine .mk fun s Q hI _ kk => call_meetsIn F.slot_dict_get (hd _ hI).typeIs F.entry_dict_get (F.args_dict_get_3 _ _ _) (meets_dict_get_default knd d (hP _ _ u1) hds _) ⟨_, (hd _ hI).mapOf, ?_⟩
  show Q ((valueAt kvs k).getD (.int j t)) _
  cases e : getA W k with
  | none => rw [hr.none e]; rw [e] at kk; exact kk _ [] _ _ (stays_refl _) .nil ⟨_, rfl⟩
  | some b =>
    obtain ⟨v, hv, tv, rfl⟩ := hr.get e
    rw [hv]; rw [e] at kk; exact kk _ [] _ _ (stays_refl _) .nil ⟨_, rfl⟩

/-- {"": 1} -/
theorem Pu.dict1 {x : PySem.Str} {i : Int} {k1 k2 : Nat} {q1 q2 p : Pos} (hB : ∀ h, I.on h → Base w h) : Pu w A env I (.Dict [some (.Constant (.str x) k1 q1)] [.Constant (.int i) k2 q2] p) (fun v nw => ∃ a o kvs, v = .ref a ∧ nw = [(a, o)] ∧ (a == sysModules) = false ∧ o.IsDictOf (strKind PR w) kvs ∧ Rel RInt kvs [(x, i)]) :=
  .mk fun s Q hI ht k => by
    have hn := Heap.DictOf.new (knd := strKind PR w) s.heap
    refine wpAny_Dict_walk (knd := strKind PR w) rfl rfl (by simp) (by simp) (pairTrees_cons_walk (Calls.Constant_str ?_))
    refine (Pu.int (I := HP.true)) _ _ trivial (Nat.succ_pos _) fun v nw h1 tk1 tp1 st1 _ new1 hv => pairTrees_nil_walk ?_
    obtain ⟨t, rfl⟩ := hv
    refine display_done_str rfl (by simp [strPairs]) (hn.keep st1) fun h' hd hs => ?_
    obtain ⟨o, ho, hdo⟩ := Heap.dictOf_iff.mp hd
    have st : s.heap.StaysIn h' := fun b o e => (hs.2 b (Nat.ne_of_lt (Heap.lt_size e))).trans (st1 b o (Heap.get?_push_of_some _ e))
    refine k _ [(s.heap.objs.size, o)] h' _ st (.one ho (size_none _ (Nat.le_refl _))) ⟨_, o, _, rfl, rfl, beq_eq_false_iff_ne.mpr (Nat.ne_of_gt (hB _ hI).low), hdo, ?_⟩
    exact .cons ⟨t, rfl⟩ .nil

theorem tab_more {h : Heap} {m : PySem.Str → Option Value} {ps : Array Value} (F : Fr g L h m) (e : h.get? 101 = some (tabObj ps)) (hT : TabP h ps) :
    ∃ more : Led, News g L h more ∧ (∀ p ∈ more, p.1 ≠ 101 ∧ ∃ vs q t, p.2.data = .fields vs ∧ vs[1]? = some (.str q t)) ∧ ∀ h2, g.StaysIn h2 → (∀ p ∈ more, h2.get? p.1 = some p.2) → TabP h2 ps := by
  rcases hT with rfl | ⟨c', rfl, c, o, vs, t, e1, e2, e3, e4⟩
  · exact ⟨[], fun p hp => (nomatch hp), fun p hp => (nomatch hp), fun _ _ _ => .inl rfl⟩
  · have hc101 : c ≠ 101 := fun q => by
      rw [q, e] at e2
      have := Option.some.inj e2
      rw [← this] at e3
      injection e3 with e3
      rw [← e3] at e4
      cases e4
    cases q : g.get? c with
    | some o' =>
      have := F.keep c o' q
      rw [e2] at this; cases this
      exact ⟨[], fun p hp => (nomatch hp), fun p hp => (nomatch hp), fun h2 st _ => .inr ⟨c', rfl, c, o, vs, t, e1, st _ _ q, e3, e4⟩⟩
    | none =>
      refine ⟨[(c, o)], fun p hp => ?_, fun p hp => ?_, fun h2 _ hm => .inr ⟨c', rfl, c, o, vs, t, e1, hm _ (.head _), e3, e4⟩⟩
      · rw [List.mem_singleton.mp hp]
        refine ⟨e2, fun z => ?_, q⟩
        obtain ⟨oL, _, _, hL, hd, _⟩ := F.ns
        rw [show c = L from z, hL] at e2
        have := Option.some.inj e2
        rw [← this, hd] at e3; cases e3
      · rw [List.mem_singleton.mp hp]; exact ⟨hc101, vs, _, t, e3, e4⟩
end
end Mine
end
section
open PySem PySem.W PyProof.Rows PySem.Calls
open PySem.Builtin PySem.Builtin.Str
set_option Elab.async false
set_option linter.unusedVariables false
namespace Mine
theorem mem_putA {K β : Type} [DecidableEq K] {D : List (K × β)} {k : K} {b : β} : ∀ x ∈ putA D k b, x = (k, b) ∨ x ∈ D := by
  intro x hx
  unfold putA at hx
  split at hx
  · obtain ⟨p, hp, rfl⟩ := List.mem_map.mp hx
    split
    · rename_i h; left; rw [← h]
    · exact .inr hp
  · rcases List.mem_append.mp hx with h | h
    · exact .inr h
    · exact .inl (List.mem_singleton.mp h)
theorem getA_mem {K β : Type} [DecidableEq K] {D : List (K × β)} {k : K} {b : β} (h : getA D k = some b) : (k, b) ∈ D := by
  unfold getA at h
  cases q : D.find? (fun p => p.1 = k) with
  | none => rw [q] at h; cases h
  | some p =>
    rw [q] at h; cases h
    have h1 := List.mem_of_find?_eq_some q
    have h2 := List.find?_some q
    have : p.1 = k := by simpa using h2
    rw [← this]; exact h1
theorem fold_len {K β γ : Type} [DecidableEq K] {f : List (K × β) → γ → List (K × β)} (hf : ∀ G x, (f G x).length ≤ G.length + 1) : ∀ (xs : List γ) (G : List (K × β)), (xs.foldl f G).length ≤ G.length + xs.length
  | [], G => by simp
  | x :: r, G => by
    rw [List.foldl_cons, List.length_cons]
    have := fold_len hf r (f G x)
    have := hf G x
    omega
theorem wfold_keys {D : List (Int × PySem.Str)} {number : Int} : ∀ (o : List Int) (W : List (Int × Int)), ∀ x ∈ (o.foldl (wStep D number) W).map (·.1), x ∈ o ∨ x ∈ W.map (·.1)
  | [], W, x, h => .inr h
  | p :: r, W, x, h => by
    rw [List.foldl_cons] at h
    rcases wfold_keys r _ x h with q | q
    · exact .inl (.tail _ q)
    · rcases putA_keys x q with e | e
      · exact .inl (by rw [e]; exact .head _)
      · exact .inr e
theorem weights_keys {D : List (Int × PySem.Str)} {number : Int} {o : List Int} (ho : OrderOk D number o) : ∀ x ∈ (weightsBy D number o).map (·.1), x = 0 ∨ x ∈ D.map (·.1) := by
  intro x hx
  rcases putA_keys x hx with e | e
  · exact .inl e
  · rcases wfold_keys o [] x e with q | q
    · exact .inr ((List.mem_filter.mp (ho.perm.mem_iff.mp q)).1)
    · cases q
theorem weights_len {D : List (Int × PySem.Str)} {number : Int} {o : List Int} (ho : OrderOk D number o) (hD : D.length ≤ 48) : (weightsBy D number o).length ≤ 49 := by
  have h1 := putA_len (D := o.foldl (wStep D number) []) (k := (0 : Int)) (b := -(((o.foldl (wStep D number) []).map (·.2)).sum))
  have h2 := fold_len (f := wStep D number) (fun G x => putA_len) o []
  have h3 := ho.perm.length_eq
  have h4 := List.length_filter_le (fun p => standsIn D p number) (D.map (·.1))
  rw [List.length_map] at h4
  have h5 : (partsOf D number).length ≤ D.length := h4
  simp only [List.length_nil] at h2
  unfold weightsBy
  omega
theorem tweak_len {W : List (Int × Int)} {b : Bool} : (tweak W b).length ≤ W.length + 1 := by
  unfold tweak; split
  · exact putA_len
  · omega
theorem tweak_keys {W : List (Int × Int)} {b : Bool} : ∀ x ∈ (tweak W b).map (·.1), x = 0 ∨ x ∈ W.map (·.1) := by
  intro x hx
  unfold tweak at hx; split at hx
  · exact putA_keys x hx
  · exact .inr hx
theorem tweak_small {W : List (Int × Int)} {b : Bool} (hW : ∀ x ∈ W, x.2.natAbs ≤ 1000) (q : Int) : ((getA (tweak W b) q).getD 0).natAbs ≤ 100000 := by
  have base : ∀ q, ((getA W q).getD 0).natAbs ≤ 1000 := fun q => by
    cases e : getA W q with
    | none => simp
    | some v => exact hW _ (getA_mem e)
  have h0 := base 0
  cases e : getA (tweak W b) q with
  | none => simp
  | some v =>
    have hm := getA_mem e
    show v.natAbs ≤ 100000
    unfold tweak at hm; split at hm
    · rcases mem_putA _ hm with h | h
      · cases h; omega
      · have := hW _ h; simp only at this; omega
    · have := hW _ hm; simp only at this; omega
theorem num_last {D : List (Int × PySem.Str)} : ∀ (xs : List (Int × List Int)) (st : Option Int × List (PySem.Str × Int)), (xs.foldl (numStep D) st).1 = match xs.getLast? with | some x => some x.1 | none => st.1
  | [], st => rfl
  | [x], st => rfl
  | x :: y :: r, st => by rw [List.foldl_cons, num_last (y :: r) (numStep D st x), List.getLast?_cons_cons]; cases h : (y :: r).getLast? with | none => simp at h | some z => rfl

/-- what the walk of `_law_numbers` leans on -/
structure NumOk (D : List (Int × PySem.Str)) (word : List Int) : Prop where
  keys : ∀ n ∈ word, n ∈ D.map (·.1)
  wt : ∀ n ∈ word, ∀ o, OrderOk D n o → ∀ x ∈ weightsBy D n o, x.2.natAbs ≤ 1000
  num : ∀ xs, xs.map (·.1) <+: word → (∀ x ∈ xs, OrderOk D x.1 x.2) → (numbersBy D xs).length ≤ 1000 ∧ ∀ e ∈ numbersBy D xs, e.1.length ≤ 1000

section
variable {w : World} {A : Around} {env : Env} {g : Heap} {L : Addr} {l : List (PySem.Str × Value)} {news : Led} {s : Shared} {Q : Flow → Shared → Prop} {rest : List Stmt}
/-- an assignment, the new objects being new -/
theorem st_assignN {x : PySem.Str} {e : Expr} {p1 p2 : Pos} {V : Value → Led → Prop} (hE : EnvOk env L) (hx : env.kindOf x = some .local) (hp : Pu w A env (FR g L l news) e V)
    (F : Fr g L s.heap (lk l)) (N : News g L s.heap news) (ht : 0 < s.toks)
    (k : ∀ v nw h' tk, 0 < tk → V v nw → (∀ p ∈ nw, ∀ q ∈ news, q.1 ≠ p.1) → Fr g L h' (lk ((x, v) :: l)) → News g L h' (nw ++ news) → wpAny (MD w) A (execs rest env) Q NE { s with heap := h', toks := tk })
    (hsw : swapsWith e (some (.Name x p1)) p2.line env = pure false := by rfl) : wpAny (MD w) A (execs (.Assign [.Name x p1] e p2 :: rest) env) Q NE s := by
  refine wpAny_execs_cons (wpAny_Assign_Name (hp s _ ⟨F, N⟩ ht fun v nw h1 tk1 tp1 st1 i1 n1 hv => ?_) hsw)
  refine wpAny_storeName_local hx (hE.loc ▸ i1.1.ns) (fun h2 hn2 hs2 => ?_) (by rw [hE.kind]; rfl)
  rw [hE.loc] at hn2 hs2
  rw [lk_cons] at hn2
  refine k v nw h2 _ (Nat.succ_pos _) hv (fun p hp q hq z => ?_) (i1.1.set hn2 hs2) (News.set (news_new F N st1 n1) hs2)
  have e1 := (n1 p hp).2
  rw [← z, (N q hq).1] at e1; cases e1
end
theorem g_enum (w : World) : nsIn (KK w) mainGlobals (S "enumerate") = some none := by kernel_rfl
theorem g_wt (w : World) : nsIn (KK w) mainGlobals (S "_law_weights") = some (some (.ref 104)) := by kernel_rfl
theorem k_wt (w : World) : keepIn (KK w) (.ref 104) = true := by kernel_rfl
theorem g_eof (w : World) : nsIn (KK w) mainGlobals (S "ISEOF") = some (some (.ref 31)) := by kernel_rfl
theorem k_eof (w : World) : keepIn (KK w) (.ref 31) = true := by kernel_rfl
theorem b_enum : bootBuiltins (S "enumerate") = some (.type "enumerate") := PyProof.Rows.boot_enumerate
end Mine
end
section
open PySem PySem.W PyProof.Rows PySem.Calls
open PySem.Builtin PySem.Builtin.Str
set_option Elab.async false
set_option linter.unusedVariables false
namespace Mine
set_option maxRecDepth 100000 in
set_option maxHeartbeats 16000000 in
theorem numbers_call {w : World} {A : Around} {g0 : Heap} {d wl : Addr} {kvs : List (Int × Value)} {D : List (Int × PySem.Str)} {wv : List Value} {word : List Int} (hG : GBase w g0) (hR : Rm A 3) (hD : D.length ≤ 48) (hlen : ∀ n ∈ D.map (·.1), (textAt D n).length ≤ 1000) (h0D : (0 : Int) ∉ D.map (·.1)) (hwI : IntsAre wv word) (hw50 : word.length ≤ 50) (hOk : NumOk D word) :
    TrG w A g0 (fun h => HandIn w h d kvs D ∧ h.IsList wl wv.toArray) (call (.ref 111) [.ref d, .ref wl]) (fun v nw => ∃ xs, NumWay D word xs ∧ IsD (strKind PR w) RInt (numbersBy D xs) v nw) := by
  have hz : sizeLine = 16777216 := sizeLine_eq
  refine' TrG.fn (binds := [(S "hand", .ref d), (S "word", .ref wl)]) hG (hR.less (by decide)) ?ho ?hcd ?hbind ?hkind ?hnd ?h ?c2 ?c3 ?c4
  case ho => with_unfolding_all rfl
  case hcd => kernel_rfl
  case hbind => rfl
  case hkind =>
    intro L x hx
    rcases List.mem_cons.mp hx with rfl | hx
    · exact .inl rfl
    · rw [List.mem_singleton.mp hx]; exact .inl rfl
  case hnd => decide +kernel
  case c2 => rfl
  case c3 => rfl
  case c4 => rfl
  intro s g L cells ps hPre G hTP CA F0 N0 hc101 ht0
  obtain ⟨hH, hWL⟩ := hPre
  cases CA
  have F0' : Fr g L s.heap (lk [(S "word", .ref wl), (S "hand", .ref d)]) := by
    refine Eq.mp (congrArg (Fr g L s.heap) ?_) F0
    refine (bindL_loc (by rfl)).trans ((bindL_loc (by rfl)).trans ?_)
    rw [← lk_cons, ← lk_cons]; rfl
  clear F0 hc101
  generalize hEnv : callEnvC _ L 111 = env
  have hE : EnvOk env L := by subst hEnv; exact ⟨rfl, rfl, rfl, rfl⟩
  have kh : env.kindOf (S "hand") = some .local := by subst hEnv; rfl
  have kwd : env.kindOf (S "word") = some .local := by subst hEnv; rfl
  have knm : env.kindOf (S "numbers") = some .local := by subst hEnv; rfl
  have kpl : env.kindOf (S "place") = some .local := by subst hEnv; rfl
  have kn : env.kindOf (S "number") = some .local := by subst hEnv; rfl
  have kw : env.kindOf (S "weights") = some .local := by subst hEnv; rfl
  have kg : env.kindOf (S "grown") = some .local := by subst hEnv; rfl
  have kna : env.kindOf (S "name") = some .local := by subst hEnv; rfl
  have kp : env.kindOf (S "part") = some .local := by subst hEnv; rfl
  have klo : env.kindOf (S "longer") = some .local := by subst hEnv; rfl
  have ke : env.kindOf (S "enumerate") = some .globalImplicit := by subst hEnv; rfl
  have kwt : env.kindOf (S "_law_weights") = some .globalImplicit := by subst hEnv; rfl
  have kf : env.kindOf (S "ISEOF") = some .globalImplicit := by subst hEnv; rfl
  have hR' : Rm (A.deeper env) 2 := hR.deeper
  generalize hA' : A.deeper env = A' at hR' ⊢
  have hwlL : wl ≠ L := by
    obtain ⟨o, ho, _⟩ := hWL
    exact Nat.ne_of_lt (Nat.lt_of_lt_of_le (Heap.lt_size ho) F0'.above)
  have hwl101 : wl ≠ 101 := by
    rintro rfl
    obtain ⟨o, ho, _⟩ := hWL
    rw [G.none] at ho; cases ho
  refine st_assignN hE knm (Pu.dict1 (FR.base G.base)) F0' N0 ht0 fun v nw h1 tk1 ht1 hv hfr F1 N1 => ?_
  obtain ⟨dn, on, kvsN, rfl, rfl, hlown, hon, hrelN⟩ := hv
  have hdn101 : dn ≠ 101 := fun e => hfr _ (.head _) _ (.head _) e.symm
  have N1' : News g L h1 ((101, tabObj ps) :: [(dn, on)]) := fun p hp => N1 p (by
    rcases List.mem_cons.mp hp with rfl | hp
    · exact .tail _ (.head _)
    · rw [List.mem_singleton.mp hp]; exact .head _)
  refine st_forRawT (ev_callT (V := LV [IsV (.ref wl)]) (Pu.blt hE (FR.base G.base) ke (g_enum w) b_enum) (.cons (Pu.loc hE (lk_ne lk_eq) kwd) .nil) F1 N1' ht1 fun vs n h2 tk2 ht2 hvs F2 N2 => ?_)
  obtain ⟨_, rfl, u⟩ := LV1 hvs; obtain rfl := u.v
  have N2' : News g L h2 ((101, tabObj ps) :: [(dn, on)]) := fun p hp => N2 p (List.mem_append_right _ hp)
  have h101sz : 101 < h2.objs.size := Heap.lt_size (N2' _ (.head _)).1
  refine it_enum hR'.hh hE kpl kn (hWL.at fun o e => F2.keep _ _ e) hwlL F2 N2' ht2
    (fun i l₁ news₁ => ∃ ps more dn on kvsN xs, news₁ = (101, tabObj ps) :: (dn, on) :: more ∧ dn ≠ 101 ∧ (∀ p ∈ more, p.1 ≠ 101 ∧ ∃ vs q t, p.2.data = .fields vs ∧ vs[1]? = some (.str q t)) ∧ (∀ h, g.StaysIn h → (∀ p ∈ more, h.get? p.1 = some p.2) → TabP h ps) ∧
      (dn == sysModules) = false ∧ on.IsDictOf (strKind PR w) kvsN ∧ Rel RInt kvsN (numbersBy D xs) ∧ xs.map (·.1) = word.take i ∧ (∀ x ∈ xs, OrderOk D x.1 x.2) ∧
      lk l₁ (S "hand") = some (.ref d) ∧ lk l₁ (S "word") = some (.ref wl) ∧ lk l₁ (S "numbers") = some (.ref dn))
    ⟨ps, [], dn, on, kvsN, [], rfl, hdn101, fun p hp => (nomatch hp), fun h st _ => hTP.keeps st, hlown, hon, hrelN, by simp, fun x hx => (nomatch hx), rfl, rfl, rfl⟩ ?_ ?_
  · rintro i ti v l₁ news₁ own s₁ hi ⟨ps1, more1, dn, on, kvsN, xs, rfl, hdn101, hmore1, htab1, hlown, hon, hrelN, hxw, hxo, hlh, hlw, hln⟩ hown hownobj hnw F₁ N₁ ht₁ ⟨hh₁, tkk, rfl⟩
    obtain ⟨number, tn, rfl, hnum⟩ := hwI.at i v hi
    have hnk : number ∈ D.map (·.1) := hOk.keys _ (List.mem_of_getElem? hnum)
    have hi50 : i < 50 := Nat.lt_of_lt_of_le (List.getElem?_eq_some_iff.mp hnum).1 hw50
    have hown101 : ∀ p ∈ own, p.1 ≠ 101 := fun p hp => (hown p hp).elim (fun e => e ▸ hwl101) (fun e z => by rw [z] at e; exact absurd h101sz (Nat.not_lt.mpr e))
    have hne1 : ∀ p ∈ own ++ (dn, on) :: more1, p.1 ≠ 101 := fun p hp => by
      rcases List.mem_append.mp hp with hp | hp
      · exact hown101 p hp
      · rcases List.mem_cons.mp hp with rfl | hp
        · exact hdn101
        · exact (hmore1 p hp).1
    have N1 : News g L hh₁ ((101, tabObj ps1) :: (own ++ (dn, on) :: more1)) := fun p hp => by
      rcases List.mem_cons.mp hp with rfl | hp
      · exact N₁ _ (List.mem_append_right _ (.head _))
      · rcases List.mem_append.mp hp with hp | hp
        · exact N₁ _ (List.mem_append_left _ hp)
        · exact N₁ _ (List.mem_append_right _ (.tail _ hp))
    refine st_assignG (V := LV [IsV (.ref d), IsV (.int number tn)]) (Pre := fun _ _ h => HandIn w h d kvs D) (U := fun v nw => ∃ order, OrderOk D number order ∧ IsD (intKind PR w) RInt (weightsBy D number order) v nw) hE kw G (k_wt w) (Pu.glob hE (FR.base G.base) kwt (g_wt w))
      (.cons (Pu.loc hE (lk_ne (lk_ne hlh)) kh) (.cons (Pu.loc hE lk_eq kn) .nil)) (fun vs n hvs => by
        obtain ⟨a, b, rfl, u1, u2⟩ := LV2 hvs
        obtain rfl := u1.v; obtain rfl := u2.v
        exact weights_call G hR' hD hlen hnk) (fun vs n h _ F _ _ => hH.keep (gh_stays F.keep G.none)) hne1 F₁ N1 (htab1 _ F₁.keep fun p hp => (N1 _ (.tail _ (List.mem_append_right _ (.tail _ hp)))).1) ht₁
      fun v nw vs n ps2 h3 tk3 ht3 _ hu hT3 hne3 hfresh F3 N3 => ?_
    obtain ⟨order, hord, dw, ow, kvsW, rfl, hmw, how, hloww, hrelW⟩ := hu
    obtain ⟨more2, Nm2, hmore2, htab2⟩ := tab_more F3 (N3 _ (.head _)).1 hT3
    have hdict : ∀ {K : Type} [DecidableEq K] {knd : KeyKind PR w K} {o : Obj} {kvs : List (K × Value)}, o.IsDictOf knd kvs → ∃ es ep, o.data = .dict es ep := fun ⟨es, ep, _, e, _⟩ => ⟨es, ep, e⟩
    -- what stands, but for the weights
    have hdw1 : ∀ p ∈ own ++ (dn, on) :: more1, p.1 ≠ dw := fun p hp => hfresh _ hmw p (List.mem_append_right _ hp)
    have hdw101 : (101 : Addr) ≠ dw := Ne.symm (hne3 _ (List.mem_append_left _ hmw))
    have N3' : News g L h3 ((dw, ow) :: ((101, tabObj ps2) :: (own ++ (dn, on) :: more2))) := fun p hp => by
      rcases List.mem_cons.mp hp with rfl | hp
      · exact N3 _ (.tail _ (List.mem_append_left _ hmw))
      · rcases List.mem_cons.mp hp with rfl | hp
        · exact N3 _ (.head _)
        · rcases List.mem_append.mp hp with hp | hp
          · exact N3 _ (.tail _ (List.mem_append_right _ (List.mem_append_right _ (List.mem_append_left _ hp))))
          · rcases List.mem_cons.mp hp with rfl | hp
            · exact N3 _ (.tail _ (List.mem_append_right _ (List.mem_append_right _ (List.mem_append_right _ (.head _)))))
            · exact Nm2 p hp
    have hT2w : ∀ p ∈ (101, tabObj ps2) :: (own ++ (dn, on) :: more2), p.1 ≠ dw := by
      intro p hp
      rcases List.mem_cons.mp hp with rfl | hp
      · exact hdw101
      · rcases List.mem_append.mp hp with hp | hp
        · exact hdw1 p (List.mem_append_left _ hp)
        · rcases List.mem_cons.mp hp with rfl | hp
          · exact hdw1 (dn, on) (List.mem_append_right _ (.head _))
          · refine news_ne (a := p.1) (o := p.2) N3' (.tail _ (.tail _ (List.mem_append_right _ (.tail _ hp)))) (.head _) fun e => ?_
            obtain ⟨vs, _, _, hv, _⟩ := (hmore2 p hp).2
            obtain ⟨es, ep, hd⟩ := hdict how
            rw [e, hd] at hv; cases hv
    clear N3 Nm2 N1 N₁ F₁
    generalize hT2 : (101, tabObj ps2) :: (own ++ (dn, on) :: more2) = T2 at N3' hT2w
    have mdn : (dn, on) ∈ T2 := by rw [← hT2]; exact .tail _ (List.mem_append_right _ (.head _))
    have hWl := weights_len hord hD
    have hkvW : kvsW.length = (weightsBy D number order).length := hrelW.len
    -- the letter ahead
    have hprev : (xs.foldl (numStep D) (none, [(S "", 1)])).1 = if 0 < i then some (word.getD (i - 1) 0) else none := by
      rw [num_last]
      have hxl : xs.length = i := by
        have := congrArg List.length hxw
        rw [List.length_map, List.length_take] at this
        have := (List.getElem?_eq_some_iff.mp hnum).1
        omega
      by_cases h0 : 0 < i
      · rw [if_pos h0]
        have hne : xs ≠ [] := by intro e; rw [e] at hxl; simp at hxl; omega
        rw [List.getLast?_eq_some_getLast hne]
        have e1 : (xs.map (·.1)).getLast? = some (xs.getLast hne).1 := by rw [List.getLast?_map, List.getLast?_eq_some_getLast hne]; rfl
        rw [hxw, List.getLast?_eq_getElem?, List.length_take] at e1
        have hlt := (List.getElem?_eq_some_iff.mp hnum).1
        rw [Nat.min_eq_left (by omega), List.getElem?_take_of_lt (by omega)] at e1
        show some (xs.getLast hne).1 = _
        rw [List.getD_eq_getElem?_getD, e1]; rfl
      · rw [if_neg h0]
        have : xs = [] := List.length_eq_zero_iff.mp (by omega)
        rw [this]; rfl
    generalize hb : ((xs.foldl (numStep D) (none, [(S "", 1)])).1 == some number) = b
    have hcond : (decide ((i : Int) > 0) && (word.getD (i - 1) 0 == number)) = b := by
      rw [← hb, hprev]
      by_cases h0 : 0 < i
      · rw [if_pos h0, decide_eq_true (by omega : (i : Int) > 0), Bool.true_and]
        rw [Bool.eq_iff_iff]; simp
      · rw [if_neg h0, decide_eq_false (by omega : ¬ (i : Int) > 0)]; rfl
    have hnext : numbersBy D (xs ++ [(number, order)]) = grownOf D (numbersBy D xs) (tweak (weightsBy D number order) b) := by
      unfold numbersBy
      rw [List.foldl_append, ← hb]
      rfl
    refine st_if_join (c := decide ((i : Int) > 0) && (word.getD (i - 1) 0 == number)) (fun s' => ∃ h' tk ow' kvsW', s' = { ({ s with heap := h3, toks := tk3 } : Shared) with heap := h', toks := tk } ∧ 0 < tk ∧ Fr g L h' (lk ((S "weights", .ref dw) :: (S "number", .int number tn) :: (S "place", .int i ti) :: l₁)) ∧ News g L h' ((dw, ow') :: T2) ∧
        ow'.IsDictOf (intKind PR w) kvsW' ∧ Rel RInt kvsW' (tweak (weightsBy D number order) b))
      (Te.and2 (Te.cmp (Pu.loc hE (lk_ne (lk_ne lk_eq)) kpl).asI Pu.int fun _ _ _ _ ha hb => op_gtI ha hb) (fun hpos => ?_)) F3 N3' ht3 (fun h4 tk4 ht4 F4 N4 => ?_) (fun s' hs' => ?_)
    · have h0 : 0 < i := by
        have := of_decide_eq_true hpos; omega
      have hlt := (List.getElem?_eq_some_iff.mp hnum).1
      have hg : word[i - 1]? = some (word.getD (i - 1) 0) := by rw [List.getD_eq_getElem?_getD, List.getElem?_eq_getElem (by omega)]; rfl
      obtain ⟨tq, hq⟩ := ints_item hwI hg
      refine Te.cmp (P := IsI (word.getD (i - 1) 0)) (Pu.item (v := .int (word.getD (i - 1) 0) tq) (i := (i : Int) - 1) (Pu.loc hE (lk_ne (lk_ne (lk_ne hlw))) kwd) (by intro h x; exact hWL.at fun o e => x.1.keep _ _ e) (Pu.binop (Pu.loc hE (lk_ne (lk_ne lk_eq)) kpl).asI Pu.int fun _ _ _ _ ha hb => op_sub ha hb) (by omega) (by rw [← hq]; congr 1; omega) (by omega)).asI (Pu.loc hE (lk_ne lk_eq) kn).asI fun _ _ _ _ ha hb => op_eqI ha hb
    · rw [hcond]
      cases hbb : b with
      | false =>
        refine st_nil ⟨h4, tk4, ow, kvsW, rfl, ht4, F4, N4, how, ?_⟩
        exact hrelW
      | true =>
        have hg0 : getA (weightsBy D number order) 0 = some (-(((order.foldl (wStep D number) []).map (·.2)).sum)) := getA_put
        obtain ⟨v0, hv0, t0, rfl⟩ := hrelW.get hg0
        refine st_setD (knd := intKind PR w) (k := 0) (P := IsI 0) (V := IsI (-(((order.foldl (wStep D number) []).map (·.2)).sum) + 1)) (Pu.loc hE lk_eq kw) Pu.int
          (Pu.binop (Pu.key (Pu.loc hE lk_eq kw) (FR.dict (.head _) how) Pu.int (fun u n hu => by obtain ⟨t, rfl⟩ := hu; exact intKind_is PR w _ _) hv0).asI Pu.int fun _ _ _ _ ha hb => op_add ha hb)
          (fun u n hu => by obtain ⟨t, rfl⟩ := hu; exact intKind_is PR w _ _) (.head _) how (by omega) F4 N4 ht4 fun v nw' od2 h5 tk5 ht5 hv5 hod2 F5 N5 => ?_
        rw [setL_cons_self, setL_off hT2w] at N5
        refine st_nil ⟨h5, tk5, od2, _, rfl, ht5, F5, fun p hp => N5 p (List.mem_append_right _ hp), hod2, ?_⟩
        have := hrelW.put (k := 0) hv5
        show Rel RInt _ (putA (weightsBy D number order) 0 ((getA (weightsBy D number order) 0).getD 0 + 1))
        rw [hg0]; exact this
    obtain ⟨h5, tk5, ow5, kvsW5, rfl, ht5, F5, N5, how5, hrelW5⟩ := hs'
    clear N3' F3 hcond
    generalize hWt : tweak (weightsBy D number order) b = Wt at *
    have hWtl : Wt.length ≤ 50 := by rw [← hWt]; exact Nat.le_trans tweak_len (by omega)
    have hWtk : ∀ x ∈ Wt.map (·.1), x = 0 ∨ x ∈ D.map (·.1) := fun x hx => by
      rw [← hWt] at hx
      rcases tweak_keys x hx with e | e
      · exact .inl e
      · exact weights_keys hord x e
    have hWts : ∀ q, ((getA Wt q).getD 0).natAbs ≤ 100000 := fun q => by rw [← hWt]; exact tweak_small (hOk.wt _ (List.mem_of_getElem? hnum) _ hord) q
    have hpre : xs.map (·.1) <+: word := by rw [hxw]; exact List.take_prefix _ _
    obtain ⟨hNl, hNk⟩ := hOk.num xs hpre hxo
    generalize hNdef : numbersBy D xs = Nn at *
    refine st_assignN hE kg (Pu.dict0 (knd := strKind PR w) (FR.base G.base)) F5 N5 ht5 fun v nw h6 tk6 ht6 hv6 hfr6 F6 N6 => ?_
    obtain ⟨dg, og0, rfl, rfl, hlowg, hog0⟩ := hv6
    have hT3g : ∀ p ∈ (dw, ow5) :: T2, p.1 ≠ dg := fun p hp => hfr6 _ (.head _) p hp
    generalize hT3 : (dw, ow5) :: T2 = T3 at *
    have mdw : (dw, ow5) ∈ T3 := by rw [← hT3]; exact .head _
    have mdn3 : (dn, on) ∈ T3 := by rw [← hT3]; exact .tail _ mdn
    have N6' : News g L h6 ((dg, og0) :: T3) := N6
    clear N6
    have lh6 : lk ((S "grown", Value.ref dg) :: (S "weights", .ref dw) :: (S "number", .int number tn) :: (S "place", .int i ti) :: l₁) (S "hand") = some (.ref d) := lk_ne (lk_ne (lk_ne (lk_ne hlh)))
    have ln6 : lk ((S "grown", Value.ref dg) :: (S "weights", .ref dw) :: (S "number", .int number tn) :: (S "place", .int i ti) :: l₁) (S "numbers") = some (.ref dn) := lk_ne (lk_ne (lk_ne (lk_ne hln)))
    have lw6 : lk ((S "grown", Value.ref dg) :: (S "weights", .ref dw) :: (S "number", .int number tn) :: (S "place", .int i ti) :: l₁) (S "weights") = some (.ref dw) := lk_ne lk_eq
    have lwd6 : lk ((S "grown", Value.ref dg) :: (S "weights", .ref dw) :: (S "number", .int number tn) :: (S "place", .int i ti) :: l₁) (S "word") = some (.ref wl) := lk_ne (lk_ne (lk_ne (lk_ne hlw)))
    have lg6 : lk ((S "grown", Value.ref dg) :: (S "weights", .ref dw) :: (S "number", .int number tn) :: (S "place", .int i ti) :: l₁) (S "grown") = some (.ref dg) := lk_eq
    generalize (S "grown", Value.ref dg) :: (S "weights", .ref dw) :: (S "number", .int number tn) :: (S "place", .int i ti) :: l₁ = l6 at *
    have hkvN : kvsN.length = Nn.length := hrelN.len
    have hkvW5 : kvsW5.length = Wt.length := hrelW5.len
    refine st_for (V := IsV (.ref dn)) hE kna (Pu.loc hE ln6 knm) F6 N6' ht6 fun v nw h7 tk7 ht7 hv7 st7 F7 N7 _ => ?_
    cases hv7
    have N7' : News g L h7 ((dg, og0) :: T3) := fun p hp => N7 p (List.mem_append_right _ hp)
    clear N7 N6' F6
    have hdnD : h7.DictOf (strKind PR w) dn kvsN := Heap.dictOf_iff.mpr ⟨on, (N7' _ (.tail _ mdn3)).1, hon⟩
    have hgsz : dg ≠ h7.objs.size := Nat.ne_of_lt (Heap.lt_size (N7' _ (.head _)).1)
    refine it_keys hR'.hh hE kna hdnD hlown (N7' _ (.tail _ mdn3)).2.1 F7 N7' ht7
      (fun j l₂ news₂ => ∃ og kvsG, (∀ p ∈ T3, p ∈ news₂) ∧ (dg, og) ∈ news₂ ∧ og.IsDictOf (strKind PR w) kvsG ∧ Rel RInt kvsG ((Nn.take j).foldl (fun G e => Wt.foldl (inStep D Nn Wt e.1) G) []) ∧ kvsG.length ≤ 60 * j ∧
        lk l₂ (S "hand") = some (.ref d) ∧ lk l₂ (S "numbers") = some (.ref dn) ∧ lk l₂ (S "weights") = some (.ref dw) ∧ lk l₂ (S "word") = some (.ref wl) ∧ lk l₂ (S "grown") = some (.ref dg))
      ⟨og0, [], fun p hp => .tail _ hp, .head _, hog0, .nil, by simp, lh6, ln6, lw6, lwd6, lg6⟩ ?_ ?_
    · rintro j kname u v l₂ news₂ own2 s₂ hj hv ⟨og, kvsG, hT3m, hgm, hog, hrelG, hGl, lh, ln, lw, lwd, lg⟩ hown2 hnw2 F₂ N₂ ht₂ ⟨hh₂, tk₂, rfl⟩
      obtain ⟨tna, rfl⟩ := Value.isStrOf_shape hv
      obtain ⟨bN, hNj, _⟩ := hrelN.item hj
      have hnameL : kname.length ≤ 1000 := hNk (kname, bN) (List.mem_of_getElem? hNj)
      have hjl : j < 1000 := Nat.lt_of_lt_of_le (List.getElem?_eq_some_iff.mp hNj).1 hNl
      have hown2g : ∀ p ∈ own2, p.1 ≠ dg := fun p hp => (hown2 p hp).elim (fun e => e ▸ hT3g (dn, on) mdn3) (fun e => e ▸ Ne.symm hgsz)
      have hEg : ∀ p ∈ own2 ++ T3, p.1 ≠ dg := fun p hp => (List.mem_append.mp hp).elim (hown2g p) (hT3g p)
      have hN1 : getA Nn kname = some ((getA Nn kname).getD 0) := by
        obtain ⟨b', hb', _⟩ := getA_some (D := Nn) (k := kname) (List.mem_map.mpr ⟨_, List.mem_of_getElem? hNj, rfl⟩)
        rw [hb']; rfl
      obtain ⟨vN, hvN, tN, rfl⟩ := hrelN.get hN1
      have hfoldJ : (Nn.take (j + 1)).foldl (fun G e => Wt.foldl (inStep D Nn Wt e.1) G) [] = Wt.foldl (inStep D Nn Wt kname) ((Nn.take j).foldl (fun G e => Wt.foldl (inStep D Nn Wt e.1) G) []) := by
        rw [List.take_add_one, hNj, List.foldl_append]; rfl
      generalize (Nn.take j).foldl (fun G e => Wt.foldl (inStep D Nn Wt e.1) G) [] = Gj at *
      have N₂' : News g L hh₂ ((dg, og) :: (own2 ++ T3)) := fun p hp => by
        rcases List.mem_cons.mp hp with rfl | hp
        · exact N₂ _ (List.mem_append_right _ hgm)
        · rcases List.mem_append.mp hp with hp | hp
          · exact N₂ _ (List.mem_append_left _ hp)
          · exact N₂ _ (List.mem_append_right _ (hT3m p hp))
      clear N₂
      refine st_for (V := IsV (.ref dw)) hE kp (Pu.loc hE (lk_ne lw) kw) F₂ N₂' ht₂ fun v nw h8 tk8 ht8 hv8 st8 F8 N8 _ => ?_
      cases hv8
      have N8' : News g L h8 ((dg, og) :: (own2 ++ T3)) := fun p hp => N8 p (List.mem_append_right _ hp)
      clear N8 N₂' F₂
      have mdw2 : (dw, ow5) ∈ (dg, og) :: (own2 ++ T3) := .tail _ (List.mem_append_right _ mdw)
      have hdwD : h8.DictOf (intKind PR w) dw kvsW5 := Heap.dictOf_iff.mpr ⟨ow5, (N8' _ mdw2).1, how5⟩
      have hgsz8 : dg ≠ h8.objs.size := Nat.ne_of_lt (Heap.lt_size (N8' _ (.head _)).1)
      refine it_keys hR'.hh hE kp hdwD hloww (N8' _ mdw2).2.1 F8 N8' ht8
        (fun k l₃ news₃ => ∃ og kvsG, (∀ p ∈ own2 ++ T3, p ∈ news₃) ∧ (dg, og) ∈ news₃ ∧ og.IsDictOf (strKind PR w) kvsG ∧ Rel RInt kvsG ((Wt.take k).foldl (inStep D Nn Wt kname) Gj) ∧ kvsG.length ≤ 60 * j + k ∧
          lk l₃ (S "hand") = some (.ref d) ∧ lk l₃ (S "numbers") = some (.ref dn) ∧ lk l₃ (S "weights") = some (.ref dw) ∧ lk l₃ (S "word") = some (.ref wl) ∧ lk l₃ (S "grown") = some (.ref dg) ∧ lk l₃ (S "name") = some (.str kname tna))
        ⟨og, kvsG, fun p hp => .tail _ hp, .head _, hog, hrelG, hGl, lk_ne lh, lk_ne ln, lk_ne lw, lk_ne lwd, lk_ne lg, lk_eq⟩ ?_ ?_
      · rintro k part u3 v3 l₃ news₃ own3 s₃ hk hv3 ⟨og3, kvsG3, hEm, hgm3, hog3, hrelG3, hGl3, lh3, ln3, lw3, lwd3, lg3, lna3⟩ hown3 hnw3 F₃ N₃ ht₃ ⟨hh₃, tk₃, rfl⟩
        obtain ⟨tpa, rfl⟩ := Value.isInt_shape hv3
        obtain ⟨bW, hWk, _⟩ := hrelW5.item hk
        have hpW : part ∈ Wt.map (·.1) := List.mem_map.mpr ⟨_, List.mem_of_getElem? hWk, rfl⟩
        have hkl : k < 50 := Nat.lt_of_lt_of_le (List.getElem?_eq_some_iff.mp hWk).1 hWtl
        have hown3g : ∀ p ∈ own3, p.1 ≠ dg := fun p hp => (hown3 p hp).elim (fun e => e ▸ hT3g (dw, ow5) mdw) (fun e => e ▸ Ne.symm hgsz8)
        have hW1 : getA Wt part = some ((getA Wt part).getD 0) := by
          obtain ⟨b', hb', _⟩ := getA_some hpW
          rw [hb']; rfl
        obtain ⟨vW, hvW, tW, rfl⟩ := hrelW5.get hW1
        have hfoldK : (Wt.take (k + 1)).foldl (inStep D Nn Wt kname) Gj = inStep D Nn Wt kname ((Wt.take k).foldl (inStep D Nn Wt kname) Gj) (part, bW) := by
          rw [List.take_add_one, hWk, List.foldl_append]; rfl
        generalize (Wt.take k).foldl (inStep D Nn Wt kname) Gj = Gk at *
        have N₃' : News g L hh₃ ((dg, og3) :: (own3 ++ (own2 ++ T3))) := fun p hp => by
          rcases List.mem_cons.mp hp with rfl | hp
          · exact N₃ _ (List.mem_append_right _ hgm3)
          · rcases List.mem_append.mp hp with hp | hp
            · exact N₃ _ (List.mem_append_left _ hp)
            · exact N₃ _ (List.mem_append_right _ (hEm p hp))
        clear N₃
        have hblank : (S " ").length = 1 := blank_len
        have hblank' : (PySem.Str.ofString " ").length = 1 := blank_len
        refine st_assign (V := IsS (longerT D kname part)) hE klo (Pu.ifexp (c := (part == 0)) (Te.val (Pu.callF (V := LV [IsV (.int part tpa)]) (U := IsB (part == 0)) (FR.base G.base) (k_eof w) (Pu.glob hE (FR.base G.base) kf (g_eof w)) (.cons (Pu.loc hE lk_eq kp) .nil) (fun vs n h => by
            obtain ⟨a, rfl, u⟩ := LV1 h; obtain rfl := u.v
            exact iseof_call (by intro h x; exact FR.base G.base h x.1) (hR'.less (by decide)))) (fun _ _ h => tt_bool h))
          (fun hc => by
            have e : longerT D kname part = kname := if_pos hc
            rw [e]; exact (Pu.loc hE (lk_ne lna3) kna).asS)
          (fun hc => by
            have e : longerT D kname part = Txt.strip (kname ++ S " " ++ textAt D part) := if_neg (by rw [hc]; decide)
            have hpD : part ∈ D.map (·.1) := (hWtk part hpW).resolve_left (by simpa using hc)
            obtain ⟨tt, hvt⟩ := hH.at hpD
            have hl2 := hlen part hpD
            rw [e]
            exact Pu.meth0 F.plainAttrs_str F.slot_str_strip F.type_str_strip (P := IsS (kname ++ S " " ++ textAt D part)) (Pu.binop (Pu.binop (Pu.loc hE (lk_ne lna3) kna).asS Pu.str fun _ _ _ _ ha hb => op_cat ha hb (by omega))
              (Pu.key (Pu.loc hE (lk_ne lh3) kh) (by intro h x; exact (hH.keep x.1.keep).dict) (Pu.loc hE lk_eq kp) (fun u n hu => by cases hu; exact intKind_is PR w _ _) hvt).asS fun _ _ _ _ ha hb => op_cat ha hb (by rw [app_len]; omega))
              isStr_type (fun v n hv => c_strip hv (by rw [app_len, app_len]; omega)))) F₃ N₃' ht₃ fun v nw h9 tk9 ht9 hv9 F9 N9 => ?_
        obtain ⟨tlo, rfl⟩ := hv9
        have N9' : News g L h9 ((dg, og3) :: (own3 ++ (own2 ++ T3))) := fun p hp => N9 p (List.mem_append_right _ hp)
        clear N9
        have mdn9 : (dn, on) ∈ (dg, og3) :: (own3 ++ (own2 ++ T3)) := .tail _ (List.mem_append_right _ (List.mem_append_right _ mdn3))
        have mdw9 : (dw, ow5) ∈ (dg, og3) :: (own3 ++ (own2 ++ T3)) := .tail _ (List.mem_append_right _ (List.mem_append_right _ mdw))
        refine st_setD (knd := strKind PR w) (k := longerT D kname part) (P := IsV (.str (longerT D kname part) tlo)) (V := IsI ((getA Gk (longerT D kname part)).getD 0 + (getA Nn kname).getD 0 * (getA Wt part).getD 0)) (Pu.loc hE (lk_ne (lk_ne lg3)) kg) (Pu.loc hE lk_eq klo)
          (Pu.binop (P := IsI ((getA Gk (longerT D kname part)).getD 0)) (R := IsI ((getA Nn kname).getD 0 * (getA Wt part).getD 0))
            (Pu.meth F.plainAttrs_dict F.slot_dict_get F.type_dict_get (P := IsV (.ref dg)) (V := LV [IsV (.str (longerT D kname part) tlo), IsI 0]) (Pu.loc hE (lk_ne (lk_ne lg3)) kg) (fun v n hv s x => by cases hv; exact ⟨(FR.dict (.head _) hog3 _ x.1).typeIs, (FR.dict (.head _) hog3 _ x.1).mapOf.noDict⟩)
              (.cons (Pu.loc hE lk_eq klo) (.cons Pu.int .nil)) (fun v n vs m hv hvs => by cases hv; exact c_get2 (k := longerT D kname part) (by intro h x; exact FR.dict (.head _) hog3 h x.1) hlowg hrelG3 (fun u n hu => by cases hu; exact strKind_is PR w _ _) hvs))
            (Pu.binop (Pu.key (Pu.loc hE (lk_ne (lk_ne ln3)) knm) (FR.dict mdn9 hon) (Pu.loc hE (lk_ne (lk_ne lna3)) kna) (fun u n hu => by cases hu; exact strKind_is PR w _ _) hvN).asI
              (Pu.key (Pu.loc hE (lk_ne (lk_ne lw3)) kw) (FR.dict mdw9 how5) (Pu.loc hE (lk_ne lk_eq) kp) (fun u n hu => by cases hu; exact intKind_is PR w _ _) hvW).asI fun _ _ _ _ ha hb => op_mulI ha hb (.of_right (bits_small (hWts part))))
            fun _ _ _ _ ha hb => op_add ha hb)
          (fun u n hu => by cases hu; exact strKind_is PR w _ _) (.head _) hog3 (by omega) F9 N9' ht9 fun v nw' og4 h10 tk10 ht10 hv10 hog4 F10 N10 => ?_
        rw [setL_cons_self, setL_off (fun p hp => (List.mem_append.mp hp).elim (hown3g p) (hEg p))] at N10
        refine st_nil (LE.next (news₂ := (dg, og4) :: (own2 ++ T3)) ht10 F10 (fun p hp => N10 p (List.mem_append_right _ ?_)) (fun p hp => .inl ?_)
          ⟨og4, stored kvsG3 (longerT D kname part) v, fun p hp => .tail _ hp, .head _, hog4, ?_, ?_, lk_ne (lk_ne lh3), lk_ne (lk_ne ln3), lk_ne (lk_ne lw3), lk_ne (lk_ne lwd3), lk_ne (lk_ne lg3), lk_ne (lk_ne lna3)⟩)
        · rcases List.mem_append.mp hp with hp | hp
          · exact .tail _ (List.mem_append_left _ hp)
          · rcases List.mem_cons.mp hp with rfl | hp
            · exact .head _
            · exact .tail _ (List.mem_append_right _ hp)
        · rcases List.mem_cons.mp hp with rfl | hp
          · exact List.mem_map.mpr ⟨_, hgm3, rfl⟩
          · exact List.mem_map.mpr ⟨_, hEm p hp, rfl⟩
        · rw [hfoldK]; exact hrelG3.put hv10
        · have : (stored kvsG3 (longerT D kname part) v).length ≤ kvsG3.length + 1 := by unfold stored; split <;> simp
          omega
      · rintro h' tk l' news' tp F' N' ⟨og, kvsG, hEm, hgm', hog, hrelG, hGl, lh, ln, lw, lwd, lg, lna⟩
        rw [hkvW5, List.take_length] at hrelG
        refine st_nil (LE.next (news₂ := (dg, og) :: T3) tp F' (fun p hp => N' p ?_) (fun p hp => .inl ?_) ⟨og, kvsG, fun p hp => .tail _ hp, .head _, hog, ?_, ?_, lh, ln, lw, lwd, lg⟩)
        · rcases List.mem_append.mp hp with hp | hp
          · exact hEm p (List.mem_append_left _ hp)
          · rcases List.mem_cons.mp hp with rfl | hp
            · exact hgm'
            · exact hEm p (List.mem_append_right _ hp)
        · rcases List.mem_cons.mp hp with rfl | hp
          · exact List.mem_map.mpr ⟨_, hgm, rfl⟩
          · exact List.mem_map.mpr ⟨_, hT3m p hp, rfl⟩
        · rw [hfoldJ]; exact hrelG
        · omega
    · rintro h' tk l' news' tp F' N' ⟨og, kvsG, hT3m, hgm, hog, hrelG, hGl, lh, ln, lw, lwd, lg⟩
      refine st_assign hE knm (Pu.loc hE lg kg) F' N' tp fun v nw h8 tk8 ht8 hv8 F8 N8 => ?_
      cases hv8
      rw [hkvN, List.take_length] at hrelG
      have hT2m : ∀ p ∈ T2, p ∈ news' := fun p hp => hT3m p (by rw [← hT3]; exact .tail _ hp)
      refine st_nil (LE.next (news₂ := (101, tabObj ps2) :: (dg, og) :: more2) ht8 F8 (fun p hp => N8 p (List.mem_append_right _ ?_)) (fun p hp => ?_)
        ⟨ps2, more2, dg, og, kvsG, xs ++ [(number, order)], rfl, ?_, hmore2, htab2, hlowg, hog, ?_, ?_, ?_, lk_ne lh, lk_ne lwd, lk_eq⟩)
      · rcases List.mem_append.mp hp with hp | hp
        · exact hT2m p (by rw [← hT2]; exact .tail _ (List.mem_append_left _ hp))
        · rcases List.mem_cons.mp hp with rfl | hp
          · exact hT2m _ (by rw [← hT2]; exact .head _)
          · rcases List.mem_cons.mp hp with rfl | hp
            · exact hgm
            · exact hT2m p (by rw [← hT2]; exact .tail _ (List.mem_append_right _ (.tail _ hp)))
      · rcases List.mem_cons.mp hp with rfl | hp
        · exact .inl (.head _)
        · rcases List.mem_cons.mp hp with rfl | hp
          · exact .inr (.inr fun q hq e => hT3g q (by rw [← hT3, ← hT2]; exact .tail _ (.tail _ (List.mem_append_left _ hq))) e.symm)
          · refine .inr (.inr fun q hq e => ?_)
            obtain ⟨us, sq, tq, h1, h2⟩ := (hmore2 p hp).2
            have hp8 := (N' p (hT2m p (by rw [← hT2]; exact .tail _ (List.mem_append_right _ (.tail _ hp))))).1
            have hq8 := (N' q (hT2m q (by rw [← hT2]; exact .tail _ (List.mem_append_left _ hq)))).1
            rw [e, hq8] at hp8
            have e2 := Option.some.inj hp8
            rw [← e2] at h1
            exact hownobj q hq us sq tq h1 h2
      · exact fun e => hT3g (101, tabObj ps2) (by rw [← hT3, ← hT2]; exact .tail _ (.head _)) e.symm
      · rw [hnext]; exact hrelG
      · rw [List.map_append, hxw, List.take_add_one, hnum]; rfl
      · intro x hx
        rcases List.mem_append.mp hx with h | h
        · exact hxo x h
        · rw [List.mem_singleton.mp h]; exact hord
  · rintro h' tk l' news' tp F' N' ⟨ps1, more1, dn, on, kvsN, xs, rfl, hdn101, hmore1, htab1, hlown, hon, hrelN, hxw, hxo, hlh, hlw, hln⟩
    refine st_ret (Pu.loc hE hln knm) F' N' tp fun v nw h6 tk6 tp6 hv6 F6 N6 => ?_
    cases hv6
    have N6' : News g L h6 ((101, tabObj ps1) :: ((dn, on) :: more1)) := fun p hp => N6 p (List.mem_append_right _ hp)
    rw [hwI.length, List.take_length] at hxw
    refine RetG.intro (nw := [(dn, on)]) F6 N6' (htab1 h6 F6.keep fun p hp => (N6' p (.tail _ (.tail _ hp))).1) (fun p hp => ?_) ⟨xs, ⟨hxw, hxo⟩, dn, on, kvsN, rfl, .head _, hon, hlown, hrelN⟩
    rw [List.mem_singleton.mp hp]; exact ⟨.head _, hdn101⟩
end Mine
end
section
open PySem PySem.W PyProof.Rows PySem.Calls
open PySem.Builtin PySem.Builtin.Str
set_option Elab.async false
set_option linter.unusedVariables false
namespace Mine
section
variable {w : World} {A : Around} {env : Env} {I : HP} {g : Heap} {L : Addr} {l : List (PySem.Str × Value)} {news : Led} {s : Shared} {rest : List Stmt}
theorem c_intI {i : Int} {vs : List Value} {m n : Led} (h : LV [IsI i] vs m) : Tr w A I (call (.type "int") vs) (fun r nu => IsI i r (nu ++ n)) := by
  obtain ⟨a, rfl, u⟩ := LV1 h; obtain ⟨t, rfl⟩ := u.i
  exact .mk fun _ _ _ _ k => call_int_int (k _ [] _ _ (stays_refl _) .nil ⟨_, rfl⟩)
theorem op_pow106 {a b : Value} {n n1 n2 : Led} (ha : IsI 10 a n1) (hb : IsI 6 b n2) : Tr w A I (binaryOp .Pow a b) (fun v nu => IsI 1000000 v (nu ++ n)) := by
  obtain ⟨t, rfl⟩ := ha; obtain ⟨u, rfl⟩ := hb
  exact .mk fun _ _ _ _ k => pow_int_small (by decide) (by decide) (by decide) (k _ [] _ _ (stays_refl _) .nil ⟨_, rfl⟩)
theorem op_addL {la lb : Addr} {vs ws : List Value} {a b : Value} {n1 n2 : Led} (ha : IsV (.ref la) a n1) (hb : IsV (.ref lb) b n2) (hl : ∀ h, I.on h → h.IsList la vs.toArray) (hl2 : ∀ h, I.on h → h.IsList lb ws.toArray) (hz : vs.length + ws.length ≤ sizeLine) :
    Tr w A I (binaryOp .Add a b) (fun v nu => ∃ c, v = .ref c ∧ (c, Lo (vs ++ ws) 0) ∈ nu) := by
  cases ha; cases hb
  refine .mk fun s Q hI _ k => ?_
  obtain ⟨⟨cls, dd, data, sl⟩, ho, hc, n, hd⟩ := hl _ hI
  obtain ⟨⟨cls2, dd2, data2, sl2⟩, ho2, hc2, n2, hd2⟩ := hl2 _ hI
  simp only at hc hd hc2 hd2
  subst hc hd hc2 hd2
  have e : vs.toArray ++ ws.toArray = (vs ++ ws).toArray := by simp
  refine concat_meets ⟨_, ho, rfl⟩ ⟨_, ho2, rfl⟩ noFill_list_add seq_list_add PySem.F.slot_list_add PySem.F.entry_list_add (PySem.F.args_list_add_2 _ _) (list_addW la lb vs.toArray ws.toArray n n2 dd dd2 sl sl2 (by simpa using hz)) ⟨ho, ho2, ?_⟩
  rw [e]
  exact k _ [(s.heap.objs.size, Lo (vs ++ ws) 0)] _ _ (stays_push _ _) (.one (Heap.get?_push_size _ rfl) (size_none _ (Nat.le_refl _))) ⟨_, rfl, .head _⟩

/-- xs[lo:hi] -/
theorem Pu.slice {value : Expr} {lower upper : Option Expr} {p pos : Pos} {la : Addr} {vs : List Value} {lo hi : Option Int} {P : Value → Led → Prop} (ho : Pu w A env I value P) (hP : ∀ v n, P v n → v = .ref la ∧ ∀ h, (I.and n).on h → h.IsList la vs.toArray)
    (hlo : Tr w A I (evalPart lower env) (fun v _ => IsPart v lo)) (hhi : Tr w A I (evalPart upper env) (fun v _ => IsPart v hi)) (hz : vs.length ≤ sizeLine)
    (hs : ∀ o i, subscripted (.Slice lower upper none p) false o i = operate [i, o] (getItem o i) := by intro _ _; rfl) :
    Pu w A env I (.Subscript value (.Slice lower upper none p) pos) (fun v nw => ∃ c, v = .ref c ∧ (c, Lo (slicePick vs.toArray lo hi none).toList 0) ∈ nw) :=
  .mk fun s Q hI ht k => Subscript_ (ho s _ hI ht fun v n1 h1 tk1 tp1 st1 i1 new1 hv => wpAny_Slice (hlo _ _ i1 tp1 fun vl n2 h2 tk2 tp2 st2 i2 new2 hv2 => hhi _ _ i2 tp2 fun vu n3 h3 tk3 tp3 st3 i3 new3 hv3 => wpAny_evalPart_none (by
    obtain ⟨rfl, hl⟩ := hP v n1 hv
    have st13 := stays_trans st2 st3
    have hL : h3.IsList la vs.toArray := hl h3 ⟨i3, fun p hp => st13 _ _ (new1 p hp).1⟩
    have hLp : (h3.push { cls := .type "slice", data := .fields #[vl, vu, .none] }).IsList la vs.toArray := hL.push _
    unfold subscriptTail
    refine wpAny_bind ?_
    rw [getitemInPython_of_ne (Heap.IsList.typeIs (s := { s with heap := h3.push { cls := .type "slice", data := .fields #[vl, vu, .none] }, toks := tk3 }) hLp).not_modules]
    refine wpAny_bind (wpAny_specialOf (Heap.IsList.typeIs (s := { s with heap := h3.push { cls := .type "slice", data := .fields #[vl, vu, .none] }, toks := tk3 }) hLp) list_getitem_lookup ?_)
    refine wpAny_pure ?_
    refine wpAny_bind ?_
    rw [hs]
    refine wpAny_operating (wpAny_getItem_list_slice hLp (Heap.IsSliceOf.new ..) hv2 hv3 .none (by simp) ?_ (by simpa using hz))
    refine wpAny_bind (wpAny_letTemporaryGo (wpAny_pure ?_))
    have stF : h3.StaysIn ((h3.push { cls := .type "slice", data := .fields #[vl, vu, .none] }).push { cls := .type "list", data := .seq (slicePick vs.toArray lo hi none) }) := stays_trans (stays_push _ _) (stays_push _ _)
    refine k _ [((h3.push { cls := .type "slice", data := .fields #[vl, vu, .none] }).objs.size, Lo (slicePick vs.toArray lo hi none).toList 0)] _ _ (stays_trans (stays_trans st1 st13) stF) (.one ?_ ?_) ⟨_, rfl, .head _⟩
    · have := Heap.get?_push_size (h3.push { cls := .type "slice", data := .fields #[vl, vu, .none] }) (o := { cls := .type "list", data := .seq (slicePick vs.toArray lo hi none) }) rfl
      simpa using this
    · exact get_none_back (stays_trans (stays_trans st1 st13) (stays_push _ _)) (size_none _ (Nat.le_refl _)))))
theorem part_none : Tr w A I (evalPart none env) (fun v _ => IsPart v none) := .mk fun _ _ _ _ k => wpAny_evalPart_none (k _ [] _ _ (stays_refl _) .nil .none)
theorem part_some {e : Expr} {i : Int} (h : Pu w A env I e (IsI i)) : Tr w A I (evalPart (some e) env) (fun v _ => IsPart v (some i)) :=
  fun s Q hI ht k => wpAny_evalPart_some (h s Q hI ht fun v nw h' tk tp st i n ⟨t, e⟩ => k v nw h' tk tp st i n (by rw [e]; exact .int _ _))

/-- list(d) of a dict with text keys -/
theorem strs_keys {kvs : List (PySem.Str × Value)} : ∀ {vs : List Value}, vs.length = kvs.length → (∀ (j : Nat) (v : Value), vs[j]? = some v → ∃ k x, kvs[j]? = some (k, x) ∧ (strKind PR w).is k v = true) → StrsAre vs (kvs.map (·.1)) := by
  induction kvs with
  | nil => intro vs h _; rw [List.length_eq_zero_iff.mp h]; exact .nil
  | cons p r ih =>
    intro vs h hv
    cases vs with
    | nil => cases h
    | cons v vs =>
      obtain ⟨k, x, e, hk⟩ := hv 0 v rfl
      obtain ⟨t, rfl⟩ := Value.isStrOf_shape hk
      cases e
      exact .cons _ _ (ih (by simpa using h) fun j u hu => by
        have := hv (j + 1) u (by simpa using hu)
        simpa using this)
theorem c_listD {d : Addr} {kvs : List (PySem.Str × Value)} {vs : List Value} {m n : Led} (hh : A.handled = none) (hd : ∀ h, I.on h → h.DictOf (strKind PR w) d kvs) (hds : (d == sysModules) = false) (hz : kvs.length ≤ sizeLine) (h : LV [IsV (.ref d)] vs m) :
    Tr w A I (call (.type "list") vs) (fun r nu => IsLS (kvs.map (·.1)) r (nu ++ n)) := by
  obtain ⟨b, rfl, u⟩ := LV1 h; obtain rfl := u.v
  refine .mk fun s Q hI ht k => ?_
  obtain ⟨ep, hat⟩ := (hd _ hI).dictAt
  refine kdl_call (kdl_dict (knd := strKind PR w) (kvs := kvs) (ep := ep) hds) hh hat hz fun h' tk acc c hk ho hacc => ?_
  refine k _ [(s.heap.objs.size, Lo acc.toList c)] h' tk hk (.one (by simpa using ho) (size_none _ (Nat.le_refl _))) ⟨_, acc.toList, c, rfl, by simp, strs_keys (w := w) (by rw [Array.length_toList]; exact hacc.1) fun j v e => hacc.2 j v (by rw [← Array.getElem?_toList]; exact e)⟩
theorem c_join {x : PySem.Str} {t : Tok} {P : Value → Led → Prop} {ys : List PySem.Str} {vs : List Value} {m n : Led} (hP : ∀ v n', P v n' → ∃ a us, v = .ref a ∧ StrsAre us ys ∧ ∀ h, (I.and n').on h → h.IsList a us.toArray) (hok : (ys.map (·.length)).sum + ys.length * x.length ≤ 16777216) (h : LV [P] vs m) :
    Tr w A (I.and m) (call (.builtin "str.join") (.str x t :: vs)) (fun r nu => IsS (PySem.Str.join x ys) r (nu ++ n)) := by
  obtain ⟨b, rfl, m', hm', u⟩ := LV1 h
  obtain ⟨a, us, rfl, hS, hl⟩ := hP _ _ u
  refine .mk fun s Q hI ht k => ?_
  refine join_list (hl _ ⟨hI.1, fun p hp => hI.2 _ (hm' p hp)⟩) (by simpa using hS) hok fun t' k' => ?_
  have e : Txt.join x ys = PySem.Str.join x ys := by
    unfold Txt.join; exact StrLaws.glued_eq_join x ys
  rw [e]
  exact k _ [] _ _ (stays_refl _) .nil ⟨_, rfl⟩
theorem c_isbool {b : Bool} {vs : List Value} {m n : Led} (h : LV [IsB b, IsV (.type "bool")] vs m) : Tr w A I (call (.builtin "isinstance") vs) (fun r nu => IsB true r (nu ++ n)) := by
  obtain ⟨a, c, rfl, ⟨_, _, u⟩, u2⟩ := LV2 h; obtain rfl := u2.v
  cases u
  exact .mk fun s _ _ _ k => call_isinstance_yes (Tx := "bool") rfl meta_bool PySem.F.sub_bool_bool (k _ [] _ _ (stays_refl _) .nil rfl)

/-- zip(xs, ys) -/
theorem it_zip {x1 x2 : PySem.Str} {p1 p2 pt : Pos} {kt : Nat} {body : List Stmt} {a b : Addr} {vs us : List Value} {R : Result → Shared → Prop} (hh : A.handled = none) (hE : EnvOk env L) (hx1 : env.kindOf x1 = some .local) (hx2 : env.kindOf x2 = some .local)
    (hl : s.heap.IsList a vs.toArray) (hl2 : s.heap.IsList b us.toArray) (haL : a ≠ L) (hbL : b ≠ L) (F : Fr g L s.heap (lk l)) (N : News g L s.heap news) (ht : 0 < s.toks)
    (J : Nat → List (PySem.Str × Value) → Led → Prop) (h0 : J 0 l news)
    (step : ∀ i v u l₁ news₁ own s₁, vs[i]? = some v → us[i]? = some u → J i l₁ news₁ → Fr g L s₁.heap (lk ((x2, u) :: (x1, v) :: l₁)) → News g L s₁.heap (own ++ news₁) → 0 < s₁.toks → (∃ h tk, s₁ = { s with heap := h, toks := tk }) →
      wpAny (MD w) A (execs body env) (LE g L own news₁ (J (i + 1)) s₁ fun v s' => R (.ok (.ret v)) s') NE s₁)
    (hR : ∀ h' tk l' news', 0 < tk → Fr g L h' (lk l') → News g L h' news' → J (min vs.length us.length) l' news' → R (.ok .next) { s with heap := h', toks := tk }) :
    wpAny (MD w) A (call (.type "zip") [.ref a, .ref b]) (fun v s₁ => wpAny (MD w) A (pyIter v) (fun it s₂ => ∃ I, it = .ref I ∧ codeAny (MD w) A (.forLoop (.Tuple [.Name x1 p1, .Name x2 p2] kt pt) (.ref I) body [] env) R s₂) NE s₁) NE s := by
  have hlt : a < s.heap.objs.size := by obtain ⟨o, ho, _⟩ := hl; exact Heap.lt_size ho
  have hlt2 : b < s.heap.objs.size := by obtain ⟨o, ho, _⟩ := hl2; exact Heap.lt_size ho
  have hLlt : L < s.heap.objs.size := F.ns.lt
  refine wpAny_with_toks (n := 1) ht (call_zip_2 hl hl2 fun h' hz hTI hTO hi1 hi2 hsz hk tp => wpAny_pyIter_zip hz ⟨_, rfl, ?_⟩)
  have W := (WalksT.zip2 (prog := PR) (w := w) hh _ _ _ _ _ _ _ (ktu_apart s.heap.objs.size a b hlt hlt2) vs.toArray us.toArray).toU
  simp only [List.size_toArray, List.getElem?_toArray] at W
  have big : ∀ {c : Addr}, c ∈ [s.heap.objs.size + 4, s.heap.objs.size + 3, s.heap.objs.size, s.heap.objs.size + 1] → s.heap.objs.size ≤ c := fun {c} hc => by
    simp only [List.mem_cons, List.not_mem_nil, or_false] at hc
    rcases hc with e | e | e | e <;> rw [e] <;> first | exact Nat.le_add_right _ _ | exact Nat.le_refl _
  refine for_coreT hh hE hx1 hx2 W (P := fun i x y => vs[i]? = some x ∧ us[i]? = some y) ?_ ?_ ?_ ?_ ⟨hz, hTI, ⟨_, _, hTO⟩, hi1, hi2, hl.at fun o e => hk _ o e, hl2.at fun o e => hk _ o e⟩ ?_ (fr_stays F hk) (news_stays N hk) tp J h0 ?_ ?_
  · rintro i vals ⟨x, y, hx, hy, rfl⟩; exact ⟨_, _, rfl, hx, hy⟩
  · intro hm
    simp only [List.mem_cons, List.not_mem_nil, or_false] at hm
    rcases hm with e | e | e | e | e | e | e
    · exact absurd hLlt (by rw [e]; exact Nat.not_lt.mpr (Nat.le_add_right _ 4))
    · exact absurd hLlt (by rw [e]; exact Nat.not_lt.mpr (Nat.le_add_right _ 2))
    · exact absurd hLlt (by rw [e]; exact Nat.not_lt.mpr (Nat.le_add_right _ 3))
    · exact absurd hLlt (by rw [e]; exact Nat.lt_irrefl _)
    · exact absurd hLlt (by rw [e]; exact Nat.not_lt.mpr (Nat.le_add_right _ 1))
    · exact haL e.symm
    · exact hbL e.symm
  · intro c hc
    exact get_none_back F.keep (size_none _ (big hc))
  · intro p hp hc
    exact absurd (Heap.lt_size (N p hp).1) (Nat.not_lt.mpr (big hc))
  · rintro i h ⟨hz, _, ⟨_, _, hTO⟩, ⟨o1, ho1, _⟩, ⟨o2, ho2, _⟩, _⟩ c hc
    simp only [List.mem_cons, List.not_mem_nil, or_false] at hc
    rcases hc with e | e | e | e <;> rw [e]
    · exact ⟨_, hz⟩
    · exact ⟨_, hTO⟩
    · exact ⟨_, ho1⟩
    · exact ⟨_, ho2⟩
  · rintro i x y l₁ news₁ own s₁ hi ⟨hx, hy⟩ hJ hown hnw F₁ N₁ ht₁ hs₁ _
    exact step i x y l₁ news₁ own s₁ hx hy hJ F₁ N₁ ht₁ (by obtain ⟨h, tk, e⟩ := hs₁; exact ⟨h, tk, e⟩)
  · intro h' tk l' news' tp F' N' hJ
    exact hR h' tk l' news' tp F' N' hJ
end
end Mine
end
section
open PySem PySem.W PyProof.Rows PySem.Calls
open PySem.Builtin PySem.Builtin.Str
set_option Elab.async false
set_option linter.unusedVariables false
namespace Mine
/-- the last def of the text -/
def lastDef : List Stmt → Option (List Stmt × Scope)
  | [] => none
  | [.FunctionDef _ _ b _ _ _ sc _ _ _] => some (b, sc)
  | _ :: r => lastDef r
def lawBody : List Stmt := match lastDef PR.main.body with | some x => x.1 | none => []
def lawScope : Scope := match lastDef PR.main.body with | some x => x.2 | none => { kind := .function, names := [], isGenerator := false, isCoroutine := false, more := [] }
set_option maxRecDepth 100000 in
example : lawScope.names.lookup (S "hand") = some .cell := by rfl

def cellsOf (ns : List Int) : List Int := (ns.take 4).map (fun c => c.fmod 1000000) ++ [6, 1, 0, 3].drop ((ns.take 4).map (fun c => c.fmod 1000000)).length
def pairsL : List PySem.Str := [S "*=", S "->", S "<=", S "!=", S ">=", S "/=", S "&=", S "|="]
def formT (n : PySem.Str) : PySem.Str := S "..." ++ Txt.replace n (S " ") (S "... ...") ++ S "..."
def pageT (k : Nat) (x : PySem.Str) : PySem.Str := ms ((tl x).flatMap (ecK k))
def totalOf (N : List (PySem.Str × Int)) (gots : List PySem.Str) (name want : PySem.Str) : Int :=
  (((N.map (·.1)).zip gots).map fun p => if ((getA N p.1).getD 0 != 0 && decide ((name.length : Int) ≤ p.1.length)) = true then (if ell want p.2 then (getA N p.1).getD 0 else 0) else 0).sum
structure LawOk (k : Nat) (D : List (Int × PySem.Str)) (word : List Int) (N : List (PySem.Str × Int)) : Prop where
  len : N.length ≤ 1000
  nlen : ∀ n ∈ N.map (·.1), n.length ≤ 1000
  alphaP : ∀ c ∈ tl (PySem.Str.join (S ",") (N.map (·.1))), c ∈ alpha
  lenP : (PySem.Str.join (S ",") (N.map (·.1))).length ≤ 100000
  alphaF : ∀ c ∈ tl (PySem.Str.join (S ",") ((N.map (·.1)).map formT)), c ∈ alpha
  lenF : (PySem.Str.join (S ",") ((N.map (·.1)).map formT)).length ≤ 100000
  first : (N.map (·.1))[0]? = some (PySem.Str.join (S " ") (word.map (textAt D)))
  held : ∃ own, (Txt.split (pageT k (PySem.Str.join (S ",") (N.map (·.1)))) (S ","))[0]? = some own ∧ own.length ≤ 10000 ∧ (gotsOf own).all (heldAt own) = true
  total : ∀ (i : Nat) (name want : PySem.Str), (N.map (·.1))[i]? = some name → (Txt.split (pageT k (PySem.Str.join (S ",") ((N.map (·.1)).map formT))) (S ","))[i]? = some want →
    totalOf N (Txt.split (pageT k (PySem.Str.join (S ",") (N.map (·.1)))) (S ",")) name want = if name == PySem.Str.join (S " ") (word.map (textAt D)) then 1 else 0

theorem g_int (w : World) : nsIn (KK w) mainGlobals (S "int") = some none := by kernel_rfl
theorem b_int : bootBuiltins (S "int") = some (.type "int") := PyProof.Rows.boot_int

theorem mod_ints : ∀ {vs : List Value} {ns : List Int} {ys : List Value}, IntsAre vs ns → Paired (fun v y => ∃ i t, v = Value.int i t ∧ RInt y (i.fmod 1000000)) vs ys → IntsAre ys (ns.map fun c => c.fmod 1000000)
  | _, _, _, .nil, .nil => .nil
  | _, _, _, .cons n t r, .cons h p => by
    obtain ⟨i, u, e, t', rfl⟩ := h
    cases e
    exact .cons _ _ (mod_ints r p)
section
variable {w : World} {A : Around} {env : Env} {g : Heap} {L : Addr} {news : Led} {s : Shared} {Q : Flow → Shared → Prop} {rest : List Stmt}
/-- the first line: drawn = [int(cell) % 10 ** 6 for cell in script[:4]]; no token may be there yet -/
theorem st_drawn {elt : Expr} {scope : Scope} {pos spos py px pi p1 p2 p3 : Pos} {sc : Addr} {sv : List Value} {ns : List Int} (hh : A.handled = none) (hE : EnvOk env L) (B : Base w g) (hsc : g.IsList sc sv.toArray) (hI : IntsAre sv ns) (hl63 : ns.length ≤ 63)
    (ky : env.kindOf (S "drawn") = some .local) (ks : env.kindOf (S "script") = some .local)
    (F : Fr g L s.heap (lk [(S "script", .ref sc)])) (N : News g L s.heap news)
    (hsw : swapsWith (.ListComp elt [⟨.Name (S "cell") px, .Subscript (.Name (S "script") pi) (.Slice none (some (.Constant (.int 4) 0 p1)) none p2) p3, [], 0⟩] scope pos) (some (.Name (S "drawn") py)) spos.line env = pure true)
    (hclos : closureFor scope env = pure []) (hkind : scope.kind = .function) (hcell : ∀ y ∈ scope.names, y.2 ≠ .cell) (hnames : ∀ y ∈ scope.names, y.2 = .local → scope.names.lookup y.1 = some .local) (hx : scope.names.lookup (S "cell") = some .local)
    (helt : ∀ (C : Addr) (i : Int) (t : Tok) (s₃ : Shared) (m₃ : PySem.Str → Option Value), Base w s₃.heap → s₃.heap.Ns C m₃ → m₃ (S "cell") = some (.int i t) → wpAny (MD w) A (eval elt (compEnvC scope [] C env)) (fun y s₄ => RInt y (i.fmod 1000000) ∧ Keeps s₃ s₄) (fun _ _ => False) s₃)
    (k : ∀ (D : Addr) (ys : List Value) (m : Nat) (nw : Led) (h' : Heap) (tk : Nat), IntsAre ys ((ns.take 4).map fun c => c.fmod 1000000) → Fr g L h' (lk [(S "drawn", .ref D), (S "script", .ref sc)]) → News g L h' ((D, Lo ys m) :: news) → wpAny (MD w) A (execs rest env) Q NE { s with heap := h', toks := tk }) :
    wpAny (MD w) A (execs (.Assign [.Name (S "drawn") py] (.ListComp elt [⟨.Name (S "cell") px, .Subscript (.Name (S "script") pi) (.Slice none (some (.Constant (.int 4) 0 p1)) none p2) p3, [], 0⟩] scope pos) spos :: rest) env) Q NE s := by
  have hz : sizeLine = 16777216 := sizeLine_eq
  have hvl := hI.length
  refine wpAny_execs_cons (wpAny_Assign_ListComp_free (fun _ => true) (fun v y => ∃ i t, v = .int i t ∧ RInt y (i.fmod 1000000)) hsw hclos hcell hkind hnames hx ky (by rw [hE.kind]; rfl)
    (Subscript_ (wpAny_Name (wpAny_loadName_local (v := .ref sc) hE.kind ks (hE.loc ▸ F.ns) rfl ?_) rfl)))
  refine wpAny_Slice (wpAny_evalPart_none (wpAny_evalPart_some (wpAny_Constant_int (wpAny_evalPart_none ?_))))
  refine slice_list (s := { s with toks := s.toks + 1 }) F N (hsc.at fun o e => F.keep _ _ e) .none (.int 4 _) (fun h' F' N' => ?_) rfl (hsz := by simp; omega)
  have hd : IntsAre (slicePick sv.toArray none (some 4) none).toList (ns.take 4) := slice_ints_uptoW hI (y := 4) (by decide)
  generalize hpk : (slicePick sv.toArray none (some 4) none) = pk at hd N'
  have hdl := hd.length
  have hl' : h'.IsList (s.heap.objs.size + 1) pk := ⟨_, (N' _ (.head _)).1, rfl, _, rfl⟩
  have hlt : s.heap.objs.size + 1 < h'.objs.size := Heap.lt_size (N' _ (.head _)).1
  have hLlt : L < h'.objs.size := F'.ns.lt
  have hpks : pk.size = (ns.take 4).length := by rw [← hdl, Array.length_toList]
  refine wpAny_pyIter_list hl' ⟨_, _, _, _, _, _, lk [(S "script", .ref sc)], rfl, Walks.list (prog := PR) (w := w) hh h'.objs.size (s.heap.objs.size + 1) (Nat.ne_of_lt hlt) pk, by rw [hpks, List.length_take]; omega, ⟨⟨_, Heap.get?_push_size _ rfl, rfl, rfl⟩, hl'.at fun o e => Heap.get?_push_of_some _ e⟩, ?_, ?_, ?_, ?_, ?_⟩
  · intro b hb
    show b < (h'.push _).objs.size
    rw [Heap.size_push]
    rcases List.mem_cons.mp hb with rfl | hb
    · exact Nat.lt_succ_self _
    · rw [List.mem_singleton.mp hb]; exact Nat.lt_succ_of_lt hlt
  · rw [hE.loc, List.mem_singleton]; exact Nat.ne_of_lt hLlt
  · rw [hE.loc]; exact (F'.push _).ns
  · refine ⟨fun C i v s₃ m₃ E' _ hP hn hm hk htk => ?_, fun C i v s₃ m₃ E' _ hP hp hn hm hk htk => ?_⟩
    · rw [List.forIn_nil]
      exact wpAny_pure ⟨rfl, s₃.heap, s₃.toks, rfl, fun _ _ e => e⟩
    · obtain ⟨n, t, rfl, hn1⟩ := hd.at i v (by rw [Array.getElem?_toList]; exact hP)
      have st : h'.StaysIn s₃.heap := fun b o e => hk b o (by rw [List.mem_singleton]; exact Nat.ne_of_lt (Heap.lt_size e)) (Heap.get?_push_of_some _ e)
      exact wpAny_mono (helt C n t s₃ m₃ ((B.stays F'.keep).stays st) hn hm) (fun y s₄ h => ⟨⟨n, t, rfl, h.1⟩, h.2⟩) fun _ _ e => e.elim
  · intro D h2 tk ys vs hD hl hpl hlen hP hF hns hk
    rw [hE.loc] at hns hk
    rw [lk_cons] at hns
    obtain ⟨m, hpl⟩ := hpl
    have st : ∀ b o', b ≠ L → h'.get? b = some o' → h2.get? b = some o' := fun b o' hb e => hk b o' hb (by rw [List.mem_singleton]; exact Nat.ne_of_lt (Heap.lt_size e)) (Heap.get?_push_of_some _ e)
    have hgL : g.get? L = none := Heap.get?_none_of_le F'.above
    have hD1 : h'.get? D = none := get_none_back (stays_push h' _) hD
    have hvs : vs = pk.toList := same_list (by rw [hlen, Array.length_toList]) fun j v e => by rw [Array.getElem?_toList]; exact hP j v e
    rw [List.filter_eq_self.mpr fun _ _ => rfl] at hF
    have hys : IntsAre ys.toList ((ns.take 4).map fun c => c.fmod 1000000) := by
      rw [hvs] at hF
      exact mod_ints hd hF
    refine k D ys.toList m [] h2 tk hys ⟨hns, fun b o' e => st b o' (fun q => by rw [q, hgL] at e; cases e) (F'.keep b o' e), F'.above⟩ ?_
    intro q hq
    rcases List.mem_cons.mp hq with rfl | hq
    · refine ⟨by simpa using hpl, fun q => ?_, get_none_back F'.keep hD1⟩
      obtain ⟨oL, _, _, hL, _⟩ := F'.ns
      rw [show D = L from q, hL] at hD1; cases hD1
    · have := N' q (.tail _ hq)
      exact ⟨st _ _ this.2.1 this.1, this.2⟩
end
end Mine
end
section
open PySem PySem.W PyProof.Rows PySem.Calls
open PySem.Builtin PySem.Builtin.Str
set_option Elab.async false
set_option linter.unusedVariables false
namespace Mine
theorem slice_tail {w : World} {A : Around} {E : Value → Shared → Prop} {s : Shared} {value slice : Expr} {la : Addr} {vs : List Value} {vl vu : Value} {lo hi : Option Int} {Q : Value → Shared → Prop} (hL : s.heap.IsList la vs.toArray) (pl : IsPart vl lo) (pu : IsPart vu hi) (hz : vs.length ≤ sizeLine)
    (k : Q (.ref (s.heap.objs.size + 1)) { s with heap := (s.heap.push { cls := .type "slice", data := .fields #[vl, vu, .none] }).push { cls := .type "list", data := .seq (slicePick vs.toArray lo hi none) } })
    (hs : ∀ o i, subscripted slice false o i = operate [i, o] (getItem o i) := by intro _ _; rfl) :
    wpAny (MD w) A (subscriptTail value slice (.ref la) (.ref s.heap.objs.size)) Q E { s with heap := s.heap.push { cls := .type "slice", data := .fields #[vl, vu, .none] } } := by
  have hLp : (s.heap.push { cls := .type "slice", data := .fields #[vl, vu, .none] }).IsList la vs.toArray := hL.push _
  unfold subscriptTail
  refine wpAny_bind ?_
  rw [getitemInPython_of_ne (Heap.IsList.typeIs (s := { s with heap := s.heap.push { cls := .type "slice", data := .fields #[vl, vu, .none] } }) hLp).not_modules]
  refine wpAny_bind (wpAny_specialOf (Heap.IsList.typeIs (s := { s with heap := s.heap.push { cls := .type "slice", data := .fields #[vl, vu, .none] } }) hLp) list_getitem_lookup ?_)
  refine wpAny_pure ?_
  refine wpAny_bind ?_
  rw [hs]
  refine wpAny_operating (wpAny_getItem_list_slice hLp (Heap.IsSliceOf.new ..) pl pu .none (by simp) ?_ (by simpa using hz))
  refine wpAny_bind (wpAny_letTemporaryGo (wpAny_pure ?_))
  have e : (s.heap.push { cls := .type "slice", data := .fields #[vl, vu, .none] }).objs.size = s.heap.objs.size + 1 := Heap.size_push ..
  show Q (.ref (s.heap.push _).objs.size) _
  rw [e]; exact k

/-- what the walk of law leans on: the plain law -/
structure PlainLaw (ns : List Int) : Prop where
  hand : ∀ c0 c1, pairsL[(((cellsOf ns).sum.fdiv 5).fmod 8).toNat]? = some (ms [c0, c1]) → 0 < (handOf c0 c1).length ∧ (handOf c0 c1).length ≤ 48 ∧ (∀ n ∈ (handOf c0 c1).map (·.1), (textAt (handOf c0 c1) n).length ≤ 1000) ∧ (0 : Int) ∉ (handOf c0 c1).map (·.1) ∧
    (wordOf (handOf c0 c1) (cellsOf ns)).length ≤ 50 ∧ NumOk (handOf c0 c1) (wordOf (handOf c0 c1) (cellsOf ns)) ∧
    ∀ xs, NumWay (handOf c0 c1) (wordOf (handOf c0 c1) (cellsOf ns)) xs → LawOk ((cellsOf ns).sum.fmod 5).toNat (handOf c0 c1) (wordOf (handOf c0 c1) (cellsOf ns)) (numbersBy (handOf c0 c1) xs)
theorem pairs_two : ∀ i : Nat, i < 8 → ∃ c0 c1, pairsL[i]? = some (ms [c0, c1]) := by
  intro i hi
  have : i = 0 ∨ i = 1 ∨ i = 2 ∨ i = 3 ∨ i = 4 ∨ i = 5 ∨ i = 6 ∨ i = 7 := by omega
  rcases this with rfl | rfl | rfl | rfl | rfl | rfl | rfl | rfl
  · exact ⟨42, 61, by decide +kernel⟩
  · exact ⟨45, 62, by decide +kernel⟩
  · exact ⟨60, 61, by decide +kernel⟩
  · exact ⟨33, 61, by decide +kernel⟩
  · exact ⟨62, 61, by decide +kernel⟩
  · exact ⟨47, 61, by decide +kernel⟩
  · exact ⟨38, 61, by decide +kernel⟩
  · exact ⟨124, 61, by decide +kernel⟩
theorem IsTS_item {xs : List PySem.Str} {a : Addr} {vs : List Value} (h : StrsAre vs xs) {i : Nat} {x : PySem.Str} (e : xs[i]? = some x) : ∃ t, vs[i]? = some (.str x t) := h.at e
theorem t_tupleS {w : World} {A : Around} {I : HP} {value slice : Expr} {xs : List PySem.Str} {i : Int} {x : PySem.Str} {a b : Value} {n1 n2 : Led} (ha : IsTS xs a n1) (hb : IsI i b n2) (h0 : 0 ≤ i) (hx : xs[i.toNat]? = some x) (hz : i < 2 ^ 63) (hs : Plain slice) :
    Tr w A (I.and (n2 ++ n1)) (subscriptTail value slice a b) (fun v nu => IsS x v (nu ++ (n2 ++ n1))) := by
  obtain ⟨c, vs, rfl, hm, hS⟩ := ha; obtain ⟨t, rfl⟩ := hb
  obtain ⟨tx, htx⟩ := hS.at hx
  have hlt : i.toNat < vs.length := (List.getElem?_eq_some_iff.mp htx).1
  exact .mk fun s _ hI _ k => item_tupleT (l := vs) (j := i.toNat) ⟨_, hI.2 _ (List.mem_append_right _ hm), rfl, _, rfl⟩ (by omega) hz (PySem.seqIndex_of h0 (by omega)) htx (k _ [] _ _ (stays_refl _) .nil ⟨_, rfl⟩) (hs _ _)
theorem g_hand (w : World) : nsIn (KK w) mainGlobals (S "_law_hand") = some (some (.ref 94)) := by kernel_rfl
theorem k_hand (w : World) : keepIn (KK w) (.ref 94) = true := by kernel_rfl
theorem g_word (w : World) : nsIn (KK w) mainGlobals (S "_law_word") = some (some (.ref 99)) := by kernel_rfl
theorem k_word (w : World) : keepIn (KK w) (.ref 99) = true := by kernel_rfl
theorem g_nums (w : World) : nsIn (KK w) mainGlobals (S "_law_numbers") = some (some (.ref 111)) := by kernel_rfl
theorem k_nums (w : World) : keepIn (KK w) (.ref 111) = true := by kernel_rfl
theorem g_wri (w : World) : nsIn (KK w) mainGlobals (S "_law_written") = some (some (.ref 80)) := by kernel_rfl
theorem k_wri (w : World) : keepIn (KK w) (.ref 80) = true := by kernel_rfl
theorem g_spe (w : World) : nsIn (KK w) mainGlobals (S "_law_spelled") = some (some (.ref 87)) := by kernel_rfl
theorem k_spe (w : World) : keepIn (KK w) (.ref 87) = true := by kernel_rfl
theorem g_hel (w : World) : nsIn (KK w) mainGlobals (S "_law_held") = some (some (.ref 116)) := by kernel_rfl
theorem k_hel (w : World) : keepIn (KK w) (.ref 116) = true := by kernel_rfl
theorem g_list (w : World) : nsIn (KK w) mainGlobals (S "list") = some none := by kernel_rfl
theorem b_list : bootBuiltins (S "list") = some (.type "list") := PyProof.Rows.boot_list
theorem g_zip (w : World) : nsIn (KK w) mainGlobals (S "zip") = some none := by kernel_rfl
theorem b_zip : bootBuiltins (S "zip") = some (.type "zip") := PyProof.Rows.boot_zip
theorem g_isi (w : World) : nsIn (KK w) mainGlobals (S "isinstance") = some none := by kernel_rfl
theorem b_isi : bootBuiltins (S "isinstance") = some (.builtin "isinstance") := PyProof.Rows.boot_isinstance
theorem g_bool (w : World) : nsIn (KK w) mainGlobals (S "bool") = some none := by kernel_rfl
theorem b_bool : bootBuiltins (S "bool") = some (.type "bool") := PyProof.Rows.boot_bool
end Mine
end
section
open PySem PySem.W PyProof.Rows PySem.Calls
open PySem.Builtin PySem.Builtin.Str
set_option Elab.async false
set_option linter.unusedVariables false
namespace Mine
theorem page_len (k : Nat) (x : PySem.Str) (h : x.length ≤ 100000) : (pageT k x).length ≤ 500000 := by
  unfold pageT
  rw [len_ms]
  have := flat_len (l := tl x) (f := ecK k) (n := 5) fun d _ => ec_len _ _ d
  rw [len_tl] at h
  omega
theorem strs_paired2 {f : Int → PySem.Str} : ∀ {vs ys : List Value} {xs : List Int}, IntsAre vs xs → Paired (fun v y => ∃ _n : Led, ∃ x t, v = Value.int x t ∧ ∃ t', y = .str (f x) t') vs ys → StrsAre ys (xs.map f)
  | _, _, _, .nil, .nil => .nil
  | _, _, _, .cons n t r, .cons h p => by
    obtain ⟨_, x, u, e, t', rfl⟩ := h
    cases e
    exact .cons _ _ (strs_paired2 r p)
theorem sum_le2 {α : Type} {f : α → Nat} {b : Nat} : ∀ {l : List α}, (∀ x ∈ l, f x ≤ b) → (l.map f).sum ≤ l.length * b
  | [], _ => by simp
  | x :: r, h => by
    have h1 := h x (.head _)
    have h2 := sum_le2 fun y hy => h y (List.mem_cons_of_mem x hy)
    rw [List.map_cons, List.sum_cons, List.length_cons, Nat.succ_mul]; omega

theorem t_listS {w : World} {A : Around} {I : HP} {value slice : Expr} {xs : List PySem.Str} {i : Int} {x : PySem.Str} {a b : Value} {n1 n2 : Led} (ha : IsLS xs a n1) (hb : IsI i b n2) (h0 : 0 ≤ i) (hx : xs[i.toNat]? = some x) (hz : i < 2 ^ 63) (hs : Plain slice) :
    Tr w A (I.and (n2 ++ n1)) (subscriptTail value slice a b) (fun v nu => IsS x v (nu ++ (n2 ++ n1))) := by
  obtain ⟨c, vs, k, rfl, hm, hS⟩ := ha; obtain ⟨t, rfl⟩ := hb
  obtain ⟨tx, htx⟩ := hS.at hx
  exact (t_list (v := .str x tx) (by intro h y; exact isList_of (y.2 _ (List.mem_append_right _ hm))) h0 htx hz hs).mono fun v nu hv => ⟨tx, hv⟩
def tPart (Nn : List (PySem.Str × Int)) (name want : PySem.Str) (p : PySem.Str × PySem.Str) : Int := if ((getA Nn p.1).getD 0 != 0 && decide ((name.length : Int) ≤ p.1.length)) = true then (if ell want p.2 then (getA Nn p.1).getD 0 else 0) else 0
set_option maxRecDepth 100000 in
set_option maxHeartbeats 16000000 in
theorem law_end {w : World} {A' : Around} {g : Heap} {L fa d na dn wa : Addr} {cd : Value} {od oc on : Obj} {kvs : List (Int × Value)} {D : List (Int × PySem.Str)} {nv wv : List Value} {nn nwv kd : Nat} {tki tpn tfo : Tok} {l : List (PySem.Str × Value)} {T : Led} {names : List PySem.Str} {plain forms whole : PySem.Str} {word : List Int} {Nn : List (PySem.Str × Int)} {kvsN : List (PySem.Str × Value)} {s : Shared}
    (G : GBase w g) (hR' : Rm A' 4) (hkd5 : kd < 5) (hod : od.IsDictOf (intKind PR w) kvs) (hlowd : (d == sysModules) = false) (hreld : Rel RS kvs D) (hoc : oc.data = .cell (some (.ref d))) (hon : on.IsDictOf (strKind PR w) kvsN) (hlown : (dn == sysModules) = false) (hrelN : Rel RInt kvsN Nn) (hnames : Nn.map (·.1) = names)
    (hnS : StrsAre nv names) (hwI : IntsAre wv word) (hw50 : word.length ≤ 50) (hwk : ∀ n ∈ word, n ∈ D.map (·.1)) (hDl : ∀ n ∈ D.map (·.1), (textAt D n).length ≤ 1000) (hnl : names.length ≤ 1000) (hLn : ∀ n ∈ names, n.length ≤ 1000)
    (hLaP : ∀ c ∈ tl plain, c ∈ alpha) (hLlP : plain.length ≤ 100000) (hLaF : ∀ c ∈ tl forms, c ∈ alpha) (hLlF : forms.length ≤ 100000) (hwhole : PySem.Str.join (S " ") (word.map (textAt D)) = whole) (hLfirst : names[0]? = some whole)
    (hLheld : ∃ own, (Txt.split (pageT kd plain) (S ","))[0]? = some own ∧ own.length ≤ 10000 ∧ (gotsOf own).all (heldAt own) = true)
    (hLtot : ∀ (i : Nat) (name want : PySem.Str), names[i]? = some name → (Txt.split (pageT kd forms) (S ","))[i]? = some want → totalOf Nn (Txt.split (pageT kd plain) (S ",")) name want = if name == whole then 1 else 0)
    (hlk : lk l (S "kind") = some (.int kd tki)) (hln : lk l (S "numbers") = some (.ref dn)) (hlw : lk l (S "word") = some (.ref wa)) (hlna : lk l (S "names") = some (.ref na)) (hlpl : lk l (S "plain") = some (.str plain tpn)) (hlfo : lk l (S "forms") = some (.str forms tfo))
    (mdn : (dn, on) ∈ T) (mwa : (wa, Lo wv nwv) ∈ T) (md : (d, od) ∈ T) (mL : (L + 1, oc) ∈ T) (hend : ∀ h', g.StaysIn h' → (∀ p ∈ T, h'.get? p.1 = some p.2) → TabOk h')
    (F : Fr g L s.heap (lk l)) (N : News g L s.heap ((na, Lo nv nn) :: T)) (ht : 0 < s.toks) :
    wpAny (MD w) A' (execs (lawBody.drop 9) (envX (S "law") lawScope L fa cd [(S "hand", L + 1)])) (RetG g (IsB true) s) NE s := by
  have hz : sizeLine = 16777216 := sizeLine_eq
  generalize hEnv : envX (S "law") lawScope L fa cd [(S "hand", L + 1)] = env
  have hE : EnvOk env L := by subst hEnv; exact ⟨rfl, rfl, rfl, rfl⟩
  have kki : env.kindOf (S "kind") = some .local := by subst hEnv; rfl
  have kha : env.kindOf (S "hand") = some .cell := by subst hEnv; rfl
  have cha : env.cells.lookup (S "hand") = some (L + 1) := by subst hEnv; rfl
  have kwo : env.kindOf (S "word") = some .local := by subst hEnv; rfl
  have knu : env.kindOf (S "numbers") = some .local := by subst hEnv; rfl
  have kna : env.kindOf (S "names") = some .local := by subst hEnv; rfl
  have kpl : env.kindOf (S "plain") = some .local := by subst hEnv; rfl
  have kfo : env.kindOf (S "forms") = some .local := by subst hEnv; rfl
  have kpa : env.kindOf (S "page") = some .local := by subst hEnv; rfl
  have kwh : env.kindOf (S "whole") = some .local := by subst hEnv; rfl
  have knm : env.kindOf (S "name") = some .local := by subst hEnv; rfl
  have kwt : env.kindOf (S "want") = some .local := by subst hEnv; rfl
  have kto : env.kindOf (S "total") = some .local := by subst hEnv; rfl
  have kot : env.kindOf (S "other") = some .local := by subst hEnv; rfl
  have kgo : env.kindOf (S "got") = some .local := by subst hEnv; rfl
  have ktl : env.kindOf (S "told") = some .local := by subst hEnv; rfl
  have kgr : env.kindOf (S "_law_written") = some .globalImplicit := by subst hEnv; rfl
  have kgs : env.kindOf (S "_law_spelled") = some .globalImplicit := by subst hEnv; rfl
  have kgh : env.kindOf (S "_law_held") = some .globalImplicit := by subst hEnv; rfl
  have kgz : env.kindOf (S "zip") = some .globalImplicit := by subst hEnv; rfl
  have kge : env.kindOf (S "_ellipsis_match") = some .globalImplicit := by subst hEnv; rfl
  have kgi : env.kindOf (S "isinstance") = some .globalImplicit := by subst hEnv; rfl
  have kgb : env.kindOf (S "bool") = some .globalImplicit := by subst hEnv; rfl
  have kgl : env.kindOf (S "len") = some .globalImplicit := by subst hEnv; rfl
  have hbl : (S " ").length = 1 := blank_len
  have hwvl := hwI.length
  have hpl5 := page_len kd plain hLlP
  have hfl5 := page_len kd forms hLlF
  have hwritten : ∀ {I : HP} {x : PySem.Str} {t : Tok} {vs : List Value} {n k : Led}, (∀ h, I.on h → Base w h) → (∀ c ∈ tl x, c ∈ alpha) → x.length ≤ 100000 → LV [IsV (.int kd tki), IsV (.str x t)] vs n → Tr w A' (I.and n) (call (.ref 80) vs) (fun v nu => IsS (pageT kd x) v (nu ++ k)) := by
    intro I x t vs n k hB ha hx h
    obtain ⟨a, b, rfl, u1, u2⟩ := LV2 h; obtain rfl := u1.v; obtain rfl := u2.v
    have := written_call (w := w) (A := A') (I := I.and n) (l := tl x) (ta := t) (tk := tki) hkd5 (fun h x => hB h x.1) (hR'.less (by decide)) ha (by rw [← len_tl]; exact hx)
    rw [ms_tl] at this
    exact this
  -- page, whole
  refine st_tuple (names := [S "page", S "whole"]) (V := LV [IsS (pageT kd plain), IsS whole]) hR'.hh hE
    (.cons (Pu.callF (V := LV [IsV (.int kd tki), IsV (.str plain tpn)]) (FR.base G.base) (k_wri w) (Pu.glob hE (FR.base G.base) kgr (g_wri w)) (.cons (Pu.loc hE hlk kki) (.cons (Pu.loc hE hlpl kpl) .nil)) fun vs n h => hwritten (FR.base G.base) hLaP hLlP h)
      (.cons (Pu.strm PySem.F.slot_str_join PySem.F.type_str_join Pu.str (V := LV [IsLC wv.length (fun i v => wv[i]? = some v) (fun _ => true) (fun v y _ => ∃ x t, v = .int x t ∧ ∃ t', y = .str (textAt D x) t')]) (.cons (Pu.comp (V := IsV (.ref wa)) (cl := [(S "hand", L + 1)]) (fun _ => true) (fun v y _ => ∃ x t, v = .int x t ∧ ∃ t', y = .str (textAt D x) t') (by subst hEnv; rfl) (Pu.loc hE hlw kwo)
        (fun v nw hv => by cases hv; exact Src.list hR'.hh (by intro h x; exact FR.list (.tail _ mwa) h x.1)) (by omega) (fun nn C i v hP hnn => rfl) (fun nn C i v hP _ hnn => ?_)) .nil) fun t n vs m hvs => by
      rw [← hwhole]
      exact (c_join (I := FR g L l ((na, Lo nv nn) :: T)) (ys := word.map (textAt D)) (fun v n' hv => by
        obtain ⟨a, ys, k', us, rfl, hm, hl, hP, hpair⟩ := hv
        have hus : us = wv := same_list hl hP
        rw [hus, List.filter_eq_self.mpr fun _ _ => rfl] at hpair
        exact ⟨a, ys, rfl, strs_paired2 hwI hpair, fun h x => isList_of (x.2 _ hm)⟩) (by
          have h1 := sum_le2 (f := fun x : PySem.Str => x.length) (l := word.map (textAt D)) (b := 1000) (fun x hx => by obtain ⟨y, hy, rfl⟩ := List.mem_map.mp hx; exact hDl y (hwk y hy))
          rw [List.length_map] at h1
          rw [hbl, List.length_map]; omega) hvs).pre fun h x => ⟨x.1, fun p hp => x.2 p (List.mem_append_left _ hp)⟩) .nil))
    (fun vs m h => by obtain ⟨_, _, rfl, _⟩ := LV2 h; rfl) (by simp [hz]) (by simp [kpa, kwh]) F N ht (fun us m h1 tk1 ht1 hv F1 N1 => ?_) rfl (by subst hEnv; rfl)
  · obtain ⟨n, tn, rfl, hn⟩ := hwI.at i v hP
    obtain ⟨tt, hvt⟩ := (⟨Heap.dictOf_iff.mpr ⟨od, (N _ (.tail _ md)).1, hod⟩, hreld, hlowd⟩ : HandIn w s.heap d kvs D).at (hwk n (List.mem_of_getElem? hn))
    refine (Pu.key (Pu.cell rfl (by subst hEnv; rfl) (by rfl) (CF.cell (hnn _ (.tail _ mL)) hoc)) (CF.dict (hnn _ (.tail _ md)) hod) (CF.loc (comp_env hE rfl) (by subst hEnv; rfl)) (fun u n hu => by cases hu; exact intKind_is PR w _ _) hvt).mono fun y n' hy => ⟨n, tn, rfl, tt, hy⟩
  obtain ⟨u1, u2, rfl, hu1, hu2⟩ := LV2 hv
  obtain ⟨tpg, rfl⟩ := hu1.s
  obtain ⟨twh, rfl⟩ := hu2.s
  have N1' : News g L h1 ((na, Lo nv nn) :: T) := fun p hp => N1 p (List.mem_append_right _ hp)
  clear N1 hv hu1 hu2
  have F1' : Fr g L h1 (lk ((S "page", .str (pageT kd plain) tpg) :: (S "whole", .str whole twh) :: l)) := F1
  clear F1
  have lpg : lk ((S "page", Value.str (pageT kd plain) tpg) :: (S "whole", .str whole twh) :: l) (S "page") = some (.str (pageT kd plain) tpg) := lk_eq
  have lwh : lk ((S "page", Value.str (pageT kd plain) tpg) :: (S "whole", .str whole twh) :: l) (S "whole") = some (.str whole twh) := lk_ne lk_eq
  have lki : lk ((S "page", Value.str (pageT kd plain) tpg) :: (S "whole", .str whole twh) :: l) (S "kind") = some (.int kd tki) := lk_ne (lk_ne hlk)
  have lnu : lk ((S "page", Value.str (pageT kd plain) tpg) :: (S "whole", .str whole twh) :: l) (S "numbers") = some (.ref dn) := lk_ne (lk_ne hln)
  have lna : lk ((S "page", Value.str (pageT kd plain) tpg) :: (S "whole", .str whole twh) :: l) (S "names") = some (.ref na) := lk_ne (lk_ne hlna)
  have lpl : lk ((S "page", Value.str (pageT kd plain) tpg) :: (S "whole", .str whole twh) :: l) (S "plain") = some (.str plain tpn) := lk_ne (lk_ne hlpl)
  have lfo : lk ((S "page", Value.str (pageT kd plain) tpg) :: (S "whole", .str whole twh) :: l) (S "forms") = some (.str forms tfo) := lk_ne (lk_ne hlfo)
  generalize (S "page", Value.str (pageT kd plain) tpg) :: (S "whole", .str whole twh) :: l = l1 at *
  clear hwk
  obtain ⟨tw0, htw0⟩ := hnS.at hLfirst
  obtain ⟨own, hown0, hownl, hownall⟩ := hLheld
  have hc1 : ((S ",").length == 0) = false := by decide +kernel
  refine st_if (c := ((pageT kd plain != pageT kd plain) || ((whole != whole) || ((!((gotsOf own).all (heldAt own))) || false))))
    (or_cons (Te.cmp (Pu.loc hE lpg kpa).asS (Pu.callF (V := LV [IsV (.int kd tki), IsV (.str plain tpn)]) (U := IsS (pageT kd plain)) (FR.base G.base) (k_spe w) (Pu.glob hE (FR.base G.base) kgs (g_spe w)) (.cons (Pu.loc hE lki kki) (.cons (Pu.loc hE lpl kpl) .nil)) fun vs n h => by
        obtain ⟨a, b, rfl, u1, u2⟩ := LV2 h; obtain rfl := u1.v; obtain rfl := u2.v
        have := spelled_call (w := w) (A := A') (I := (FR g L l1 ((na, Lo nv nn) :: T)).and n) (l := tl plain) (ta := tpn) (tk := tki) hkd5 (fun h x => FR.base G.base h x.1) (hR'.less (by decide)) hLaP (by rw [← len_tl]; exact hLlP)
        rw [ms_tl] at this
        exact this) fun _ _ _ _ ha hb => op_neS ha hb)
      fun _ => or_cons (Te.cmp (Pu.item (v := .str whole tw0) (Pu.loc hE lna kna) (FR.list (.head _)) (Pu.int (i := 0)) (by decide) htw0).asS (Pu.loc hE lwh kwh).asS fun _ _ _ _ ha hb => op_neS ha hb)
      fun _ => or_cons (Te.not (Te.val (Pu.callF (V := LV [IsS own]) (U := IsB ((gotsOf own).all (heldAt own))) (FR.base G.base) (k_hel w) (Pu.glob hE (FR.base G.base) kgh (g_hel w))
        (.cons (Pu.sub (P := IsLS (Txt.split (pageT kd plain) (S ","))) (R := IsI 0) (U := IsS own) (Pu.strm PySem.F.slot_str_split PySem.F.type_str_split (Pu.loc hE lpg kpa).asS (.cons Pu.str .nil) fun t n vs m hvs => c_split hc1 (by omega) hvs) Pu.int fun a b n1 n2 ha hb => t_listS ha hb (by decide) hown0 (by decide) (by intro _ _; rfl)) .nil)
        fun vs n h => by
          obtain ⟨a, rfl, u⟩ := LV1 h; obtain ⟨t, rfl⟩ := u.s
          exact held_call (by intro h x; exact FR.base G.base h x.1) (hR'.less (by decide)) hownl) (fun _ _ h => tt_bool h)))
      fun _ => or_nil) F1' N1' ht1 fun h2 tk2 ht2 F2 N2 => ?_
  rw [show ((pageT kd plain != pageT kd plain) || ((whole != whole) || ((!((gotsOf own).all (heldAt own))) || false))) = false by rw [hownall]; simp]
  refine st_nil ?_
  have hnaL := (N2 _ (.head _)).2.1
  generalize hpgs : Txt.split (pageT kd plain) (S ",") = gots at *
  generalize hwts : Txt.split (pageT kd forms) (S ",") = wants at *
  have hgl : ∀ x ∈ gots, x.length ≤ 1048576 := fun x hx => by
    rw [← hpgs] at hx; exact Nat.le_trans (part_short hx) (by omega)
  have hwl : ∀ x ∈ wants, x.length ≤ 1048576 := fun x hx => by
    rw [← hwts] at hx; exact Nat.le_trans (part_short hx) (by omega)
  refine st_forRawT (ev_callT (V := LV [IsV (.ref na), IsLS wants]) (Pu.blt hE (FR.base G.base) kgz (g_zip w) b_zip) (.cons (Pu.loc hE lna kna) (.cons (Pu.strm PySem.F.slot_str_split PySem.F.type_str_split (Pu.callF (V := LV [IsV (.int kd tki), IsV (.str forms tfo)]) (FR.base G.base) (k_wri w) (Pu.glob hE (FR.base G.base) kgr (g_wri w)) (.cons (Pu.loc hE lki kki) (.cons (Pu.loc hE lfo kfo) .nil)) fun vs n h => hwritten (FR.base G.base) hLaF hLlF h)
    (.cons Pu.str .nil) fun t n vs m hvs => by rw [← hwts]; exact c_split hc1 (by omega) hvs) .nil)) F2 N2 ht2 fun vs n h3 tk3 ht3 hvs F3 N3 => ?_)
  obtain ⟨a1, a2, rfl, u1, ⟨m2, hm2, wl, wvl, wn, rfl, hmwl, hwS⟩⟩ := LV2 hvs
  obtain rfl := u1.v
  have N3' : News g L h3 ((wl, Lo wvl wn) :: (na, Lo nv nn) :: T) := fun p hp => by
    rcases List.mem_cons.mp hp with rfl | hp
    · exact N3 _ (List.mem_append_left _ (hm2 _ hmwl))
    · exact N3 _ (List.mem_append_right _ hp)
  clear N3 N2 F2
  refine it_zip hR'.hh hE knm kwt (isList_of (N3' _ (.tail _ (.head _))).1) (isList_of (N3' _ (.head _)).1) hnaL (N3' _ (.head _)).2.1 F3 N3' ht3
    (fun i l₁ news₁ => (∀ p ∈ (na, Lo nv nn) :: T, p ∈ news₁) ∧ lk l₁ (S "page") = some (.str (pageT kd plain) tpg) ∧ lk l₁ (S "numbers") = some (.ref dn) ∧ lk l₁ (S "names") = some (.ref na) ∧ lk l₁ (S "whole") = some (.str whole twh))
    ⟨fun p hp => .tail _ hp, lpg, lnu, lna, lwh⟩ ?_ ?_
  · rintro i v u l₁ news₁ own1 s₁ hv hu ⟨hTm, qpg, qnu, qna, qwh⟩ F₁ N₁ ht₁ ⟨hh₁, tk₁, rfl⟩
    obtain ⟨name, tnm, rfl, hname⟩ := hnS.item i v hv
    obtain ⟨want, twt, rfl, hwant⟩ := hwS.item i u hu
    have htotal := hLtot i name want hname hwant
    have hwantL := hwl want (List.mem_of_getElem? hwant)
    have hnameL := hLn name (List.mem_of_getElem? hname)
    have N₁' : News g L hh₁ (own1 ++ ((na, Lo nv nn) :: T)) := fun p hp => by
      rcases List.mem_append.mp hp with hp | hp
      · exact N₁ p (List.mem_append_left _ hp)
      · exact N₁ p (List.mem_append_right _ (hTm p hp))
    clear N₁
    refine st_assign hE kto (Pu.int (i := 0)) F₁ N₁' ht₁ fun v nw h4 tk4 ht4 hv4 F4 N4 => ?_
    obtain ⟨tt0, rfl⟩ := hv4
    have N4' : News g L h4 (own1 ++ ((na, Lo nv nn) :: T)) := fun p hp => N4 p (List.mem_append_right _ hp)
    clear N4 N₁' F₁
    refine st_forRawT (ev_callT (V := LV [IsV (.ref na), IsLS gots]) (Pu.blt hE (FR.base G.base) kgz (g_zip w) b_zip) (.cons (Pu.loc hE (lk_ne (lk_ne (lk_ne qna))) kna) (.cons (Pu.strm PySem.F.slot_str_split PySem.F.type_str_split (Pu.loc hE (lk_ne (lk_ne (lk_ne qpg))) kpa).asS
      (.cons Pu.str .nil) fun t n vs m hvs => by rw [← hpgs]; exact c_split hc1 (by omega) hvs) .nil)) F4 N4' ht4 fun vs n h5 tk5 ht5 hvs5 F5 N5 => ?_)
    obtain ⟨b1, b2, rfl, u1, ⟨m5, hm5, gl, gvl, gn, rfl, hmgl, hgS⟩⟩ := LV2 hvs5
    obtain rfl := u1.v
    have N5' : News g L h5 ((gl, Lo gvl gn) :: (own1 ++ ((na, Lo nv nn) :: T))) := fun p hp => by
      rcases List.mem_cons.mp hp with rfl | hp
      · exact N5 _ (List.mem_append_left _ (hm5 _ hmgl))
      · exact N5 _ (List.mem_append_right _ hp)
    clear N5 N4' F4
    have hzipl : min nv.length gvl.length = (names.zip gots).length := by rw [List.length_zip, hnS.len_eq, hgS.len_eq]
    refine it_zip hR'.hh hE kot kgo (isList_of (N5' _ (.tail _ (List.mem_append_right _ (.head _)))).1) (isList_of (N5' _ (.head _)).1) hnaL (N5' _ (.head _)).2.1 F5 N5' ht5
      (fun j l₂ news₂ => (∀ p ∈ own1 ++ ((na, Lo nv nn) :: T), p ∈ news₂) ∧ (∃ tt, lk l₂ (S "total") = some (.int (((names.zip gots).take j).map (tPart Nn name want)).sum tt)) ∧ lk l₂ (S "page") = some (.str (pageT kd plain) tpg) ∧ lk l₂ (S "numbers") = some (.ref dn) ∧ lk l₂ (S "names") = some (.ref na) ∧ lk l₂ (S "whole") = some (.str whole twh) ∧
        lk l₂ (S "name") = some (.str name tnm) ∧ lk l₂ (S "want") = some (.str want twt))
      ⟨fun p hp => .tail _ hp, ⟨tt0, lk_eq⟩, lk_ne (lk_ne (lk_ne qpg)), lk_ne (lk_ne (lk_ne qnu)), lk_ne (lk_ne (lk_ne qna)), lk_ne (lk_ne (lk_ne qwh)), lk_ne (lk_ne lk_eq), lk_ne lk_eq⟩ ?_ ?_
    · rintro j v u l₂ news₂ own2 s₂ hv2 hu2 ⟨hTm2, ⟨tt, rto⟩, rpg, rnu, rna, rwh, rnm, rwt⟩ F₂ N₂ ht₂ ⟨hh₂, tk₂, rfl⟩
      obtain ⟨other, tot, rfl, hother⟩ := hnS.item j v hv2
      obtain ⟨got, tgo, rfl, hgot⟩ := hgS.item j u hu2
      have hgotL := hgl got (List.mem_of_getElem? hgot)
      have hotherL := hLn other (List.mem_of_getElem? hother)
      have hzip : (names.zip gots)[j]? = some (other, got) := by rw [List.getElem?_zip_eq_some]; exact ⟨hother, hgot⟩
      have hsum : (((names.zip gots).take (j + 1)).map (tPart Nn name want)).sum = (((names.zip gots).take j).map (tPart Nn name want)).sum + tPart Nn name want (other, got) := by
        rw [List.take_add_one, hzip, List.map_append, List.sum_append]; simp
      generalize (((names.zip gots).take j).map (tPart Nn name want)).sum = acc at *
      have N₂' : News g L hh₂ (own2 ++ (own1 ++ ((na, Lo nv nn) :: T))) := fun p hp => by
        rcases List.mem_append.mp hp with hp | hp
        · exact N₂ p (List.mem_append_left _ hp)
        · exact N₂ p (List.mem_append_right _ (hTm2 p hp))
      clear N₂
      have mdn2 : (dn, on) ∈ own2 ++ (own1 ++ ((na, Lo nv nn) :: T)) := List.mem_append_right _ (List.mem_append_right _ (.tail _ mdn))
      have hoN : other ∈ Nn.map (·.1) := by rw [hnames]; exact List.mem_of_getElem? hother
      obtain ⟨bo, hbo, _⟩ := getA_some hoN
      have hN1 : getA Nn other = some ((getA Nn other).getD 0) := by rw [hbo]; rfl
      obtain ⟨vo, hvo, to, rfl⟩ := hrelN.get hN1
      refine st_if (c := ((getA Nn other).getD 0 != 0 && decide ((name.length : Int) ≤ other.length))) (Te.and2 (Te.cmp (Pu.key (Pu.loc hE (lk_ne (lk_ne rnu)) knu) (FR.dict mdn2 hon) (Pu.loc hE (lk_ne lk_eq) kot) (fun u n hu => by cases hu; exact strKind_is PR w _ _) hvo).asI Pu.int fun _ _ _ _ ha hb => op_neI ha hb)
        fun _ => Te.cmp (Pu.callB (V := LV [IsS other]) (Pu.blt hE (FR.base G.base) kgl (g_len w) b_len) (.cons (Pu.loc hE (lk_ne lk_eq) kot).asS .nil) fun _ _ h => c_lenS (by omega) h) (Pu.callB (V := LV [IsS name]) (Pu.blt hE (FR.base G.base) kgl (g_len w) b_len) (.cons (Pu.loc hE (lk_ne (lk_ne rnm)) knm).asS .nil) fun _ _ h => c_lenS (by omega) h) fun _ _ _ _ ha hb => op_geI ha hb) F₂ N₂' ht₂ fun h6 tk6 ht6 F6 N6 => ?_
      cases hc : ((getA Nn other).getD 0 != 0 && decide ((name.length : Int) ≤ other.length)) with
      | false =>
        have hz0 : tPart Nn name want (other, got) = 0 := if_neg (by rw [hc]; decide)
        refine st_nil (st_nil (LE.next (news₂ := own1 ++ ((na, Lo nv nn) :: T)) ht6 F6 N6 (fun p hp => .inl (List.mem_map.mpr ⟨_, hTm2 p hp, rfl⟩)) ⟨fun p hp => hp, ⟨tt, ?_⟩, lk_ne (lk_ne rpg), lk_ne (lk_ne rnu), lk_ne (lk_ne rna), lk_ne (lk_ne rwh), lk_ne (lk_ne rnm), lk_ne (lk_ne rwt)⟩))
        rw [hsum, hz0, Int.add_zero]; exact lk_ne (lk_ne rto)
      | true =>
        have hz1 : tPart Nn name want (other, got) = if ell want got then (getA Nn other).getD 0 else 0 := if_pos hc
        refine st_assign (V := IsB (ell want got)) hE ktl (Pu.callF (V := LV [IsV (.str want twt), IsV (.str got tgo)]) (FR.base G.base) (k_em w) (Pu.glob hE (FR.base G.base) kge (g_em w)) (.cons (Pu.loc hE (lk_ne (lk_ne rwt)) kwt) (.cons (Pu.loc hE lk_eq kgo) .nil)) fun vs n h => by
          obtain ⟨a, b, rfl, u1, u2⟩ := LV2 h; obtain rfl := u1.v; obtain rfl := u2.v
          exact ell_call (by intro h x; exact FR.base G.base h x.1) (hR'.less (by decide)) hwantL hgotL) F6 N6 ht6 fun v nw h7 tk7 ht7 hv7 F7 N7 => ?_
        cases hv7
        have N7' : News g L h7 (own2 ++ (own1 ++ ((na, Lo nv nn) :: T))) := fun p hp => N7 p (List.mem_append_right _ hp)
        clear N7 N6
        refine st_if (c := !true) (Te.not (Te.val (Pu.callB (V := LV [IsB (ell want got), IsV (.type "bool")]) (Pu.blt hE (FR.base G.base) kgi (g_isi w) b_isi) (.cons (Pu.loc hE lk_eq ktl).asB (.cons (Pu.blt hE (FR.base G.base) kgb (g_bool w) b_bool) .nil)) fun vs n h => c_isbool h) (fun _ _ h => tt_bool h))) F7 N7' ht7 fun h8 tk8 ht8 F8 N8 => ?_
        refine st_nil ?_
        refine st_aug (V := IsI (acc + if ell want got then (getA Nn other).getD 0 else 0)) hE kto (lk_ne (lk_ne (lk_ne rto))) (P := IsI (if ell want got then (getA Nn other).getD 0 else 0)) (Pu.ifexp (c := ell want got) (Te.val (Pu.loc hE lk_eq ktl).asB fun _ _ h => tt_bool h) (fun hc => by
            rw [hc]; exact (Pu.key (Pu.loc hE (lk_ne (lk_ne (lk_ne rnu))) knu) (FR.dict mdn2 hon) (Pu.loc hE (lk_ne (lk_ne lk_eq)) kot) (fun u n hu => by cases hu; exact strKind_is PR w _ _) hvo).asI) (fun hc => by rw [hc]; exact Pu.int)) (fun b n hb => op_iadd hb) F8 N8 ht8 fun v nw h9 tk9 ht9 hv9 F9 N9 => ?_
        obtain ⟨t9, rfl⟩ := hv9
        refine st_nil (st_nil (LE.next (news₂ := own1 ++ ((na, Lo nv nn) :: T)) ht9 F9 (fun p hp => N9 p (List.mem_append_right _ hp)) (fun p hp => .inl (List.mem_map.mpr ⟨_, hTm2 p hp, rfl⟩)) ⟨fun p hp => hp, ⟨t9, ?_⟩, lk_ne (lk_ne (lk_ne (lk_ne rpg))), lk_ne (lk_ne (lk_ne (lk_ne rnu))), lk_ne (lk_ne (lk_ne (lk_ne rna))), lk_ne (lk_ne (lk_ne (lk_ne rwh))), lk_ne (lk_ne (lk_ne (lk_ne rnm))), lk_ne (lk_ne (lk_ne (lk_ne rwt)))⟩))
        rw [hsum, hz1]; exact lk_eq
    · rintro h' tk l' news' tp F' N' ⟨hTm2, ⟨tt, rto⟩, rpg, rnu, rna, rwh, rnm, rwt⟩
      rw [hzipl, List.take_length] at rto
      have htot2 : ((names.zip gots).map (tPart Nn name want)).sum = if name == whole then 1 else 0 := by
        rw [← htotal]; unfold totalOf; rw [hnames]; rfl
      rw [htot2] at rto
      refine st_if (c := ((if name == whole then (1 : Int) else 0) != (if name == whole then 1 else 0))) (Te.cmp (Pu.loc hE rto kto).asI (Pu.ifexp (c := (name == whole)) (V := IsI (if name == whole then 1 else 0)) (Te.cmp (Pu.loc hE rnm knm).asS (Pu.loc hE rwh kwh).asS fun _ _ _ _ ha hb => op_eqS ha hb) (fun hc => by rw [hc]; exact Pu.int) (fun hc => by rw [hc]; exact Pu.int)) fun _ _ _ _ ha hb => op_neI ha hb) F' N' tp fun h9 tk9 ht9 F9 N9 => ?_
      rw [show ((if name == whole then (1 : Int) else 0) != (if name == whole then 1 else 0)) = false by simp]
      refine st_nil (st_nil (LE.next (news₂ := (na, Lo nv nn) :: T) ht9 F9 (fun p hp => N9 p (hTm2 p hp)) (fun p hp => .inl (List.mem_map.mpr ⟨_, hTm p hp, rfl⟩)) ⟨fun p hp => hp, rpg, rnu, rna, rwh⟩))
  · rintro h' tk l' news' tp F' N' ⟨hTm, qpg, qnu, qna, qwh⟩
    refine st_ret Pu.bool F' N' tp fun v nw h6 tk6 tp6 hv6 F6 N6 => ?_
    cases hv6
    exact ⟨.bool true, [], h6, tk6, rfl, rfl, F6.keep, hend h6 F6.keep fun p hp => (N6 p (List.mem_append_right _ (hTm p (.tail _ hp)))).1, fun p hp => (nomatch hp), fun p hp => (nomatch hp), rfl⟩
end Mine
end
section
open PySem PySem.W PyProof.Rows PySem.Calls
open PySem.Builtin PySem.Builtin.Str
set_option Elab.async false
set_option linter.unusedVariables false
namespace Mine
theorem IsLI.mono {x : List Int} {v : Value} {a b : Led} (h : IsLI x v a) (hs : ∀ p ∈ a, p ∈ b) : IsLI x v b := let ⟨c, vs, n, e, hm, r⟩ := h; ⟨c, vs, n, e, hs _ hm, r⟩
theorem IsLS.mono {x : List PySem.Str} {v : Value} {a b : Led} (h : IsLS x v a) (hs : ∀ p ∈ a, p ∈ b) : IsLS x v b := let ⟨c, vs, n, e, hm, r⟩ := h; ⟨c, vs, n, e, hs _ hm, r⟩
theorem strs_paired {f : PySem.Str → PySem.Str} : ∀ {vs ys : List Value} {xs : List PySem.Str}, StrsAre vs xs → Paired (fun v y => ∃ _n : Led, ∃ x t, v = Value.str x t ∧ ∃ t', y = .str (f x) t') vs ys → StrsAre ys (xs.map f)
  | _, _, _, .nil, .nil => .nil
  | _, _, _, .cons n t r, .cons h p => by
    obtain ⟨_, x, u, e, t', rfl⟩ := h
    cases e
    exact .cons _ _ (strs_paired r p)
theorem sum_le {α : Type} {f : α → Nat} {b : Nat} : ∀ {l : List α}, (∀ x ∈ l, f x ≤ b) → (l.map f).sum ≤ l.length * b
  | [], _ => by simp
  | x :: r, h => by
    have h1 := h x (.head _)
    have h2 := sum_le fun y hy => h y (List.mem_cons_of_mem x hy)
    rw [List.map_cons, List.sum_cons, List.length_cons, Nat.succ_mul]; omega
theorem form_len {n : PySem.Str} (h : n.length ≤ 1000) : (formT n).length ≤ 7006 := by
  have hd : (S "...").length = 3 := dots_len
  have hd' : (PySem.Str.ofString "...").length = 3 := dots_len
  unfold formT
  rw [app_len, app_len]
  have hb : S " " = ⟨#[32]⟩ := by decide +kernel
  have hr : (Txt.replace n (S " ") (S "... ...")).length ≤ 7 * n.length := by
    rw [hb, len_tl, replace_flat, len_tl n]
    refine flat_len fun c _ => ?_
    unfold rp; split
    · decide +kernel
    · simp
  omega
set_option maxRecDepth 100000 in
set_option maxHeartbeats 16000000 in
theorem law_rest {w : World} {A' : Around} {g : Heap} {L fa d ca : Addr} {cd : Value} {od oc : Obj} {kvs : List (Int × Value)} {D : List (Int × PySem.Str)} {cvs : List Value} {cells : List Int} {kd : Nat} {tki : Tok} {l : List (PySem.Str × Value)} {s : Shared} (G : GBase w g) (hR' : Rm A' 4)
    (hlc : lk l (S "cells") = some (.ref ca)) (hlk : lk l (S "kind") = some (.int kd tki)) (hkd5 : kd < 5) (hod : od.IsDictOf (intKind PR w) kvs) (hlowd : (d == sysModules) = false) (hreld : Rel RS kvs D) (hoc : oc.data = .cell (some (.ref d))) (hcells : IntsAre cvs cells) (hcl4 : cells.length ≤ 50)
    (hD0 : 0 < D.length) (hD48 : D.length ≤ 48) (hDl : ∀ n ∈ D.map (·.1), (textAt D n).length ≤ 1000) (hD00 : (0 : Int) ∉ D.map (·.1)) (hw50 : (wordOf D cells).length ≤ 50) (hnum : NumOk D (wordOf D cells)) (hlaw : ∀ xs, NumWay D (wordOf D cells) xs → LawOk kd D (wordOf D cells) (numbersBy D xs))
    (F : Fr g L s.heap (lk l)) (N : News g L s.heap ((101, tabObj #[]) :: [(d, od), (ca, Lo cvs 0), (L + 1, oc)])) (ht : 0 < s.toks) :
    wpAny (MD w) A' (execs (lawBody.drop 4) (envX (S "law") lawScope L fa cd [(S "hand", L + 1)])) (RetG g (IsB true) s) NE s := by
  have hz : sizeLine = 16777216 := sizeLine_eq
  generalize hEnv : envX (S "law") lawScope L fa cd [(S "hand", L + 1)] = env
  have hE : EnvOk env L := by subst hEnv; exact ⟨rfl, rfl, rfl, rfl⟩
  have kce : env.kindOf (S "cells") = some .local := by subst hEnv; rfl
  have kki : env.kindOf (S "kind") = some .local := by subst hEnv; rfl
  have kha : env.kindOf (S "hand") = some .cell := by subst hEnv; rfl
  have cha : env.cells.lookup (S "hand") = some (L + 1) := by subst hEnv; rfl
  have kwo : env.kindOf (S "word") = some .local := by subst hEnv; rfl
  have knu : env.kindOf (S "numbers") = some .local := by subst hEnv; rfl
  have kna : env.kindOf (S "names") = some .local := by subst hEnv; rfl
  have kpl : env.kindOf (S "plain") = some .local := by subst hEnv; rfl
  have kfo : env.kindOf (S "forms") = some .local := by subst hEnv; rfl
  have kpa : env.kindOf (S "page") = some .local := by subst hEnv; rfl
  have kwh : env.kindOf (S "whole") = some .local := by subst hEnv; rfl
  have kgw : env.kindOf (S "_law_word") = some .globalImplicit := by subst hEnv; rfl
  have kgn : env.kindOf (S "_law_numbers") = some .globalImplicit := by subst hEnv; rfl
  have kgl : env.kindOf (S "list") = some .globalImplicit := by subst hEnv; rfl
  have kgr : env.kindOf (S "_law_written") = some .globalImplicit := by subst hEnv; rfl
  have kgs : env.kindOf (S "_law_spelled") = some .globalImplicit := by subst hEnv; rfl
  have kgh : env.kindOf (S "_law_held") = some .globalImplicit := by subst hEnv; rfl
  have hoh : ∀ {l news}, (L + 1, oc) ∈ news → ∀ {p}, Pu w A' env (FR g L l news) (.Name (S "hand") p) (IsV (.ref d)) := fun {l news} hm {p} => Pu.cell hE.kind kha cha (FR.cell hm hoc)
  refine st_assignN (V := IsLI (wordOf D cells)) hE kwo (Pu.callF (V := LV [IsV (.ref d), IsV (.ref ca)]) (FR.base G.base) (k_word w) (Pu.glob hE (FR.base G.base) kgw (g_word w)) (.cons (hoh (by simp)) (.cons (Pu.loc hE hlc kce) .nil)) fun vs n h => by
    obtain ⟨a, b, rfl, u1, u2⟩ := LV2 h; obtain rfl := u1.v; obtain rfl := u2.v
    exact (word_call (by intro h x; exact FR.base G.base h x.1) (hR'.less (by decide)) (by intro h x; exact ⟨FR.dict (by simp) hod h x.1, hreld, hlowd⟩) (by intro h x; exact FR.list (.tail _ (.tail _ (.head _))) h x.1) hcells hcl4 hD0 hD48).mono fun v nu hv => IsLI.mono hv fun p hp => List.mem_append_left _ hp) F N ht fun v nw h1 tk1 ht1 hv hfr1 F1 N1 => ?_
  obtain ⟨wa, wv, nwv, rfl, hmw, hwI⟩ := hv
  generalize hwdef : wordOf D cells = word at *
  have hd101 : d ≠ 101 := news_ne N (by simp : (d, od) ∈ _) (.head _) (fun e => by obtain ⟨es, ep, _, h, _⟩ := hod; rw [e] at h; cases h)
  have hwa101 : wa ≠ 101 := fun e => hfr1 _ hmw (101, tabObj #[]) (.head _) e.symm
  have hL101 : L + 1 ≠ 101 := news_ne N (by simp : (L + 1, oc) ∈ _) (.head _) (fun e => by rw [e] at hoc; cases hoc)
  have N1' : News g L h1 ((101, tabObj #[]) :: [(wa, Lo wv nwv), (d, od), (L + 1, oc)]) := fun p hp => N1 p (by
    simp only [List.mem_cons, List.not_mem_nil, or_false] at hp
    rcases hp with rfl | rfl | rfl | rfl
    · exact List.mem_append_right _ (by simp)
    · exact List.mem_append_left _ hmw
    · exact List.mem_append_right _ (by simp)
    · exact List.mem_append_right _ (by simp))
  clear N1
  refine st_assignG (V := LV [IsV (.ref d), IsV (.ref wa)]) (Pre := fun _ _ h => HandIn w h d kvs D ∧ h.IsList wa wv.toArray) (U := fun v nw => ∃ xs, NumWay D word xs ∧ IsD (strKind PR w) RInt (numbersBy D xs) v nw) hE knu G (k_nums w) (Pu.glob hE (FR.base G.base) kgn (g_nums w)) (.cons (hoh (by simp)) (.cons (Pu.loc hE lk_eq kwo) .nil))
    (fun vs n hvs => by
      obtain ⟨a, b, rfl, u1, u2⟩ := LV2 hvs; obtain rfl := u1.v; obtain rfl := u2.v
      exact numbers_call G (hR'.less (by decide)) hD48 hDl hD00 hwI hw50 hnum)
    (fun vs n h _ F N hne => ⟨⟨Heap.dictOf_iff.mpr ⟨od, by rw [gh_ne hd101]; exact (N (d, od) (by simp)).1, hod⟩, hreld, hlowd⟩, isList_of (n := nwv) (by rw [gh_ne hwa101]; exact (N (wa, Lo wv nwv) (by simp)).1)⟩)
    (by
      intro p hp
      simp only [List.mem_cons, List.not_mem_nil, or_false] at hp
      rcases hp with rfl | rfl | rfl
      · exact hwa101
      · exact hd101
      · exact hL101) F1 N1' (.inl rfl) ht1 fun v nw2 vs2 n2 ps2 h2 tk2 ht2 _ hu hT2 hne2 hfr2 F2 N2 => ?_
  obtain ⟨xs, hway, dn, on, kvsN, rfl, hmn, hon, hlown, hrelN⟩ := hu
  have hL := hlaw xs hway
  generalize hNdef : numbersBy D xs = Nn at *
  obtain ⟨more, Nm, hmore, htab⟩ := tab_more F2 (N2 _ (.head _)).1 hT2
  have N2' : News g L h2 ((101, tabObj ps2) :: ([(dn, on), (wa, Lo wv nwv), (d, od), (L + 1, oc)] ++ more)) := fun p hp => by
    rcases List.mem_cons.mp hp with rfl | hp
    · exact N2 _ (.head _)
    · rcases List.mem_append.mp hp with hp | hp
      · rcases List.mem_cons.mp hp with rfl | hp
        · exact N2 _ (.tail _ (List.mem_append_left _ hmn))
        · exact N2 _ (.tail _ (List.mem_append_right _ (List.mem_append_right _ hp)))
      · exact Nm p hp
  clear N2 Nm N1'
  generalize hT : (101, tabObj ps2) :: ([(dn, on), (wa, Lo wv nwv), (d, od), (L + 1, oc)] ++ more) = T at *
  have mdn : (dn, on) ∈ T := by rw [← hT]; simp
  have mwa : (wa, Lo wv nwv) ∈ T := by rw [← hT]; simp
  have md : (d, od) ∈ T := by rw [← hT]; simp
  have mL : (L + 1, oc) ∈ T := by rw [← hT]; simp
  have hend : ∀ h', g.StaysIn h' → (∀ p ∈ T, h'.get? p.1 = some p.2) → TabOk h' := fun h' st hm => ⟨ps2, hm _ (by rw [← hT]; exact .head _), htab h' st fun p hp => hm p (by rw [← hT]; exact .tail _ (List.mem_append_right _ hp))⟩
  have hkvN : kvsN.length = Nn.length := hrelN.len
  have lk2 : lk ((S "numbers", Value.ref dn) :: (S "word", .ref wa) :: l) (S "kind") = some (.int kd tki) := lk_ne (lk_ne hlk)
  have ln2 : lk ((S "numbers", Value.ref dn) :: (S "word", .ref wa) :: l) (S "numbers") = some (.ref dn) := lk_eq
  have lw2 : lk ((S "numbers", Value.ref dn) :: (S "word", .ref wa) :: l) (S "word") = some (.ref wa) := lk_ne lk_eq
  generalize (S "numbers", Value.ref dn) :: (S "word", .ref wa) :: l = l2 at *
  obtain ⟨hnl, hLn, hLaP, hLlP, hLaF, hLlF, hLfirst, hLheld, hLtot⟩ := hL
  generalize hnmdef : Nn.map (·.1) = names at *
  have hnml : names.length ≤ 1000 := by rw [← hnmdef, List.length_map]; exact hnl
  have hnk : kvsN.map (·.1) = names := by rw [hrelN.keys, hnmdef]
  -- names
  refine st_assign (V := IsLS names) hE kna (Pu.callT (V := LV [IsV (.ref dn)]) (Pu.blt hE (FR.base G.base) kgl (g_list w) b_list) (.cons (Pu.loc hE ln2 knu) .nil) fun vs n h => by
    rw [← hnk]; exact c_listD hR'.hh (by intro h x; exact FR.dict mdn hon h x.1) hlown (by omega) h) F2 N2' ht2 fun v nw h3 tk3 ht3 hv F3 N3 => ?_
  obtain ⟨na, nv, nn, rfl, hmna, hnS⟩ := hv
  have N3' : News g L h3 ((na, Lo nv nn) :: T) := fun p hp => N3 p (by
    rcases List.mem_cons.mp hp with rfl | hp
    · exact List.mem_append_left _ hmna
    · exact List.mem_append_right _ hp)
  clear N3 N2' F2
  have lna : lk ((S "names", Value.ref na) :: l2) (S "names") = some (.ref na) := lk_eq
  have hcomma : (S ",").length = 1 := by decide +kernel
  have hbl : (S " ").length = 1 := blank_len
  have hnvl := hnS.len_eq
  generalize hplain : PySem.Str.join (S ",") names = plain at *
  generalize hforms : PySem.Str.join (S ",") (names.map formT) = forms at *
  generalize hwhole : PySem.Str.join (S " ") (word.map (textAt D)) = whole at *
  -- plain
  refine st_assign (V := IsS plain) hE kpl (Pu.strm PySem.F.slot_str_join PySem.F.type_str_join Pu.str (.cons (Pu.loc hE lna kna) .nil) fun t n vs m hvs => by
    rw [← hplain]
    exact (c_join (P := IsV (.ref na)) (I := FR g L ((S "names", Value.ref na) :: l2) ((na, Lo nv nn) :: T)) (fun v n' hv => ⟨na, nv, hv, hnS, fun h x => FR.list (.head _) h x.1⟩) (by have := sum_le (f := fun x : PySem.Str => x.length) (l := names) hLn; rw [hcomma]; omega) hvs).pre fun h x => ⟨x.1, fun p hp => x.2 p (List.mem_append_left _ hp)⟩) F3 N3' ht3 fun v nw h4 tk4 ht4 hv F4 N4 => ?_
  obtain ⟨tpn, rfl⟩ := hv
  have N4' : News g L h4 ((na, Lo nv nn) :: T) := fun p hp => N4 p (List.mem_append_right _ hp)
  clear N4 N3' F3
  have lna4 : lk ((S "plain", Value.str plain tpn) :: (S "names", Value.ref na) :: l2) (S "names") = some (.ref na) := lk_ne lk_eq
  -- forms
  refine st_assign (V := IsS forms) hE kfo (Pu.strm PySem.F.slot_str_join PySem.F.type_str_join Pu.str (V := LV [IsLC nv.length (fun i v => nv[i]? = some v) (fun _ => true) (fun v y _ => ∃ x t, v = .str x t ∧ ∃ t', y = .str (formT x) t')]) (.cons (Pu.comp (V := IsV (.ref na)) (cl := []) (fun _ => true) (fun v y _ => ∃ x t, v = .str x t ∧ ∃ t', y = .str (formT x) t') (by subst hEnv; rfl) (Pu.loc hE lna4 kna)
      (fun v nw hv => by cases hv; exact Src.list hR'.hh (by intro h x; exact FR.list (.head _) h x.1)) (by omega) (fun nn C i v hP hnn => rfl) (fun nn C i v hP _ hnn => ?_)) .nil) fun t n vs m hvs => by
    rw [← hforms]
    exact (c_join (I := FR g L ((S "plain", Value.str plain tpn) :: (S "names", Value.ref na) :: l2) ((na, Lo nv nn) :: T)) (ys := names.map formT) (fun v n' hv => by
      obtain ⟨a, ys, k', us, rfl, hm, hl, hP, hpair⟩ := hv
      have hus : us = nv := same_list hl hP
      rw [hus, List.filter_eq_self.mpr fun _ _ => rfl] at hpair
      exact ⟨a, ys, rfl, strs_paired hnS hpair, fun h x => isList_of (x.2 _ hm)⟩) (by
        have h1 := sum_le (f := fun x : PySem.Str => x.length) (l := names.map formT) (b := 7006) (fun x hx => by obtain ⟨y, hy, rfl⟩ := List.mem_map.mp hx; exact form_len (hLn y hy))
        rw [List.length_map] at h1
        rw [hcomma, List.length_map]; omega) hvs).pre fun h x => ⟨x.1, fun p hp => x.2 p (List.mem_append_left _ hp)⟩) F4 N4' ht4 fun v nw h5 tk5 ht5 hv F5 N5 => ?_
  · obtain ⟨x, tx, rfl, hx⟩ := hnS.item i v hP
    have hxl : x.length ≤ 1000 := hLn x (List.mem_of_getElem? hx)
    have hfl := form_len hxl
    have hfl2 : (S "..." ++ Txt.replace x (S " ") (S "... ...") ++ S "...").length ≤ 7006 := hfl
    rw [app_len, app_len] at hfl2
    have e1 : (PySem.Str.ofString "...").length = 3 := dots_len
    refine (Pu.binop (P := IsS (S "..." ++ Txt.replace x (S " ") (S "... ..."))) (R := IsS (S "...")) (Pu.binop Pu.str (Pu.replace (CF.loc (comp_env hE rfl) (by subst hEnv; rfl)).asS (by decide +kernel) (by omega) (by decide +kernel)) fun _ _ _ _ ha hb => op_cat ha hb (by omega)) Pu.str fun _ _ _ _ ha hb => op_cat ha hb (by rw [app_len]; omega)).mono fun y n hy => ⟨x, tx, rfl, ?_⟩
    exact hy
  obtain ⟨tfo, rfl⟩ := hv
  have N5' : News g L h5 ((na, Lo nv nn) :: T) := fun p hp => N5 p (List.mem_append_right _ hp)
  clear N5 N4' F4
  have lk5 : lk ((S "forms", Value.str forms tfo) :: (S "plain", Value.str plain tpn) :: (S "names", Value.ref na) :: l2) (S "kind") = some (.int kd tki) := lk_ne (lk_ne (lk_ne lk2))
  have ln5 : lk ((S "forms", Value.str forms tfo) :: (S "plain", Value.str plain tpn) :: (S "names", Value.ref na) :: l2) (S "numbers") = some (.ref dn) := lk_ne (lk_ne (lk_ne ln2))
  have lw5 : lk ((S "forms", Value.str forms tfo) :: (S "plain", Value.str plain tpn) :: (S "names", Value.ref na) :: l2) (S "word") = some (.ref wa) := lk_ne (lk_ne (lk_ne lw2))
  have lna5 : lk ((S "forms", Value.str forms tfo) :: (S "plain", Value.str plain tpn) :: (S "names", Value.ref na) :: l2) (S "names") = some (.ref na) := lk_ne lna4
  have lpl5 : lk ((S "forms", Value.str forms tfo) :: (S "plain", Value.str plain tpn) :: (S "names", Value.ref na) :: l2) (S "plain") = some (.str plain tpn) := lk_ne lk_eq
  have lfo5 : lk ((S "forms", Value.str forms tfo) :: (S "plain", Value.str plain tpn) :: (S "names", Value.ref na) :: l2) (S "forms") = some (.str forms tfo) := lk_eq
  generalize (S "forms", Value.str forms tfo) :: (S "plain", Value.str plain tpn) :: (S "names", Value.ref na) :: l2 = l5 at *
  subst hEnv
  exact law_end G hR' hkd5 hod hlowd hreld hoc hon hlown hrelN hnmdef hnS hwI hw50 hnum.keys hDl hnml hLn hLaP hLlP hLaF hLlF hwhole hLfirst hLheld hLtot lk5 ln5 lw5 lna5 lpl5 lfo5 mdn mwa md mL hend F5 N5' ht5
end Mine
end
section
open PySem PySem.W PyProof.Rows PySem.Calls
open PySem.Builtin PySem.Builtin.Str
set_option Elab.async false
set_option linter.unusedVariables false
namespace Mine
theorem IsD.mono {w : World} {K β : Type} [DecidableEq K] {knd : KeyKind PR w K} {R : Value → β → Prop} {D : List (K × β)} {v : Value} {a b : Led} (h : IsD knd R D v a) (hs : ∀ p ∈ a, p ∈ b) : IsD knd R D v b :=
  let ⟨d, o, kvs, e, hm, r⟩ := h; ⟨d, o, kvs, e, hs _ hm, r⟩
set_option maxRecDepth 100000 in
set_option maxHeartbeats 16000000 in
theorem law_body {w : World} {A' : Around} {g : Heap} {L fa sc : Addr} {cd : Value} {oc : Obj} {sv : List Value} {ns : List Int} {s : Shared} (G : GBase w g) (hR' : Rm A' 4) (hsc : g.IsList sc sv.toArray) (hI : IntsAre sv ns) (hl63 : ns.length ≤ 63) (hP : PlainLaw ns)
    (hoc : oc.data = .cell none) (F0 : Fr g L s.heap (lk [(S "script", .ref sc)])) (N0 : News g L s.heap [(101, tabObj #[]), (L + 1, oc)]) :
    wpAny (MD w) A' (execs lawBody (envX (S "law") lawScope L fa cd [(S "hand", L + 1)])) (RetG g (IsB true) s) NE s := by
  have hz : sizeLine = 16777216 := sizeLine_eq
  generalize hEnv : envX (S "law") lawScope L fa cd [(S "hand", L + 1)] = env
  have hE : EnvOk env L := by subst hEnv; exact ⟨rfl, rfl, rfl, rfl⟩
  have kscr : env.kindOf (S "script") = some .local := by subst hEnv; rfl
  have kdr : env.kindOf (S "drawn") = some .local := by subst hEnv; rfl
  have kce : env.kindOf (S "cells") = some .local := by subst hEnv; rfl
  have kki : env.kindOf (S "kind") = some .local := by subst hEnv; rfl
  have kpi : env.kindOf (S "pick") = some .local := by subst hEnv; rfl
  have kha : env.kindOf (S "hand") = some .cell := by subst hEnv; rfl
  have cha : env.cells.lookup (S "hand") = some (L + 1) := by subst hEnv; rfl
  have kwo : env.kindOf (S "word") = some .local := by subst hEnv; rfl
  have knu : env.kindOf (S "numbers") = some .local := by subst hEnv; rfl
  have klen : env.kindOf (S "len") = some .globalImplicit := by subst hEnv; rfl
  have ksum : env.kindOf (S "sum") = some .globalImplicit := by subst hEnv; rfl
  have kgh : env.kindOf (S "_law_hand") = some .globalImplicit := by subst hEnv; rfl
  have kgw : env.kindOf (S "_law_word") = some .globalImplicit := by subst hEnv; rfl
  have kgn : env.kindOf (S "_law_numbers") = some .globalImplicit := by subst hEnv; rfl
  refine st_drawn hR'.hh hE G.base hsc hI hl63 kdr kscr F0 N0 (by subst hEnv; rfl) (by subst hEnv; rfl) rfl (by decide) (by decide) rfl (fun C i t s₃ m₃ B₃ hns hm => ?_) fun Dd yd md nwd h1 tk1 hyd F1 N1 => ?_
  · obtain ⟨mean, mg, mb, T⟩ := B₃.T
    refine wpAny_BinOp (wpAny_Call_NameR (wpAny_Name ?_ rfl))
    rw [loadName_read rfl (by subst hEnv; rfl)]
    refine loadGlobal_builtin (show s₃.heap.Ns env.globals mg from hE.glob ▸ T.g) (mg_none_of B₃.K T.g (g_int w)) (show s₃.heap.Ns env.builtins mb from hE.blt ▸ T.b) ((T.builtins _ (by decide)).trans b_int) ?_
    refine PyProof.Rows.callWith_type (by rfl) (Calls.evalArgs_plain (Calls.spliced_cons (wpAny_Name (wpAny_loadName_local (v := .int i t) rfl (by subst hEnv; rfl) hns hm (Calls.spliced_nil (call_int_int ?_))) rfl)))
    refine wpAny_BinOp (wpAny_Constant_int (wpAny_Constant_int (pow_int_small (by decide) (by decide) (by decide) ?_)))
    exact PyProof.Rows.mod_int (by decide) ⟨⟨_, rfl⟩, _, _, rfl, fun _ _ e => e⟩
  -- cells
  have hdl : ((ns.take 4).map fun c => c.fmod 1000000).length ≤ 4 := by rw [List.length_map, List.length_take]; omega
  generalize hdr : (ns.take 4).map (fun c => c.fmod 1000000) = dr at *
  have hydl := hyd.length
  refine wpAny_execs_cons (wpAny_Assign_Name (wpAny_BinOp (wpAny_Name (wpAny_loadName_local (v := .ref Dd) hE.kind kdr (hE.loc ▸ F1.ns) rfl ?_) rfl)) (by rfl))
  refine Subscript_ (List_ ?_)
  show wpAny _ _ (spliced ([Expr.Constant (.int 6) 0 ⟨224, 21, 224, 22⟩, .Constant (.int 1) 0 ⟨224, 24, 224, 25⟩, .Constant (.int 0) 0 ⟨224, 27, 224, 28⟩, .Constant (.int 3) 0 ⟨224, 30, 224, 31⟩].map fun e => (false, eval e env))) _ _ _
  refine Calls.spliced_cons (wpAny_Constant_int ?_)
  refine Calls.spliced_cons (wpAny_Constant_int ?_)
  refine Calls.spliced_cons (wpAny_Constant_int ?_)
  refine Calls.spliced_cons (wpAny_Constant_int ?_)
  refine Calls.spliced_nil (wpAny_newList ?_ (by simp [hz]))
  generalize hcv : ([Value.int 6 _, Value.int 1 _, Value.int 0 _, Value.int 3 _] : List Value) = cv
  have hcI : IntsAre cv [6, 1, 0, 3] := by rw [← hcv]; exact .cons _ _ (.cons _ _ (.cons _ _ (.cons _ _ .nil)))
  have hcl := hcI.length
  have N2 : News g L (h1.push { cls := .type "list", data := .seq cv.toArray }) ((h1.objs.size, Lo cv 0) :: ((Dd, Lo yd md) :: [(101, tabObj #[]), (L + 1, oc)])) := News.push F1 N1 _ rfl
  have F2 := F1.push { cls := .type "list", data := .seq cv.toArray }
  refine wpAny_Slice (wpAny_evalPart_some ((Pu.callB (V := LV [IsV (.ref Dd)]) (U := IsI yd.length) (Pu.blt hE (FR.base G.base) klen (g_len w) b_len) (.cons (Pu.loc hE lk_eq kdr) .nil) fun vs n h => c_lenL (FR.list (.tail _ (.head _))) (by omega) h).run ⟨F2, N2⟩ (by show 0 < tk1 + 1 + 1 + 1 + 1; omega) fun v nw2 h3 tk3 ht3 st3 i3 new3 hv3 => wpAny_evalPart_none (wpAny_evalPart_none ?_)))
  obtain ⟨t3, rfl⟩ := hv3
  refine slice_tail (s := { s with heap := h3, toks := tk3 }) (vs := cv) (isList_of (i3.2 _ (.head _)).1) (.int _ _) .none (by rw [hcl, hz]; simp) ?_
  have hpk0 : IntsAre (slicePick cv.toArray (some (yd.length : Int)) none none).toList ([6, 1, 0, 3].drop dr.length) := by
    have h4' : ([6, 1, 0, 3] : List Int).length = 4 := rfl
    have := slice_ints_from hcI (x := (dr.length : Int)) (by omega) (by omega)
    rw [Int.toNat_natCast] at this
    rw [hydl]
    exact this
  generalize hpk : slicePick cv.toArray (some (yd.length : Int)) none none = pk at *
  have stp : h3.StaysIn ((h3.push { cls := .type "slice", data := .fields #[.int yd.length t3, .none, .none] }).push { cls := .type "list", data := .seq pk }) := stays_trans (stays_push _ _) (stays_push _ _)
  have F3 := fr_stays i3.1 stp
  have N3 : News g L ((h3.push { cls := .type "slice", data := .fields #[.int yd.length t3, .none, .none] }).push { cls := .type "list", data := .seq pk }) [(Dd, Lo yd md), (101, tabObj #[]), (L + 1, oc)] := news_stays (fun p hp => i3.2 p (.tail _ hp)) stp
  have hesz : (h3.push { cls := .type "slice", data := .fields #[.int yd.length t3, .none, .none] }).objs.size = h3.objs.size + 1 := Heap.size_push ..
  have hpkL : ((h3.push { cls := .type "slice", data := .fields #[.int yd.length t3, .none, .none] }).push { cls := .type "list", data := .seq pk }).IsList (h3.objs.size + 1) pk.toList.toArray := by
    rw [← hesz]; exact ⟨_, Heap.get?_push_size _ rfl, rfl, 0, by simp⟩
  generalize hH4 : ((h3.push { cls := .type "slice", data := .fields #[.int yd.length t3, .none, .none] }).push { cls := .type "list", data := .seq pk }) = h4 at *
  have hpl := hpk0.length
  refine add_lists (s := { s with heap := h4, toks := tk3 }) F3 N3 (isList_of (N3 _ (.head _)).1) hpkL (fun h5 F5 N5 => ?_) (by rw [hydl, hpl, List.length_drop, hz]; simp; omega)
  have hcells : IntsAre (yd ++ pk.toList) (cellsOf ns) := by
    have := hyd.append hpk0
    unfold cellsOf; rw [hdr]; exact this
  have N5' : News g L h5 [(h4.objs.size, Lo (yd ++ pk.toList) 0), (Dd, Lo yd md), (101, tabObj #[]), (L + 1, oc)] := N5
  have hcl4 : (cellsOf ns).length ≤ 50 := by
    unfold cellsOf; rw [hdr, List.length_append, List.length_drop]; simp; omega
  generalize hcA : h4.objs.size = ca at N5'
  generalize hcV : yd ++ pk.toList = cvs at N5' hcells
  refine wpAny_storeName_local kce (hE.loc ▸ F5.ns) (fun h6 hn6 hs6 => ?_) (by rw [hE.kind]; rfl)
  rw [hE.loc] at hn6 hs6
  rw [lk_cons] at hn6
  have F6 := F5.set hn6 hs6
  have N6 : News g L h6 [(ca, Lo cvs 0), (101, tabObj #[]), (L + 1, oc)] := fun p hp => News.set N5' hs6 p (by
    rcases List.mem_cons.mp hp with rfl | hp
    · exact .head _
    · exact .tail _ (.tail _ hp))
  clear N5' N5 F5 F3 N3 hn6 hs6 F2 N2 F1 N1 stp hpkL hH4
  have ht6 : 0 < ({ s with heap := h4, toks := tk3 } : Shared).toks + 1 := Nat.succ_pos _
  generalize ({ s with heap := h4, toks := tk3 } : Shared).toks + 1 = tk6 at ht6 ⊢
  -- kind, pick
  have hcn : cvs.length = (cellsOf ns).length := hcells.length
  generalize hsumz : (cellsOf ns).sum = sum at *
  have hsumT : ∀ {l news p1 p2 q}, lk l (S "cells") = some (.ref ca) → (ca, Lo cvs 0) ∈ news → Pu w A' env (FR g L l news) (.Call (.Name (S "sum") p1) [.Name (S "cells") q] [] p2) (IsI sum) := fun hl hm =>
    Pu.callB (V := LV [IsV (.ref ca)]) (Pu.blt hE (FR.base G.base) ksum (g_sum w) b_sum) (.cons (Pu.loc hE hl kce) .nil) (fun vs n h => by rw [← hsumz]; exact c_sumL hR'.hh (FR.list hm) hcells h) (by rfl)
  refine st_tuple (names := [S "kind", S "pick"]) (V := LV [IsI (sum.fmod 5), IsI ((sum.fdiv 5).fmod 8)]) hR'.hh hE (.cons (Pu.binop (hsumT lk_eq (.head _)) Pu.int fun _ _ _ _ ha hb => op_mod ha hb (by decide)) (.cons (Pu.binop (Pu.binop (hsumT lk_eq (.head _)) Pu.int fun _ _ _ _ ha hb => op_fdiv ha hb (by decide) (PyProof.noPylong_small (by decide))) Pu.int fun _ _ _ _ ha hb => op_mod ha hb (by decide)) .nil))
    (fun vs m h => by obtain ⟨_, _, rfl, _⟩ := LV2 h; rfl) (by simp [hz]) (by simp [kki, kpi]) F6 N6 ht6 (fun us m h7 tk7 ht7 hv7 F7 N7 => ?_) rfl (by subst hEnv; rfl)
  obtain ⟨u1, u2, rfl, hu1, hu2⟩ := LV2 hv7
  obtain ⟨tki, rfl⟩ := hu1.i
  obtain ⟨tpi, rfl⟩ := hu2.i
  have N7' : News g L h7 [(ca, Lo cvs 0), (101, tabObj #[]), (L + 1, oc)] := fun p hp => N7 p (List.mem_append_right _ hp)
  clear N7 hv7 hu1 hu2
  have hk0 : 0 ≤ sum.fmod 5 := Int.fmod_nonneg_of_pos _ (by decide)
  have hk5 : sum.fmod 5 < 5 := Int.fmod_lt_of_pos _ (by decide)
  have hp0 : 0 ≤ (sum.fdiv 5).fmod 8 := Int.fmod_nonneg_of_pos _ (by decide)
  have hp8 : (sum.fdiv 5).fmod 8 < 8 := Int.fmod_lt_of_pos _ (by decide)
  obtain ⟨c0, c1, hpair⟩ := pairs_two ((sum.fdiv 5).fmod 8).toNat (by omega)
  obtain ⟨hD0, hD48, hDl, hD00, hw50, hnum, hlaw⟩ := hP.hand c0 c1 (by rw [hsumz]; exact hpair)
  rw [hsumz] at hlaw
  obtain ⟨kd, hkd⟩ : ∃ kd : Nat, sum.fmod 5 = kd := ⟨(sum.fmod 5).toNat, by omega⟩
  rw [hkd, Int.toNat_natCast] at hlaw
  rw [hkd] at F7 hk5
  have hkd5 : kd < 5 := by omega
  generalize hDdef : handOf c0 c1 = D at *
  generalize hwdef : wordOf D (cellsOf ns) = word at *
  have h101L1 : (101 : Addr) ≠ L + 1 := news_ne N7' (by simp : ((101 : Addr), tabObj #[]) ∈ _) (by simp : (L + 1, oc) ∈ _) (fun e => by rw [← e] at hoc; cases hoc)
  have hcaL1 : ca ≠ L + 1 := news_ne N7' (by simp : (ca, Lo cvs 0) ∈ _) (by simp : (L + 1, oc) ∈ _) (fun e => by rw [← e] at hoc; cases hoc)
  -- hand
  refine st_assignC (c := L + 1) (V := IsD (intKind PR w) RS D) hE kha cha (by simp) hoc (Pu.callF (V := LV [IsS (ms [c0, c1])]) (FR.base G.base) (k_hand w) (Pu.glob hE (FR.base G.base) kgh (g_hand w))
    (.cons (Pu.sub (P := IsTS pairsL) (R := IsI ((sum.fdiv 5).fmod 8)) (U := IsS (ms [c0, c1])) (Pu.strs (xs := pairsL) (.cons Pu.str (.cons Pu.str (.cons Pu.str (.cons Pu.str (.cons Pu.str (.cons Pu.str (.cons Pu.str (.cons Pu.str .nil)))))))) (by simp [pairsL])) (Pu.loc hE (lk_ne lk_eq) kpi).asI
      fun a b n1 n2 ha hb => t_tupleS ha hb hp0 hpair (by omega) (by intro _ _; rfl)) .nil) (fun vs n h => by
        obtain ⟨a, rfl, u⟩ := LV1 h; obtain ⟨t, rfl⟩ := u.s
        rw [← hDdef]
        exact (hand_call (by intro h x; exact FR.base G.base h x.1) (hR'.less (by decide))).mono fun v nu hv => IsD.mono hv fun p hp => List.mem_append_left _ hp)) F7 N7' ht7 fun v nw8 oc8 h8 tk8 ht8 hv8 hoc8 F8 N8 => ?_
  obtain ⟨d, od, kvs, rfl, hmd, hod, hlowd, hreld⟩ := hv8
  have N8' : News g L h8 ((101, tabObj #[]) :: [(d, od), (ca, Lo cvs 0), (L + 1, oc8)]) := fun p hp => N8 p (by
    simp only [List.mem_cons, List.not_mem_nil, or_false] at hp
    rcases hp with rfl | rfl | rfl | rfl
    · exact List.mem_append_right _ (mem_setL_ne (by simp) h101L1)
    · exact List.mem_append_left _ hmd
    · exact List.mem_append_right _ (mem_setL_ne (by simp) hcaL1)
    · exact List.mem_append_right _ (mem_setL (o0 := oc) (by simp)))
  clear N8
  subst hwdef; subst hDdef; subst hEnv
  exact law_rest G hR' (lk_ne (lk_ne lk_eq)) lk_eq hkd5 hod hlowd hreld hoc8 hcells hcl4 hD0 hD48 hDl hD00 hw50 hnum hlaw F8 N8' ht8
end Mine
end
section
open PySem PySem.W PyProof.Rows PySem.Calls
set_option Elab.async false
set_option linter.unusedVariables false
namespace Mine
def ins (x : Int) : List Int → List (List Int)
  | [] => [[x]]
  | y :: r => (x :: y :: r) :: (ins x r).map (y :: ·)
def perms : List Int → List (List Int)
  | [] => [[]]
  | x :: r => (perms r).flatMap (ins x)
theorem mem_ins (x : Int) : ∀ a b : List Int, a ++ x :: b ∈ ins x (a ++ b)
  | [], [] => .head _
  | [], y :: r => .head _
  | c :: a, b => List.mem_cons_of_mem _ (List.mem_map.mpr ⟨_, mem_ins x a b, rfl⟩)
theorem mem_perms : ∀ {l o : List Int}, o.Perm l → o ∈ perms l
  | [], o, h => by rw [List.Perm.eq_nil h]; exact .head _
  | x :: r, o, h => by
    have hx : x ∈ o := h.mem_iff.mpr (.head _)
    obtain ⟨a, b, rfl⟩ := List.append_of_mem hx
    have h2 : (a ++ b).Perm r := (List.perm_cons x).mp (List.perm_middle.symm.trans h)
    exact List.mem_flatMap.mpr ⟨a ++ b, mem_perms h2, mem_ins x a b⟩
def downB (D : List (Int × PySem.Str)) : List Int → Bool
  | [] => true
  | x :: r => r.all (fun y => decide ((textAt D y).length ≤ (textAt D x).length)) && downB D r
theorem down_iff {D : List (Int × PySem.Str)} : ∀ {l : List Int}, l.Pairwise (fun x y => (textAt D y).length ≤ (textAt D x).length) → downB D l = true
  | [], _ => rfl
  | x :: r, h => by
    cases h with
    | cons h1 h2 =>
      rw [downB, down_iff h2, Bool.and_true, List.all_eq_true]
      intro y hy; exact decide_eq_true (h1 y hy)
def wlsOf (D : List (Int × PySem.Str)) (n : Int) : List (List (Int × Int)) := (((perms (partsOf D n)).filter (downB D)).map (weightsBy D n))
theorem mem_wls {D : List (Int × PySem.Str)} {n : Int} {o : List Int} (h : OrderOk D n o) : weightsBy D n o ∈ wlsOf D n :=
  List.mem_map.mpr ⟨o, List.mem_filter.mpr ⟨mem_perms h.perm, down_iff h.down⟩, rfl⟩
def picks : List (Nat × Nat) := [(42, 61), (45, 62), (60, 61), (33, 61), (62, 61), (47, 61), (38, 61), (124, 61)]
def Dof (p : Nat × Nat) := handOf p.1 p.2
end Mine
end
section
open PySem PySem.W PyProof.Rows PySem.Calls
set_option Elab.async false
set_option linter.unusedVariables false
namespace Mine
abbrev LN := List (List Int × Int)
def lgr (ls : List Int) (p : Int) : List Int := if p == 0 then ls else ls ++ [p]
def stepL (N : LN) (W : List (Int × Int)) (name : List Int) (G : LN) (q : Int × Int) : LN := putA G (lgr name q.1) ((getA G (lgr name q.1)).getD 0 + (getA N name).getD 0 * (getA W q.1).getD 0)
def grownL (N : LN) (W : List (Int × Int)) : LN := N.foldl (fun G e => W.foldl (stepL N W e.1) G) []
def gm (C : Int → Int → Bool) : List Int → List Int → Bool
  | [], _ => true
  | _ :: _, [] => false
  | n :: ns, o :: os => if C n o = true then gm C ns os else gm C (n :: ns) os
def totalL (C : Int → Int → Bool) (N : LN) (name : List Int) : Int := (N.map fun e => if (e.2 != 0) = true then (if gm C name e.1 = true then e.2 else 0) else 0).sum
abbrev KB := List (Int × Int × List (List (Int × Int)))
def good (C : Int → Int → Bool) (word : List Int) (N : LN) : Bool :=
  decide (N.length ≤ 100) && N.all (fun e => decide (e.1.length ≤ 4)) && ((N.map (·.1))[0]? == some word) && N.all (fun e => totalL C N e.1 == if e.1 == word then 1 else 0)
def ckW (kb : KB) (C : Int → Int → Bool) : Nat → Option Int → LN → List Int → Int → Bool
  | 0, last, N, word, room => good C word N
  | f + 1, last, N, word, room => good C word N && kb.all fun k => !decide (k.2.1 ≤ room) || k.2.2.all fun W => ckW kb C f (some k.1) (grownL N (tweak W (last == some k.1))) (word ++ [k.1]) (room.fdiv k.2.1)
def kbOf (D : List (Int × PySem.Str)) : KB := (D.map (·.1)).map fun n => (n, 1 + ((partsOf D n).length : Int), wlsOf D n)
def ctOf (D : List (Int × PySem.Str)) : List (Int × Int) := (D.map (·.1)).flatMap fun p => (((D.map (·.1)).filter fun q => standsIn D p q).map fun q => (p, q))
def CT (l : List (Int × Int)) (p q : Int) : Bool := l.contains (p, q)
def lits : List ((Nat × Nat) × KB × List (Int × Int)) := [
  ((42, 61), [(16, 2, [[(16, 1), (0, -1)]]), (35, 3, [[(35, 1), (16, -1), (0, 0)]]), (46, 6, [[(46, 1), (35, -1), (38, -1), (16, 1), (22, 0), (0, 0)], [(46, 1), (35, -1), (38, -1), (22, 0), (16, 1), (0, 0)], [(46, 1), (38, -1), (35, -1), (16, 1), (22, 0), (0, 0)], [(46, 1), (38, -1), (35, -1), (22, 0), (16, 1), (0, 0)]]), (38, 4, [[(38, 1), (16, -1), (22, -1), (0, 1)], [(38, 1), (22, -1), (16, -1), (0, 1)]]), (22, 2, [[(22, 1), (0, -1)]]), (27, 3, [[(27, 1), (22, -1), (0, 0)]])], [(16, 16), (16, 35), (16, 46), (16, 38), (35, 35), (35, 46), (46, 46), (38, 46), (38, 38), (22, 46), (22, 38), (22, 22), (22, 27), (27, 27)]),
  ((45, 62), [(15, 2, [[(15, 1), (0, -1)]]), (51, 4, [[(51, 1), (15, -1), (21, -1), (0, 1)], [(51, 1), (21, -1), (15, -1), (0, 1)]]), (21, 2, [[(21, 1), (0, -1)]]), (34, 3, [[(34, 1), (21, -1), (0, 0)]])], [(15, 15), (15, 51), (51, 51), (21, 51), (21, 21), (21, 34), (34, 34)]),
  ((60, 61), [(20, 2, [[(20, 1), (0, -1)]]), (33, 3, [[(33, 1), (20, -1), (0, 0)]]), (44, 6, [[(44, 1), (33, -1), (29, -1), (20, 1), (22, 0), (0, 0)], [(44, 1), (33, -1), (29, -1), (22, 0), (20, 1), (0, 0)], [(44, 1), (29, -1), (33, -1), (20, 1), (22, 0), (0, 0)], [(44, 1), (29, -1), (33, -1), (22, 0), (20, 1), (0, 0)]]), (29, 4, [[(29, 1), (20, -1), (22, -1), (0, 1)], [(29, 1), (22, -1), (20, -1), (0, 1)]]), (22, 2, [[(22, 1), (0, -1)]]), (27, 3, [[(27, 1), (22, -1), (0, 0)]])], [(20, 20), (20, 33), (20, 44), (20, 29), (33, 33), (33, 44), (44, 44), (29, 44), (29, 29), (22, 44), (22, 29), (22, 22), (22, 27), (27, 27)]),
  ((33, 61), [(54, 2, [[(54, 1), (0, -1)]]), (28, 4, [[(28, 1), (54, -1), (22, -1), (0, 1)], [(28, 1), (22, -1), (54, -1), (0, 1)]]), (22, 2, [[(22, 1), (0, -1)]]), (27, 3, [[(27, 1), (22, -1), (0, 0)]])], [(54, 54), (54, 28), (28, 28), (22, 28), (22, 22), (22, 27), (27, 27)]),
  ((62, 61), [(22, 2, [[(22, 1), (0, -1)]]), (27, 3, [[(27, 1), (22, -1), (0, 0)]]), (21, 2, [[(21, 1), (0, -1)]]), (30, 4, [[(30, 1), (22, -1), (21, -1), (0, 1)], [(30, 1), (21, -1), (22, -1), (0, 1)]]), (34, 3, [[(34, 1), (21, -1), (0, 0)]]), (45, 6, [[(45, 1), (30, -1), (34, -1), (22, 0), (21, 1), (0, 0)], [(45, 1), (30, -1), (34, -1), (21, 1), (22, 0), (0, 0)], [(45, 1), (34, -1), (30, -1), (22, 0), (21, 1), (0, 0)], [(45, 1), (34, -1), (30, -1), (21, 1), (22, 0), (0, 0)]])], [(22, 22), (22, 27), (22, 30), (22, 45), (27, 27), (21, 21), (21, 30), (21, 34), (21, 45), (30, 30), (30, 45), (34, 34), (34, 45), (45, 45)]),
  ((47, 61), [(17, 2, [[(17, 1), (0, -1)]]), (47, 3, [[(47, 1), (17, -1), (0, 0)]]), (48, 6, [[(48, 1), (47, -1), (39, -1), (17, 1), (22, 0), (0, 0)], [(48, 1), (47, -1), (39, -1), (22, 0), (17, 1), (0, 0)], [(48, 1), (39, -1), (47, -1), (17, 1), (22, 0), (0, 0)], [(48, 1), (39, -1), (47, -1), (22, 0), (17, 1), (0, 0)]]), (39, 4, [[(39, 1), (17, -1), (22, -1), (0, 1)], [(39, 1), (22, -1), (17, -1), (0, 1)]]), (22, 2, [[(22, 1), (0, -1)]]), (27, 3, [[(27, 1), (22, -1), (0, 0)]])], [(17, 17), (17, 47), (17, 48), (17, 39), (47, 47), (47, 48), (48, 48), (39, 48), (39, 39), (22, 48), (22, 39), (22, 22), (22, 27), (27, 27)]),
  ((38, 61), [(19, 2, [[(19, 1), (0, -1)]]), (41, 4, [[(41, 1), (19, -1), (22, -1), (0, 1)], [(41, 1), (22, -1), (19, -1), (0, 1)]]), (22, 2, [[(22, 1), (0, -1)]]), (27, 3, [[(27, 1), (22, -1), (0, 0)]])], [(19, 19), (19, 41), (41, 41), (22, 41), (22, 22), (22, 27), (27, 27)]),
  ((124, 61), [(22, 2, [[(22, 1), (0, -1)]]), (27, 3, [[(27, 1), (22, -1), (0, 0)]]), (18, 2, [[(18, 1), (0, -1)]]), (42, 4, [[(42, 1), (22, -1), (18, -1), (0, 1)], [(42, 1), (18, -1), (22, -1), (0, 1)]])], [(22, 22), (22, 27), (22, 42), (27, 27), (18, 18), (18, 42), (42, 42)])]
set_option maxRecDepth 100000 in
set_option synthInstance.maxSize 4096 in
set_option synthInstance.maxHeartbeats 400000 in
theorem lits_kb : lits.map (fun e => kbOf (Dof e.1)) = lits.map (fun e => e.2.1) := by decide +kernel
set_option maxRecDepth 100000 in
theorem lits_ct : lits.map (fun e => ctOf (Dof e.1)) = lits.map (fun e => e.2.2) := by decide +kernel
theorem lits_picks : lits.map (·.1) = picks := by decide +kernel
end Mine
end
section
open PySem PySem.W PyProof.Rows PySem.Calls
set_option Elab.async false
set_option linter.unusedVariables false
namespace Mine
def ckE (e : (Nat × Nat) × KB × List (Int × Int)) : Bool := ckW e.2.1 (CT e.2.2) 4 none [([], 1)] [] 16
theorem ck0 : ckE (lits[0]'(by decide)) = true := by decide +kernel
theorem ck1 : ckE (lits[1]'(by decide)) = true := by decide +kernel
theorem ck2 : ckE (lits[2]'(by decide)) = true := by decide +kernel
theorem ck3 : ckE (lits[3]'(by decide)) = true := by decide +kernel
theorem ck4 : ckE (lits[4]'(by decide)) = true := by decide +kernel
theorem ck5 : ckE (lits[5]'(by decide)) = true := by decide +kernel
theorem ck6 : ckE (lits[6]'(by decide)) = true := by decide +kernel
theorem ck7 : ckE (lits[7]'(by decide)) = true := by decide +kernel
theorem all_get {α : Type} {f : α → Bool} {l : List α} (h : ∀ i (hi : i < l.length), f l[i] = true) : l.all f = true := by
  rw [List.all_eq_true]
  intro x hx
  obtain ⟨i, hi, rfl⟩ := List.getElem_of_mem hx
  exact h i hi
theorem lits_len : lits.length = 8 := by rfl
theorem lits_ck : lits.all (fun e => ckW e.2.1 (CT e.2.2) 4 none [([], 1)] [] 16) = true := by
  refine all_get (f := ckE) fun i hi => ?_
  rw [lits_len] at hi
  rcases (by omega : i = 0 ∨ i = 1 ∨ i = 2 ∨ i = 3 ∨ i = 4 ∨ i = 5 ∨ i = 6 ∨ i = 7) with rfl | rfl | rfl | rfl | rfl | rfl | rfl | rfl
  · exact ck0
  · exact ck1
  · exact ck2
  · exact ck3
  · exact ck4
  · exact ck5
  · exact ck6
  · exact ck7
end Mine
end
section
open PySem PySem.W PyProof.Rows PySem.Calls
set_option Elab.async false
set_option linter.unusedVariables false
namespace Mine
def RW (D : List (Int × PySem.Str)) : List Int → Int → Nat → Prop
  | [], _, _ => True
  | _ :: _, _, 0 => False
  | n :: r, room, f + 1 => n ∈ D.map (·.1) ∧ 1 + ((partsOf D n).length : Int) ≤ room ∧ RW D r (room.fdiv (1 + ((partsOf D n).length : Int))) f
theorem RW.more {D : List (Int × PySem.Str)} : ∀ {u : List Int} {room : Int} {f : Nat}, RW D u room f → RW D u room (f + 1)
  | [], _, _, _ => trivial
  | n :: r, room, f + 1, h => ⟨h.1, h.2.1, RW.more h.2.2⟩
theorem RW.pre {D : List (Int × PySem.Str)} : ∀ {a b : List Int} {room : Int} {f : Nat}, a <+: b → RW D b room f → RW D a room f
  | [], _, _, _, _, _ => by unfold RW; trivial
  | x :: a, b, room, f, hp, h => by
    obtain ⟨t, rfl⟩ := hp
    cases f with
    | zero => exact h.elim
    | succ f => exact ⟨h.1, h.2.1, RW.pre (List.prefix_append _ _) h.2.2⟩
theorem RW.keys {D : List (Int × PySem.Str)} : ∀ {u : List Int} {room : Int} {f : Nat}, RW D u room f → (∀ n ∈ u, n ∈ D.map (·.1)) ∧ u.length ≤ f
  | [], _, f, _ => ⟨fun _ h => absurd h List.not_mem_nil, Nat.zero_le _⟩
  | n :: r, room, f + 1, h => ⟨fun m hm => by
      rcases List.mem_cons.mp hm with rfl | hm
      · exact h.1
      · exact (RW.keys h.2.2).1 m hm, Nat.succ_le_succ (RW.keys h.2.2).2⟩
theorem word_reach {D : List (Int × PySem.Str)} {ranks : List Int} (hr : ∀ n ∈ ranks, n ∈ D.map (·.1)) (hr0 : ranks ≠ []) : ∀ (cells w0 : List Int) (room : Int), (∀ n ∈ w0, n ∈ D.map (·.1)) →
    ∃ u, (cells.foldl (wordStep D ranks) (w0, room)).1 = w0 ++ u ∧ RW D u room cells.length
  | [], w0, room, _ => ⟨[], by simp, trivial⟩
  | c :: cells, w0, room, h0 => by
    have hlen : 0 < ranks.length := List.length_pos_iff.mpr hr0
    generalize hn : (if (!w0.isEmpty && (c.fmod 2 == 0)) = true then w0.getLastD 0 else ranks.getD ((c.fdiv 2).fmod ranks.length).toNat 0) = n
    have hk : n ∈ D.map (·.1) := by
      rw [← hn]
      split
      · rename_i hw
        have hw0 : w0 ≠ [] := by intro e; rw [e] at hw; simp at hw
        rw [List.getLastD_eq_getLast?, List.getLast?_eq_some_getLast hw0]
        exact h0 _ (List.getLast_mem hw0)
      · have h1 := Int.fmod_nonneg_of_pos (c.fdiv 2) (b := (ranks.length : Int)) (by omega)
        have h2 := Int.fmod_lt_of_pos (c.fdiv 2) (b := (ranks.length : Int)) (by omega)
        have h3 : ((c.fdiv 2).fmod ranks.length).toNat < ranks.length := by omega
        rw [List.getD_eq_getElem?_getD, List.getElem?_eq_getElem h3]
        exact hr _ (List.getElem_mem h3)
    have hstep : wordStep D ranks (w0, room) c = if 1 + ((partsOf D n).length : Int) ≤ room then (w0 ++ [n], room.fdiv (1 + ((partsOf D n).length : Int))) else (w0, room) := by
      unfold wordStep; rw [hn]
    rw [List.foldl_cons, hstep]
    by_cases hle : 1 + ((partsOf D n).length : Int) ≤ room
    · rw [if_pos hle]
      obtain ⟨u, e, hu⟩ := word_reach hr hr0 cells (w0 ++ [n]) (room.fdiv (1 + ((partsOf D n).length : Int))) (fun m hm => by
        rcases List.mem_append.mp hm with hm | hm
        · exact h0 m hm
        · rw [List.mem_singleton.mp hm]; exact hk)
      exact ⟨n :: u, by rw [e, List.append_assoc]; rfl, hk, hle, hu⟩
    · rw [if_neg hle]
      obtain ⟨u, e, hu⟩ := word_reach hr hr0 cells w0 room h0
      exact ⟨u, e, hu.more⟩
theorem step_grows {D : List (Int × PySem.Str)} {ranks : List Int} {st : List Int × Int} {c : Int} (h : st.1 ≠ []) : (wordStep D ranks st c).1 ≠ [] := by
  unfold wordStep
  generalize (if (!st.1.isEmpty && (c.fmod 2 == 0)) = true then st.1.getLastD 0 else ranks.getD ((c.fdiv 2).fmod ranks.length).toNat 0) = n
  by_cases hle : 1 + ((partsOf D n).length : Int) ≤ st.2
  · show (if 1 + ((partsOf D n).length : Int) ≤ st.2 then (st.1 ++ [n], _) else st).1 ≠ []
    rw [if_pos hle]; simp
  · show (if 1 + ((partsOf D n).length : Int) ≤ st.2 then (st.1 ++ [n], _) else st).1 ≠ []
    rw [if_neg hle]; exact h
theorem word_grows {D : List (Int × PySem.Str)} {ranks : List Int} : ∀ (cells : List Int) (st : List Int × Int), st.1 ≠ [] → (cells.foldl (wordStep D ranks) st).1 ≠ []
  | [], st, h => h
  | c :: cells, st, h => by rw [List.foldl_cons]; exact word_grows cells _ (step_grows h)
def nsL (D : List (Int × PySem.Str)) (st : Option Int × LN) (x : Int × List Int) : Option Int × LN := (some x.1, grownL st.2 (tweak (weightsBy D x.1 x.2) (st.1 == some x.1)))
theorem ck_now {kb : KB} {C : Int → Int → Bool} {f : Nat} {last : Option Int} {N : LN} {word : List Int} {room : Int} (h : ckW kb C f last N word room = true) : good C word N = true := by
  cases f with
  | zero => exact h
  | succ f => unfold ckW at h; exact (Bool.and_eq_true_iff.mp h).1
theorem ck_good {D : List (Int × PySem.Str)} {C : Int → Int → Bool} : ∀ (xs : List (Int × List Int)) (f : Nat) (last : Option Int) (N : LN) (word : List Int) (room : Int), ckW (kbOf D) C f last N word room = true → RW D (xs.map (·.1)) room f → (∀ x ∈ xs, OrderOk D x.1 x.2) →
    good C (word ++ xs.map (·.1)) (xs.foldl (nsL D) (last, N)).2 = true
  | [], f, last, N, word, room, h, _, _ => by simpa using ck_now h
  | x :: r, f, last, N, word, room, h, hw, ho => by
    cases f with
    | zero => exact hw.elim
    | succ f =>
      obtain ⟨h1, h2, h3⟩ := hw
      unfold ckW at h
      have ha := List.all_eq_true.mp (Bool.and_eq_true_iff.mp h).2 (x.1, 1 + ((partsOf D x.1).length : Int), wlsOf D x.1) (List.mem_map.mpr ⟨x.1, h1, rfl⟩)
      dsimp only at ha
      rw [decide_eq_true h2] at ha
      have hb := List.all_eq_true.mp (by simpa using ha) _ (mem_wls (ho x (.head _)))
      have := ck_good r f _ _ _ _ (by simpa using hb) h3 fun y hy => ho y (.tail _ hy)
      rw [List.append_assoc] at this
      exact this
end Mine
end
section
open PySem PySem.W PyProof.Rows PySem.Calls
open PySem.Builtin PySem.Builtin.Str
set_option Elab.async false
set_option linter.unusedVariables false
namespace Mine
def signs : List Nat := [33, 61, 42, 45, 62, 60, 47, 38, 124]
structure DOk (D : List (Int × PySem.Str)) : Prop where
  pos : 0 < D.length
  len : D.length ≤ 48
  no0 : (0 : Int) ∉ D.map (·.1)
  short : ∀ n ∈ D.map (·.1), 1 ≤ (tl (textAt D n)).length ∧ (tl (textAt D n)).length ≤ 3
  sign : ∀ n ∈ D.map (·.1), ∀ c ∈ tl (textAt D n), c ∈ signs
  inj : ∀ n ∈ D.map (·.1), ∀ m ∈ D.map (·.1), textAt D n = textAt D m → n = m
  ch : ∀ n ∈ D.map (·.1), 1 + (partsOf D n).length ≤ 16
  lead : ∀ n ∈ D.map (·.1), Txt.strip (S "" ++ S " " ++ textAt D n) = textAt D n
def dokB (D : List (Int × PySem.Str)) : Bool :=
  decide (0 < D.length) && decide (D.length ≤ 48) && !(D.map (·.1)).contains 0 && (D.map (·.1)).all (fun n => decide (1 ≤ (tl (textAt D n)).length) && decide ((tl (textAt D n)).length ≤ 3) && (tl (textAt D n)).all (fun c => signs.contains c)
    && (D.map (·.1)).all (fun m => !(textAt D n == textAt D m) || n == m) && decide (1 + (partsOf D n).length ≤ 16) && (Txt.strip (S "" ++ S " " ++ textAt D n) == textAt D n))
theorem dok_of {D : List (Int × PySem.Str)} (h : dokB D = true) : DOk D := by
  unfold dokB at h
  simp only [Bool.and_eq_true, decide_eq_true_eq, List.all_eq_true, Bool.not_eq_true', beq_iff_eq, Bool.or_eq_true, List.contains_iff_mem] at h
  obtain ⟨⟨⟨h1, h2⟩, h3⟩, h4⟩ := h
  refine ⟨h1, h2, fun m => ?_, fun n hn => ⟨(h4 n hn).1.1.1.1.1, (h4 n hn).1.1.1.1.2⟩, fun n hn c hc => ?_, fun n hn m hm e => ?_, fun n hn => (h4 n hn).1.2, fun n hn => (h4 n hn).2⟩
  · rw [← List.contains_iff_mem] at m; rw [h3] at m; cases m
  · exact (h4 n hn).1.1.1.2 c hc
  · rcases (h4 n hn).1.1.2 m hm with h | h
    · rw [e] at h; simp at h
    · exact h
set_option maxRecDepth 100000 in
theorem dok_picks : picks.all (fun p => dokB (Dof p)) = true := by decide +kernel
def KL (D : List (Int × PySem.Str)) (ls : List Int) : Prop := ∀ n ∈ ls, n ∈ D.map (·.1)
def nameL (D : List (Int × PySem.Str)) (ls : List Int) : List Nat := joinL [32] (ls.map fun n => tl (textAt D n))
def nameT (D : List (Int × PySem.Str)) (ls : List Int) : PySem.Str := ms (nameL D ls)
theorem join_nameT (D : List (Int × PySem.Str)) (ls : List Int) : PySem.Str.join (S " ") (ls.map (textAt D)) = nameT D ls := by
  apply tl_inj
  rw [tl_join, List.map_map]
  unfold nameT nameL
  rw [tl_ms]
  rfl
theorem joinL_snoc (sep : List Nat) : ∀ (ps : List (List Nat)) (q : List Nat), ps ≠ [] → joinL sep (ps ++ [q]) = joinL sep ps ++ sep ++ q
  | [p], q, _ => rfl
  | p :: p2 :: r, q, _ => by
    show p ++ sep ++ joinL sep (p2 :: r ++ [q]) = p ++ sep ++ joinL sep (p2 :: r) ++ sep ++ q
    rw [joinL_snoc sep (p2 :: r) q (by simp)]; simp
theorem strip_ends {x : PySem.Str} (h1 : ∀ c, (tl x).head? = some c → Unicode.isSpace c = false) (h2 : ∀ c, (tl x).reverse.head? = some c → Unicode.isSpace c = false) : Txt.strip x = x := by
  have lo : stripLo Unicode.isSpace true x = 0 := by
    simp only [stripLo, if_true]
    cases hx : x.cps.toList with
    | nil => rfl
    | cons c l =>
      have hs := h1 c (by show x.cps.toList.head? = _; rw [hx]; rfl)
      simp [List.takeWhile_cons, hs]
  have hi : stripHi Unicode.isSpace true x 0 = x.length := by
    simp only [stripHi, if_true, List.drop_zero]
    cases hr : x.cps.toList.reverse with
    | nil => rfl
    | cons c l =>
      have hs := h2 c (by show x.cps.toList.reverse.head? = _; rw [hr]; rfl)
      simp [List.takeWhile_cons, hs]
  have hsame : stripSame Unicode.isSpace true true x = true := by
    unfold stripSame
    rw [lo, hi]
    simp
  unfold Txt.strip Txt.stripBy
  rw [if_pos hsame]
theorem sign_space : ∀ c ∈ signs, Unicode.isSpace c = false := by decide +kernel
theorem joinL_head (sep : List Nat) {p : List Nat} {r : List (List Nat)} {c : Nat} {l : List Nat} (e : p = c :: l) : (joinL sep (p :: r)).head? = some c := by
  subst e
  cases r <;> rfl
end Mine
end
section
open PySem PySem.W PyProof.Rows PySem.Calls
open PySem.Builtin PySem.Builtin.Str
set_option Elab.async false
set_option linter.unusedVariables false
namespace Mine
section
variable {D : List (Int × PySem.Str)}
theorem text_sign (hD : DOk D) {ls : List Int} (hl : KL D ls) : ∀ p ∈ ls.map (fun n => tl (textAt D n)), p ≠ [] ∧ (∀ c ∈ p, c ∈ signs) ∧ p.length ≤ 3 := by
  intro p hp
  obtain ⟨n, hn, rfl⟩ := List.mem_map.mp hp
  have := hD.short n (hl n hn)
  exact ⟨fun e => by rw [e] at this; simp at this, hD.sign n (hl n hn), this.2⟩
theorem longer_ok (hD : DOk D) {ls : List Int} (hl : KL D ls) {p : Int} (hp : p = 0 ∨ p ∈ D.map (·.1)) : longerT D (nameT D ls) p = nameT D (lgr ls p) := by
  unfold longerT lgr
  by_cases h0 : p = 0
  · rw [h0]; rfl
  have hb : (p == 0) = false := by simpa using h0
  rw [hb]
  simp only [Bool.false_eq_true, if_false]
  have hpk : p ∈ D.map (·.1) := hp.resolve_left h0
  cases ls with
  | nil => exact hD.lead p hpk |>.trans (ms_tl _).symm
  | cons n r =>
    have e : nameT D (n :: r) ++ S " " ++ textAt D p = nameT D (n :: r ++ [p]) := by
      apply tl_inj
      rw [tl_app, tl_app]
      unfold nameT nameL
      rw [tl_ms, tl_ms, List.map_append]
      exact (joinL_snoc _ _ _ (by simp)).symm
    rw [e]
    apply strip_ends
    · intro c hc
      have hn := text_sign hD hl (tl (textAt D n)) (List.mem_map.mpr ⟨n, .head _, rfl⟩)
      cases ht : tl (textAt D n) with
      | nil => exact absurd ht hn.1
      | cons a l =>
        have : (tl (nameT D (n :: r ++ [p]))).head? = some a := by
          unfold nameT nameL; rw [tl_ms]; exact joinL_head _ ht
        rw [this] at hc; cases hc
        exact sign_space _ (hn.2.1 _ (by rw [ht]; exact .head _))
    · intro c hc
      have hpt := hD.short p hpk
      rw [← e, tl_app, List.reverse_append] at hc
      cases ht : (tl (textAt D p)).reverse with
      | nil => rw [List.reverse_eq_nil_iff.mp ht] at hpt; simp at hpt
      | cons a l =>
        rw [ht] at hc
        cases hc
        exact sign_space _ (hD.sign p hpk _ (List.mem_reverse.mp (by rw [ht]; exact .head _)))
theorem sign_no : (32 : Nat) ∉ signs ∧ 44 ∉ signs ∧ 46 ∉ signs := by decide
theorem nameT_inj (hD : DOk D) {a b : List Int} (ha : KL D a) (hb : KL D b) (h : nameT D a = nameT D b) : a = b := by
  have hh : nameL D a = nameL D b := by have := congrArg tl h; unfold nameT at this; rwa [tl_ms, tl_ms] at this
  have ne : ∀ {x : List Int}, KL D x → x ≠ [] → nameL D x ≠ [] := by
    intro x hx h0 e
    cases x with
    | nil => exact h0 rfl
    | cons n r =>
      have hn := text_sign hD hx (tl (textAt D n)) (List.mem_map.mpr ⟨n, .head _, rfl⟩)
      cases ht : tl (textAt D n) with
      | nil => exact hn.1 ht
      | cons c l =>
        have := joinL_head [32] (r := r.map fun n => tl (textAt D n)) ht
        unfold nameL at e
        rw [List.map_cons] at e
        rw [e] at this; cases this
  by_cases ha0 : a = []
  · subst ha0
    by_cases hb0 : b = []
    · exact hb0.symm
    · exact absurd hh.symm (ne hb hb0)
  by_cases hb0 : b = []
  · subst hb0; exact absurd hh (ne ha ha0)
  have sp : ∀ {x : List Int}, KL D x → x ≠ [] → Txt.split (nameT D x) (S " ") = (x.map fun n => tl (textAt D n)).map ms := fun {x} hx h0 =>
    split_join _ (S " ") 32 _ rfl (by decide +kernel) (by simpa using h0) (by unfold nameT; rw [tl_ms]; rfl) fun p hp m => sign_no.1 ((text_sign hD hx p hp).2.1 _ m)
  have e := sp ha ha0
  rw [h, sp hb hb0, List.map_map, List.map_map] at e
  clear h hh ha0 hb0 sp ne
  induction a generalizing b with
  | nil => cases b with
    | nil => rfl
    | cons _ _ => cases e
  | cons n a ih => cases b with
    | nil => cases e
    | cons m b =>
      rw [List.map_cons, List.map_cons, List.cons.injEq] at e
      have e1 : textAt D m = textAt D n := by have := e.1; simpa [ms_tl] using this
      rw [hD.inj m (hb m (.head _)) n (ha n (.head _)) e1, ih (fun x hx => ha x (.tail _ hx)) (fun x hx => hb x (.tail _ hx)) e.2]
/-- a dict, its keys renamed -/
def ren (D : List (Int × PySem.Str)) (G : LN) : List (PySem.Str × Int) := G.map fun e => (nameT D e.1, e.2)
def KG (D : List (Int × PySem.Str)) (G : LN) : Prop := ∀ e ∈ G, KL D e.1
theorem getA_ren (hD : DOk D) {G : LN} (hG : KG D G) {k : List Int} (hk : KL D k) : getA (ren D G) (nameT D k) = getA G k := by
  unfold getA ren
  induction G with
  | nil => rfl
  | cons e r ih =>
    rw [List.map_cons, List.find?_cons, List.find?_cons]
    by_cases h : e.1 = k
    · simp [h]
    · have h2 : nameT D e.1 ≠ nameT D k := fun q => h (nameT_inj hD (hG e (.head _)) hk q)
      simp only [h, h2, decide_false]
      exact ih fun x hx => hG x (.tail _ hx)
theorem putA_ren (hD : DOk D) {G : LN} (hG : KG D G) {k : List Int} (hk : KL D k) {b : Int} : putA (ren D G) (nameT D k) b = ren D (putA G k b) := by
  have hany : (ren D G).any (fun p => p.1 = nameT D k) = G.any (fun p => p.1 = k) := by
    unfold ren
    rw [List.any_map]
    rw [Bool.eq_iff_iff, List.any_eq_true, List.any_eq_true]
    constructor
    · rintro ⟨e, he, q⟩
      exact ⟨e, he, decide_eq_true (nameT_inj hD (hG e he) hk (of_decide_eq_true q))⟩
    · rintro ⟨e, he, q⟩
      exact ⟨e, he, decide_eq_true (congrArg (nameT D) (of_decide_eq_true q))⟩
  unfold putA
  rw [hany]
  split
  · unfold ren
    rw [List.map_map, List.map_map]
    apply List.map_congr_left
    intro e he
    show (if nameT D e.1 = nameT D k then (nameT D e.1, b) else (nameT D e.1, e.2)) = (nameT D (if e.1 = k then (e.1, b) else e).1, (if e.1 = k then (e.1, b) else e).2)
    by_cases h : e.1 = k
    · rw [if_pos h, if_pos (by rw [h])]
    · rw [if_neg h, if_neg fun q => h (nameT_inj hD (hG e he) hk q)]
  · unfold ren; rw [List.map_append]; rfl
theorem putA_KG {G : LN} (hG : KG D G) {k : List Int} (hk : KL D k) {b : Int} : KG D (putA G k b) := by
  intro e he
  rcases putA_keys e.1 (List.mem_map.mpr ⟨e, he, rfl⟩) with h | h
  · rw [h]; exact hk
  · obtain ⟨e', he', q⟩ := List.mem_map.mp h
    rw [← q]; exact hG e' he'
end
end Mine
end
section
open PySem PySem.W PyProof.Rows PySem.Calls
open PySem.Builtin PySem.Builtin.Str
set_option Elab.async false
set_option linter.unusedVariables false
namespace Mine
section
variable {D : List (Int × PySem.Str)}
theorem lgr_KL {ls : List Int} (hl : KL D ls) {p : Int} (hp : p = 0 ∨ p ∈ D.map (·.1)) : KL D (lgr ls p) := by
  unfold lgr
  split
  · exact hl
  · rename_i h
    intro n hn
    rcases List.mem_append.mp hn with hn | hn
    · exact hl n hn
    · rw [List.mem_singleton.mp hn]; exact hp.resolve_left fun e => h (by rw [e]; rfl)
theorem in_ren (hD : DOk D) {N G : LN} {W : List (Int × Int)} {name : List Int} {q : Int × Int} (hN : KG D N) (hG : KG D G) (hn : KL D name) (hq : q.1 = 0 ∨ q.1 ∈ D.map (·.1)) :
    inStep D (ren D N) W (nameT D name) (ren D G) q = ren D (stepL N W name G q) ∧ KG D (stepL N W name G q) := by
  have hl := lgr_KL hn hq
  unfold inStep stepL
  rw [longer_ok hD hn hq, getA_ren hD hG hl, getA_ren hD hN hn, putA_ren hD hG hl]
  exact ⟨rfl, putA_KG hG hl⟩
theorem row_ren (hD : DOk D) {N : LN} {W : List (Int × Int)} {name : List Int} (hN : KG D N) (hn : KL D name) : ∀ (V : List (Int × Int)) (G : LN), KG D G → (∀ q ∈ V, q.1 = 0 ∨ q.1 ∈ D.map (·.1)) →
    V.foldl (inStep D (ren D N) W (nameT D name)) (ren D G) = ren D (V.foldl (stepL N W name) G) ∧ KG D (V.foldl (stepL N W name) G)
  | [], G, hG, _ => ⟨rfl, hG⟩
  | q :: V, G, hG, hV => by
    obtain ⟨e, h⟩ := in_ren hD (W := W) hN hG hn (hV q (.head _))
    rw [List.foldl_cons, List.foldl_cons, e]
    exact row_ren hD hN hn V _ h fun x hx => hV x (.tail _ hx)
theorem grown_ren (hD : DOk D) {N : LN} {W : List (Int × Int)} (hN : KG D N) (hW : ∀ q ∈ W, q.1 = 0 ∨ q.1 ∈ D.map (·.1)) : grownOf D (ren D N) W = ren D (grownL N W) ∧ KG D (grownL N W) := by
  have : ∀ (M : LN) (G : LN), KG D M → KG D G → (ren D M).foldl (fun G e => W.foldl (inStep D (ren D N) W e.1) G) (ren D G) = ren D (M.foldl (fun G e => W.foldl (stepL N W e.1) G) G) ∧ KG D (M.foldl (fun G e => W.foldl (stepL N W e.1) G) G) := by
    intro M
    induction M with
    | nil => exact fun G _ hG => ⟨rfl, hG⟩
    | cons e M ih =>
      intro G hM hG
      obtain ⟨e1, h1⟩ := row_ren hD (W := W) hN (hM e (.head _)) W G hG hW
      show (ren D M).foldl _ (W.foldl (inStep D (ren D N) W (nameT D e.1)) (ren D G)) = _ ∧ _
      rw [e1]
      exact ih _ (fun x hx => hM x (.tail _ hx)) h1
  exact this N [] hN fun _ h => absurd h List.not_mem_nil
theorem w_keys {n : Int} {o : List Int} (h : OrderOk D n o) : ∀ q ∈ weightsBy D n o, q.1 = 0 ∨ q.1 ∈ D.map (·.1) := by
  have ho : ∀ x ∈ o, x ∈ D.map (·.1) := fun x hx => (List.mem_filter.mp (h.perm.mem_iff.mp hx)).1
  have hf : ∀ (o : List Int) (W : List (Int × Int)), (∀ x ∈ o, x ∈ D.map (·.1)) → (∀ q ∈ W.map (·.1), q ∈ D.map (·.1)) → ∀ q ∈ (o.foldl (wStep D n) W).map (·.1), q ∈ D.map (·.1) := by
    intro o
    induction o with
    | nil => exact fun W _ hW => hW
    | cons x o ih =>
      intro W hx hW
      refine ih _ (fun y hy => hx y (.tail _ hy)) fun q hq => ?_
      rcases putA_keys q hq with e | e
      · rw [e]; exact hx x (.head _)
      · exact hW q e
  intro q hq
  rcases putA_keys q.1 (List.mem_map.mpr ⟨q, hq, rfl⟩) with e | e
  · exact .inl e
  · exact .inr (hf o [] ho (fun _ h => absurd h List.not_mem_nil) _ e)
theorem tweak_keys2 {W : List (Int × Int)} {b : Bool} (hW : ∀ q ∈ W, q.1 = 0 ∨ q.1 ∈ D.map (·.1)) : ∀ q ∈ tweak W b, q.1 = 0 ∨ q.1 ∈ D.map (·.1) := by
  unfold tweak
  split
  · intro q hq
    rcases putA_keys q.1 (List.mem_map.mpr ⟨q, hq, rfl⟩) with e | e
    · exact .inl e
    · obtain ⟨q', hq', e'⟩ := List.mem_map.mp e
      rw [← e']; exact hW q' hq'
  · exact hW
theorem nums_ren (hD : DOk D) : ∀ (xs : List (Int × List Int)) (last : Option Int) (N : LN), KG D N → (∀ x ∈ xs, OrderOk D x.1 x.2) →
    xs.foldl (numStep D) (last, ren D N) = ((xs.foldl (nsL D) (last, N)).1, ren D (xs.foldl (nsL D) (last, N)).2) ∧ KG D (xs.foldl (nsL D) (last, N)).2
  | [], last, N, hN, _ => ⟨rfl, hN⟩
  | x :: xs, last, N, hN, ho => by
    obtain ⟨e, h⟩ := grown_ren hD (W := tweak (weightsBy D x.1 x.2) (last == some x.1)) hN (tweak_keys2 (w_keys (ho x (.head _))))
    rw [List.foldl_cons, List.foldl_cons]
    have e2 : numStep D (last, ren D N) x = (some x.1, ren D (grownL N (tweak (weightsBy D x.1 x.2) (last == some x.1)))) := by
      unfold numStep; rw [e]
    rw [e2]
    exact nums_ren hD xs _ _ h fun y hy => ho y (.tail _ hy)
def numsL (D : List (Int × PySem.Str)) (xs : List (Int × List Int)) : LN := (xs.foldl (nsL D) (none, [([], 1)])).2
theorem numbers_ren (hD : DOk D) {xs : List (Int × List Int)} (ho : ∀ x ∈ xs, OrderOk D x.1 x.2) : numbersBy D xs = ren D (numsL D xs) ∧ KG D (numsL D xs) := by
  have h0 : KG D [([], 1)] := fun e he => by rw [List.mem_singleton.mp he]; exact fun _ h => absurd h List.not_mem_nil
  obtain ⟨e, h⟩ := nums_ren hD xs none _ h0 ho
  refine ⟨?_, h⟩
  unfold numbersBy numsL
  have : [(S "", (1 : Int))] = ren D [([], 1)] := rfl
  rw [this, e]
end
end Mine
end
section
open PySem PySem.W PyProof.Rows PySem.Calls
set_option Elab.async false
set_option linter.unusedVariables false
namespace Mine
/-- what follows the first place of p in l -/
def findS (p : List Nat) : List Nat → Option (List Nat)
  | [] => if p.isEmpty then some [] else none
  | c :: l => if p.isPrefixOf (c :: l) then some ((c :: l).drop p.length) else findS p l
def loopS : List (List Nat) → List Nat → Bool
  | [], _ => true
  | x :: r, l => match findS x l with | none => false | some l' => loopS r l'
theorem findS_nil (l : List Nat) : findS [] l = some l := by cases l <;> rfl
theorem pre_app {p o r : List Nat} {b : Nat} (hp : b ∉ p) : p.isPrefixOf (o ++ b :: r) = p.isPrefixOf o := by
  induction p generalizing o with
  | nil => simp
  | cons x p ih =>
    cases o with
    | nil =>
      have : x ≠ b := fun e => hp (e ▸ .head _)
      simp [List.isPrefixOf, this]
    | cons y o =>
      show (x == y && p.isPrefixOf (o ++ b :: r)) = (x == y && p.isPrefixOf o)
      rw [ih fun m => hp (.tail _ m)]
theorem find_app {p r : List Nat} {b : Nat} (hp : b ∉ p) (h0 : p ≠ []) : ∀ o : List Nat, findS p (o ++ b :: r) = match findS p o with | some q => some (q ++ b :: r) | none => findS p r
  | [] => by
    have he : p.isEmpty = false := by cases p with | nil => exact absurd rfl h0 | cons _ _ => rfl
    have hq : p.isPrefixOf (b :: r) = false := by
      have := pre_app (o := []) (r := r) hp
      rw [List.nil_append] at this; rw [this]
      cases p with | nil => exact absurd rfl h0 | cons _ _ => rfl
    show (if p.isPrefixOf (b :: r) then _ else findS p r) = match (if p.isEmpty = true then some ([] : List Nat) else none) with | some q => some (q ++ b :: r) | none => findS p r
    rw [hq, he]; rfl
  | c :: o => by
    have hq := pre_app (o := c :: o) (r := r) hp
    show (if p.isPrefixOf (c :: o ++ b :: r) then some ((c :: o ++ b :: r).drop p.length) else findS p (o ++ b :: r)) = match (if p.isPrefixOf (c :: o) then some ((c :: o).drop p.length) else findS p o) with | some q => some (q ++ b :: r) | none => findS p r
    rw [hq]
    cases hc : p.isPrefixOf (c :: o) with
    | true =>
      have hl : p.length ≤ (c :: o).length := (List.isPrefixOf_iff_prefix.mp hc).length_le
      simp only [if_true]
      rw [List.drop_append_of_le_length hl]
    | false =>
      simp only [Bool.false_eq_true, if_false]
      exact find_app hp h0 o
theorem find_blank {b : Nat} {rest : List Nat} : ∀ r : List Nat, b ∉ r → findS [b] (r ++ b :: rest) = some rest
  | [], _ => by show (if (b == b && [].isPrefixOf rest) = true then _ else _) = _; simp [List.isPrefixOf]
  | c :: r, h => by
    have : b ≠ c := fun e => h (e ▸ .head _)
    show (if (b == c && List.isPrefixOf [] (r ++ b :: rest)) = true then _ else findS [b] (r ++ b :: rest)) = _
    rw [find_blank r fun m => h (.tail _ m)]
    simp [this]
theorem find_none {b : Nat} : ∀ r : List Nat, b ∉ r → findS [b] r = none
  | [], _ => rfl
  | c :: r, h => by
    have : b ≠ c := fun e => h (e ▸ .head _)
    show (if (b == c && List.isPrefixOf [] r) = true then _ else findS [b] r) = _
    rw [find_none r fun m => h (.tail _ m)]
    simp [this]
theorem find_sub {p : List Nat} : ∀ {l q : List Nat}, findS p l = some q → ∀ c ∈ q, c ∈ l
  | [], q, h, c, hc => by
    unfold findS at h
    split at h
    · cases h; exact hc
    · cases h
  | x :: l, q, h, c, hc => by
    unfold findS at h
    split at h
    · cases h; exact List.mem_of_mem_drop hc
    · exact .tail _ (find_sub h c hc)
theorem loop_gm {T : Int → List Nat} {b : Nat} {ok : Int → Prop} (hT : ∀ n, ok n → T n ≠ [] ∧ b ∉ T n) : ∀ (os ns : List Int) (n : Int), (∀ x ∈ os, ok x) → (∀ x ∈ ns, ok x) → ok n →
    loopS (T n :: (ns.flatMap fun m => [[b], T m]) ++ [[]]) (joinL [b] (os.map T)) = gm (fun p q => (findS (T p) (T q)).isSome) (n :: ns) os
  | [], ns, n, _, _, hn => by
    have : findS (T n) [] = none := by unfold findS; rw [if_neg]; have := (hT n hn).1; simpa using this
    show (match findS (T n) (joinL [b] []) with | none => false | some l' => _) = _
    rw [show joinL [b] [] = [] from rfl, this]; rfl
  | [o], ns, n, ho, hns, hn => by
    show (match findS (T n) (T o) with | none => false | some l' => loopS ((ns.flatMap fun m => [[b], T m]) ++ [[]]) l') = if (findS (T n) (T o)).isSome = true then gm _ ns [] else gm _ (n :: ns) []
    cases hf : findS (T n) (T o) with
    | none => rfl
    | some r =>
      have hb : b ∉ r := fun m => (hT o (ho o (.head _))).2 (find_sub hf b m)
      cases ns with
      | nil => show loopS [[]] r = true; unfold loopS; rw [findS_nil]; rfl
      | cons m ns =>
        show (match findS [b] r with | none => false | some l' => _) = false
        rw [find_none r hb]
  | o :: o2 :: os, ns, n, ho, hns, hn => by
    have ih := loop_gm hT (o2 :: os)
    have hj : joinL [b] ((o :: o2 :: os).map T) = T o ++ b :: joinL [b] ((o2 :: os).map T) := by
      show T o ++ [b] ++ joinL [b] (T o2 :: os.map T) = _; simp
    have ho2 : ∀ x ∈ o2 :: os, ok x := fun x hx => ho x (.tail _ hx)
    rw [hj]
    show (match findS (T n) (T o ++ b :: joinL [b] ((o2 :: os).map T)) with | none => false | some l' => loopS ((ns.flatMap fun m => [[b], T m]) ++ [[]]) l') = if (findS (T n) (T o)).isSome = true then gm _ ns (o2 :: os) else gm _ (n :: ns) (o2 :: os)
    rw [find_app (hT n hn).2 (hT n hn).1]
    cases hf : findS (T n) (T o) with
    | none =>
      simp only [Option.isSome_none, Bool.false_eq_true, if_false]
      rw [← ih ns n ho2 hns hn]; rfl
    | some r =>
      have hb : b ∉ r := fun m => (hT o (ho o (.head _))).2 (find_sub hf b m)
      cases ns with
      | nil => show loopS [[]] _ = true; unfold loopS; rw [findS_nil]; rfl
      | cons m ns =>
        simp only [Option.isSome_some, if_true]
        rw [← ih ns m ho2 (fun x hx => hns x (.tail _ hx)) (hns m (.head _))]
        show (match findS [b] (r ++ b :: joinL [b] ((o2 :: os).map T)) with | none => false | some l' => loopS (T m :: (ns.flatMap fun m => [[b], T m]) ++ [[]]) l') = _
        rw [find_blank r hb]
end Mine
end
section
open PySem PySem.W PyProof.Rows PySem.Calls
open PySem.Builtin PySem.Builtin.Str
set_option Elab.async false
set_option linter.unusedVariables false
namespace Mine
theorem findS_spec (p : List Nat) : ∀ l : List Nat, (findS p l = none ∧ ∀ i, ¬ p <+: l.drop i) ∨ ∃ i, findS p l = some (l.drop (i + p.length)) ∧ p <+: l.drop i ∧ ∀ k, k < i → ¬ p <+: l.drop k
  | [] => by
    cases p with
    | nil => exact .inr ⟨0, rfl, List.prefix_refl _, fun k hk => absurd hk (Nat.not_lt_zero _)⟩
    | cons a p => exact .inl ⟨rfl, fun i h => by rw [List.drop_nil] at h; simp at h⟩
  | c :: l => by
    unfold findS
    by_cases h : p.isPrefixOf (c :: l) = true
    · rw [if_pos h]
      exact .inr ⟨0, by rw [Nat.zero_add], List.isPrefixOf_iff_prefix.mp h, fun k hk => absurd hk (Nat.not_lt_zero _)⟩
    · rw [if_neg h]
      rcases findS_spec p l with ⟨h1, h2⟩ | ⟨i, h1, h2, h3⟩
      · refine .inl ⟨h1, fun i hi => ?_⟩
        cases i with
        | zero => exact h (List.isPrefixOf_iff_prefix.mpr hi)
        | succ i => exact h2 i hi
      · refine .inr ⟨i + 1, by rw [h1, show i + 1 + p.length = (i + p.length) + 1 by omega]; rfl, h2, fun k hk => ?_⟩
        cases k with
        | zero => exact fun hp => h (List.isPrefixOf_iff_prefix.mpr hp)
        | succ k => exact h3 k (by omega)
theorem at_pre {x y : PySem.Str} {i : Nat} (hi : i ≤ x.length) : StrLaws.At x y x.length i ↔ tl y <+: (tl x).drop i := by
  rw [at_iff, List.prefix_iff_eq_take]
  constructor
  · exact fun h => h.2.symm
  · intro h
    refine ⟨?_, h.symm⟩
    have := congrArg List.length h
    rw [List.length_take, List.length_drop, ← len_tl x] at this
    rw [len_tl x] at *
    omega
end Mine
end
section
open PySem PySem.W PyProof.Rows PySem.Calls
open PySem.Builtin PySem.Builtin.Str
set_option Elab.async false
set_option linter.unusedVariables false
namespace Mine
theorem from_nat {len i : Nat} : fromIndex len (i : Int) = i := by unfold fromIndex; rw [if_neg (by omega)]; omega
/-- the search of the program, from the suffix -/
theorem find_suffix {got x : PySem.Str} {st : Nat} (hst : st ≤ got.length) : (findIn4 got x st got.length < 0 ∧ findS (tl x) ((tl got).drop st) = none) ∨
    ∃ k : Nat, findIn4 got x st got.length = (k : Int) ∧ k + x.length ≤ got.length ∧ findS (tl x) ((tl got).drop st) = some ((tl got).drop (k + x.length)) := by
  unfold findIn4
  rw [from_nat, from_nat, Nat.min_self]
  rcases findS_spec (tl x) ((tl got).drop st) with ⟨h1, h2⟩ | ⟨i, h1, h2, h3⟩
  · left
    refine ⟨?_, h1⟩
    rcases StrLaws.occ_head_from got x st 1 (Nat.le_refl 1) with ⟨e, _⟩ | ⟨k, r, e, hk, hat, _⟩
    · rw [e]; show (-1 : Int) < 0; decide
    · exfalso
      have hkl : k ≤ got.length := by have := hat.1; omega
      refine h2 (k - st) ?_
      rw [List.drop_drop, show st + (k - st) = k by omega]
      exact (at_pre hkl).mp hat
  · right
    rw [List.drop_drop] at h2
    have hil : st + i + (tl x).length ≤ (tl got).length ∨ tl x = [] := by
      have := h2.length_le
      rw [List.length_drop] at this
      by_cases h0 : tl x = []
      · exact .inr h0
      · have : 0 < (tl x).length := List.length_pos_iff.mpr h0
        left; omega
    have hi : st + i ≤ got.length := by
      rw [len_tl got] at *
      rcases hil with h | h
      · omega
      · cases i with
        | zero => omega
        | succ i => exact absurd (h ▸ List.nil_prefix) (h3 0 (Nat.succ_pos _))
    rcases StrLaws.occ_head_from got x st 1 (Nat.le_refl 1) with ⟨e, hn⟩ | ⟨k, r, e, hk, hat, hn⟩
    · exact absurd ((at_pre hi).mpr h2) (hn _ (Nat.le_add_right _ _))
    · have hkl : k ≤ got.length := by have := hat.1; omega
      have hke : k = st + i := by
        have a1 : ¬ k < st + i := fun hlt => h3 (k - st) (by omega) (by rw [List.drop_drop, show st + (k - st) = k by omega]; exact (at_pre hkl).mp hat)
        have a2 : ¬ st + i < k := fun hlt => hn (st + i) (by omega) hlt ((at_pre hi).mpr h2)
        omega
      rw [e]
      refine ⟨k, rfl, hat.1, ?_⟩
      rw [h1, List.drop_drop, hke, len_tl x, Nat.add_assoc]
theorem loop_loopS {got : PySem.Str} : ∀ (ws : List PySem.Str) (st : Nat), st ≤ got.length → ellLoop got got.length ws st = loopS (ws.map tl) ((tl got).drop st)
  | [], _, _ => rfl
  | x :: r, st, hst => by
    rw [List.map_cons]
    unfold ellLoop loopS
    rcases find_suffix (x := x) hst with ⟨h1, h2⟩ | ⟨k, h1, h2, h3⟩
    · rw [if_pos h1, h2]
    · rw [h1, if_neg (by omega), h3]
      have := loop_loopS r (k + x.length) h2
      show _ = loopS (r.map tl) ((tl got).drop (k + x.length))
      rw [← this]
      rfl
end Mine
end
section
open PySem PySem.W PyProof.Rows PySem.Calls
open PySem.Builtin PySem.Builtin.Str
set_option Elab.async false
set_option linter.unusedVariables false
namespace Mine
theorem tl_dots : tl (S "...") = [46, 46, 46] := by decide +kernel
theorem contains_join {want : PySem.Str} {p q : List Nat} {r : List (List Nat)} (h : tl want = joinL [46, 46, 46] (p :: q :: r)) : Txt.contains want (S "...") = true := by
  refine (contains_iff _ _).mpr ⟨p.length, ?_⟩
  rw [at_iff, tl_dots, len_tl want, h]
  show _ + 3 ≤ (p ++ [46, 46, 46] ++ joinL [46, 46, 46] (q :: r)).length ∧ ((p ++ [46, 46, 46] ++ joinL [46, 46, 46] (q :: r)).drop p.length).take 3 = _
  rw [List.append_assoc, List.drop_left]
  refine ⟨by simp, by simp⟩
theorem split_dots {want : PySem.Str} {ws : List (List Nat)} (h0 : ws ≠ []) (h : tl want = joinL [46, 46, 46] ws) (hf : ∀ p ∈ ws, 46 ∉ p) : Txt.split want (S "...") = ws.map ms :=
  split_join _ _ 46 ws (by rw [tl_dots]; rfl) (by decide +kernel) h0 (by rw [tl_dots]; exact h) hf
theorem ell_open {want got : PySem.Str} {mids : List (List Nat)} (h : tl want = joinL [46, 46, 46] ([] :: (mids ++ [[]]))) (hf : ∀ p ∈ mids, 46 ∉ p) : ell want got = loopS (mids ++ [[]]) (tl got) := by
  have hc : Txt.contains want (S "...") = true := by
    cases mids with
    | nil => exact contains_join h
    | cons m mids => exact contains_join h
  have hs := split_dots (by simp) h (fun p hp => by
    rcases List.mem_cons.mp hp with rfl | hp
    · exact List.not_mem_nil
    · rcases List.mem_append.mp hp with hp | hp
      · exact hf p hp
      · rw [List.mem_singleton.mp hp]; exact List.not_mem_nil)
  have hlast : (([] :: (mids ++ [[]])).map ms).getLastD PySem.Str.empty = ms [] := by
    rw [List.getLastD_eq_getLast?, List.map_cons, List.map_append, List.map_singleton, ← List.cons_append, List.getLast?_append]; rfl
  have e0 : (ms []).length = 0 := rfl
  have hh : (([] :: (mids ++ [[]])).map ms).headD PySem.Str.empty = ms [] := rfl
  unfold ell
  rw [hc, hs, hh, e0]
  simp only [Bool.true_eq_false, if_false, bne_self_eq_false, Bool.false_and, Bool.false_eq_true]
  unfold ellEnd
  rw [hlast, e0]
  simp only [bne_self_eq_false, Bool.false_and, Bool.false_eq_true, if_false]
  rw [if_neg (by omega)]
  have := loop_loopS (got := got) (([] :: (mids ++ [[]])).map ms) 0 (Nat.zero_le _)
  rw [show ((got.length : Int) - ((0 : Nat) : Int)) = got.length by omega]
  rw [show ((0 : Nat) : Int) = 0 from rfl] at *
  rw [this, List.map_map, List.drop_zero]
  have hm : (([] :: (mids ++ [[]])).map (tl ∘ ms)) = [] :: (mids ++ [[]]) := by
    rw [show (tl ∘ ms) = _root_.id from funext fun l => tl_ms l, List.map_id]
  rw [hm]
  show (match findS [] (tl got) with | none => false | some l' => loopS (mids ++ [[]]) l') = _
  rw [findS_nil]
end Mine
end
section
open PySem PySem.W PyProof.Rows PySem.Calls
open PySem.Builtin PySem.Builtin.Str
set_option Elab.async false
set_option linter.unusedVariables false
namespace Mine
theorem flat_joinL (f : Nat → List Nat) (sep : List Nat) : ∀ ps : List (List Nat), (joinL sep ps).flatMap f = joinL (sep.flatMap f) (ps.map fun p => p.flatMap f)
  | [] => rfl
  | [p] => rfl
  | p :: q :: r => by
    show (p ++ sep ++ joinL sep (q :: r)).flatMap f = p.flatMap f ++ sep.flatMap f ++ joinL (sep.flatMap f) ((q :: r).map fun p => p.flatMap f)
    rw [List.flatMap_append, List.flatMap_append, flat_joinL f sep (q :: r)]
theorem ecK_keep : ∀ k, k < 5 → ecK k 32 = [32] ∧ ecK k 44 = [44] ∧ ecK k 46 = [46] := by decide +kernel
theorem ecK_sign : ∀ k, k < 5 → ∀ c ∈ signs, ecK k c ≠ [] ∧ 32 ∉ ecK k c ∧ 44 ∉ ecK k c ∧ 46 ∉ ecK k c := by decide +kernel
/-- a letter, written -/
def TK (D : List (Int × PySem.Str)) (k : Nat) (n : Int) : List Nat := (tl (textAt D n)).flatMap (ecK k)
theorem TK_ok {D : List (Int × PySem.Str)} (hD : DOk D) {k : Nat} (hk : k < 5) {n : Int} (hn : n ∈ D.map (·.1)) : TK D k n ≠ [] ∧ 32 ∉ TK D k n ∧ 44 ∉ TK D k n ∧ 46 ∉ TK D k n := by
  have no : ∀ b, (∀ c ∈ signs, b ∉ ecK k c) → b ∉ TK D k n := fun b hb m => by
    obtain ⟨c, hc, hm⟩ := List.mem_flatMap.mp m
    exact hb c (hD.sign n hn c hc) hm
  refine ⟨fun e => ?_, no 32 fun c hc => (ecK_sign k hk c hc).2.1, no 44 fun c hc => (ecK_sign k hk c hc).2.2.1, no 46 fun c hc => (ecK_sign k hk c hc).2.2.2⟩
  have hs := (hD.short n hn).1
  cases ht : tl (textAt D n) with
  | nil => rw [ht] at hs; simp at hs
  | cons c l =>
    unfold TK at e
    rw [ht, List.flatMap_cons] at e
    exact (ecK_sign k hk c (hD.sign n hn c (by rw [ht]; exact .head _))).1 (List.append_eq_nil_iff.mp e).1
end Mine
end
section
open PySem PySem.W PyProof.Rows PySem.Calls
open PySem.Builtin PySem.Builtin.Str
set_option Elab.async false
set_option linter.unusedVariables false
namespace Mine
theorem joinL_no {b : Nat} {sep : List Nat} (hs : b ∉ sep) : ∀ {ps : List (List Nat)}, (∀ p ∈ ps, b ∉ p) → b ∉ joinL sep ps
  | [], _ => List.not_mem_nil
  | [p], h => h p (.head _)
  | p :: q :: r, h => by
    intro m
    rcases List.mem_append.mp (show b ∈ (p ++ sep) ++ joinL sep (q :: r) from m) with m | m
    · rcases List.mem_append.mp m with m | m
      · exact h p (.head _) m
      · exact hs m
    · exact joinL_no hs (fun x hx => h x (.tail _ hx)) m
def nameK (D : List (Int × PySem.Str)) (k : Nat) (ls : List Int) : List Nat := joinL [32] (ls.map (TK D k))
theorem nameK_eq {D : List (Int × PySem.Str)} {k : Nat} (hk : k < 5) (ls : List Int) : (nameL D ls).flatMap (ecK k) = nameK D k ls := by
  unfold nameL nameK
  rw [flat_joinL, List.map_map]
  have : ([32] : List Nat).flatMap (ecK k) = [32] := by rw [List.flatMap_cons, (ecK_keep k hk).1]; rfl
  rw [this]; rfl
theorem page_plain {D : List (Int × PySem.Str)} (hD : DOk D) {k : Nat} (hk : k < 5) {Ns : List (List Int)} (h0 : Ns ≠ []) (hN : ∀ ls ∈ Ns, KL D ls) :
    Txt.split (pageT k (PySem.Str.join (S ",") (Ns.map (nameT D)))) (S ",") = Ns.map fun ls => ms (nameK D k ls) := by
  have := split_join (pageT k (PySem.Str.join (S ",") (Ns.map (nameT D)))) (S ",") 44 (Ns.map (nameK D k)) rfl (by decide +kernel) (by simpa using h0) (by
    unfold pageT
    rw [tl_ms, tl_join, List.map_map, show tl (S ",") = [44] from rfl, flat_joinL, List.map_map]
    have e : ([44] : List Nat).flatMap (ecK k) = [44] := by rw [List.flatMap_cons, (ecK_keep k hk).2.1]; rfl
    rw [e]
    congr 1
    exact List.map_congr_left fun ls _ => by
      show (tl (ms (nameL D ls))).flatMap (ecK k) = _
      rw [tl_ms, nameK_eq hk]) (fun p hp => by
    obtain ⟨ls, hl, rfl⟩ := List.mem_map.mp hp
    exact joinL_no (by decide) fun q hq => by
      obtain ⟨n, hn, rfl⟩ := List.mem_map.mp hq
      exact (TK_ok hD hk (hN ls hl n hn)).2.2.1)
  rw [this, List.map_map]; rfl
end Mine
end
section
open PySem PySem.W PyProof.Rows PySem.Calls
open PySem.Builtin PySem.Builtin.Str
set_option Elab.async false
set_option linter.unusedVariables false
namespace Mine
/-- the pieces of a name's form, written, between its dots -/
def midsK (D : List (Int × PySem.Str)) (k : Nat) : List Int → List (List Nat)
  | [] => [[]]
  | n :: ns => TK D k n :: (ns.flatMap fun m => [[32], TK D k m])
def midsL (D : List (Int × PySem.Str)) : List Int → List (List Nat)
  | [] => [[]]
  | n :: ns => tl (textAt D n) :: (ns.flatMap fun m => [[32], tl (textAt D m)])
theorem joinL_blank (z : List Nat) : ∀ (ps : List (List Nat)) (p : List Nat), joinL (z ++ [32] ++ z) (p :: ps) = joinL z (p :: (ps.flatMap fun m => [[32], m]))
  | [], p => rfl
  | q :: r, p => by
    show p ++ (z ++ [32] ++ z) ++ joinL (z ++ [32] ++ z) (q :: r) = p ++ z ++ ([32] ++ z ++ joinL z (q :: (r.flatMap fun m => [[32], m])))
    rw [joinL_blank z r q]; simp
theorem formT_tl {D : List (Int × PySem.Str)} (hD : DOk D) {ls : List Int} (hl : KL D ls) : tl (formT (nameT D ls)) = joinL [46, 46, 46] ([] :: (midsL D ls ++ [[]])) := by
  unfold formT
  have hblank : S " " = ⟨#[32]⟩ := by decide +kernel
  have hw : tl (S "... ...") = [46, 46, 46] ++ [32] ++ [46, 46, 46] := by decide +kernel
  rw [tl_app, tl_app, tl_dots, hblank, replace_flat, hw]
  unfold nameT nameL
  rw [tl_ms]
  rw [flat_join 32 _ _ (fun p hp m => sign_no.1 ((text_sign hD hl p hp).2.1 _ m))]
  cases ls with
  | nil => rfl
  | cons n ns =>
    rw [List.map_cons, joinL_blank, List.flatMap_map]
    show _ = [] ++ [46, 46, 46] ++ joinL [46, 46, 46] ((tl (textAt D n) :: (ns.flatMap fun m => [[32], tl (textAt D m)])) ++ [[]])
    rw [joinL_snoc _ _ _ (by simp)]; simp
end Mine
end
section
open PySem PySem.W PyProof.Rows PySem.Calls
open PySem.Builtin PySem.Builtin.Str
set_option Elab.async false
set_option linter.unusedVariables false
namespace Mine
def formK (D : List (Int × PySem.Str)) (k : Nat) (ls : List Int) : List Nat := joinL [46, 46, 46] ([] :: (midsK D k ls ++ [[]]))
theorem mids_map {D : List (Int × PySem.Str)} {k : Nat} (hk : k < 5) (ls : List Int) : (midsL D ls).map (fun p => p.flatMap (ecK k)) = midsK D k ls := by
  have e : ([32] : List Nat).flatMap (ecK k) = [32] := by rw [List.flatMap_cons, (ecK_keep k hk).1]; rfl
  cases ls with
  | nil => rfl
  | cons n ns =>
    show TK D k n :: ((ns.flatMap fun m => [[32], tl (textAt D m)]).map fun p => p.flatMap (ecK k)) = TK D k n :: (ns.flatMap fun m => [[32], TK D k m])
    congr 1
    rw [List.map_flatMap]
    congr 1
    funext m
    rw [List.map_cons, List.map_cons, e]; rfl
theorem formK_eq {D : List (Int × PySem.Str)} (hD : DOk D) {k : Nat} (hk : k < 5) {ls : List Int} (hl : KL D ls) : (tl (formT (nameT D ls))).flatMap (ecK k) = formK D k ls := by
  have e : ([46, 46, 46] : List Nat).flatMap (ecK k) = [46, 46, 46] := by simp only [List.flatMap_cons, (ecK_keep k hk).2.2]; rfl
  rw [formT_tl hD hl, flat_joinL, e, List.map_cons, List.map_append, mids_map hk]
  rfl
theorem mids_no {D : List (Int × PySem.Str)} (hD : DOk D) {k : Nat} (hk : k < 5) {ls : List Int} (hl : KL D ls) : ∀ p ∈ midsK D k ls, 44 ∉ p ∧ 46 ∉ p := by
  intro p hp
  cases ls with
  | nil => rw [List.mem_singleton.mp hp]; exact ⟨List.not_mem_nil, List.not_mem_nil⟩
  | cons n ns =>
    rcases List.mem_cons.mp hp with rfl | hp
    · exact (TK_ok hD hk (hl n (.head _))).2.2
    · obtain ⟨m, hm, hp⟩ := List.mem_flatMap.mp hp
      rcases List.mem_cons.mp hp with rfl | hp
      · exact ⟨by decide, by decide⟩
      · rw [List.mem_singleton.mp hp]; exact (TK_ok hD hk (hl m (.tail _ hm))).2.2
end Mine
end
section
open PySem PySem.W PyProof.Rows PySem.Calls
open PySem.Builtin PySem.Builtin.Str
set_option Elab.async false
set_option linter.unusedVariables false
namespace Mine
theorem page_forms {D : List (Int × PySem.Str)} (hD : DOk D) {k : Nat} (hk : k < 5) {Ns : List (List Int)} (h0 : Ns ≠ []) (hN : ∀ ls ∈ Ns, KL D ls) :
    Txt.split (pageT k (PySem.Str.join (S ",") ((Ns.map (nameT D)).map formT))) (S ",") = Ns.map fun ls => ms (formK D k ls) := by
  have := split_join (pageT k (PySem.Str.join (S ",") ((Ns.map (nameT D)).map formT))) (S ",") 44 (Ns.map (formK D k)) rfl (by decide +kernel) (by simpa using h0) (by
    unfold pageT
    rw [tl_ms, tl_join, List.map_map, List.map_map, show tl (S ",") = [44] from rfl, flat_joinL, List.map_map]
    have e : ([44] : List Nat).flatMap (ecK k) = [44] := by rw [List.flatMap_cons, (ecK_keep k hk).2.1]; rfl
    rw [e]
    congr 1
    exact List.map_congr_left fun ls hl => formK_eq hD hk (hN ls hl)) (fun p hp => by
    obtain ⟨ls, hl, rfl⟩ := List.mem_map.mp hp
    exact joinL_no (by decide) fun q hq => by
      rcases List.mem_cons.mp hq with rfl | hq
      · exact List.not_mem_nil
      · rcases List.mem_append.mp hq with hq | hq
        · exact (mids_no hD hk (hN ls hl) q hq).1
        · rw [List.mem_singleton.mp hq]; exact List.not_mem_nil)
  rw [this, List.map_map]; rfl
theorem ell_gm {D : List (Int × PySem.Str)} (hD : DOk D) {k : Nat} (hk : k < 5) {a b : List Int} (ha : KL D a) (hb : KL D b) :
    ell (ms (formK D k a)) (ms (nameK D k b)) = gm (fun p q => (findS (TK D k p) (TK D k q)).isSome) a b := by
  rw [ell_open (mids := midsK D k a) (by rw [tl_ms]; rfl) fun p hp => (mids_no hD hk ha p hp).2, tl_ms]
  cases a with
  | nil =>
    show (match findS [] _ with | none => false | some l' => loopS [[]] l') = _
    rw [findS_nil]
    show loopS [[]] _ = _
    unfold loopS
    rw [findS_nil]
    cases b <;> rfl
  | cons n ns => exact loop_gm (T := TK D k) (ok := fun n : Int => n ∈ D.map (fun x : Int × PySem.Str => x.1)) (fun n (hn : n ∈ D.map (fun x : Int × PySem.Str => x.1)) => ⟨(TK_ok hD hk hn).1, (TK_ok hD hk hn).2.1⟩) b ns n hb (fun x hx => ha x (.tail _ hx)) (ha n (.head _))
end Mine
end
section
open PySem PySem.W PyProof.Rows PySem.Calls
open PySem.Builtin PySem.Builtin.Str
set_option Elab.async false
set_option linter.unusedVariables false
namespace Mine
set_option maxRecDepth 100000 in
theorem tk_picks : picks.all (fun p => (List.range 5).all fun k => ((Dof p).map (·.1)).all fun n => ((Dof p).map (·.1)).all fun m => (findS (TK (Dof p) k n) (TK (Dof p) k m)).isSome == CT (ctOf (Dof p)) n m) = true := by decide +kernel
theorem gm_congr {C C' : Int → Int → Bool} {ok : Int → Prop} (h : ∀ p q, ok p → ok q → C p q = C' p q) : ∀ (os ns : List Int), (∀ x ∈ os, ok x) → (∀ x ∈ ns, ok x) → gm C ns os = gm C' ns os
  | os, [], _, _ => by cases os <;> rfl
  | [], n :: ns, _, _ => rfl
  | o :: os, n :: ns, ho, hn => by
    unfold gm
    rw [h n o (hn n (.head _)) (ho o (.head _)), gm_congr h os ns (fun x hx => ho x (.tail _ hx)) fun x hx => hn x (.tail _ hx), gm_congr h os (n :: ns) (fun x hx => ho x (.tail _ hx)) hn]
end Mine
end
section
open PySem PySem.W PyProof.Rows PySem.Calls
open PySem.Builtin PySem.Builtin.Str
set_option Elab.async false
set_option linter.unusedVariables false
namespace Mine
theorem putA_nodup {K β : Type} [DecidableEq K] {G : List (K × β)} {k : K} {b : β} (h : (G.map (·.1)).Nodup) : ((putA G k b).map (·.1)).Nodup := by
  unfold putA
  split
  · rw [List.map_map]
    have : ((fun p : K × β => p.1) ∘ fun p : K × β => if p.1 = k then (p.1, b) else p) = fun p => p.1 := by
      funext p; show (if p.1 = k then (p.1, b) else p).1 = p.1; split <;> rfl
    rw [this]; exact h
  · rename_i hn
    rw [List.map_append, List.nodup_append]
    refine ⟨h, by simp, fun x hx y hy e => ?_⟩
    rw [List.map_singleton, List.mem_singleton] at hy
    obtain ⟨q, hq, rfl⟩ := List.mem_map.mp hx
    exact hn (List.any_eq_true.mpr ⟨q, hq, decide_eq_true (e.trans hy)⟩)
theorem getA_nd {K β : Type} [DecidableEq K] : ∀ {G : List (K × β)} {e : K × β}, (G.map (·.1)).Nodup → e ∈ G → getA G e.1 = some e.2
  | p :: r, e, h, he => by
    rw [List.map_cons, List.nodup_cons] at h
    unfold getA
    rw [List.find?_cons]
    by_cases hp : p.1 = e.1
    · rcases List.mem_cons.mp he with rfl | he
      · simp
      · exact absurd (List.mem_map.mpr ⟨e, he, rfl⟩) (hp ▸ h.1)
    · rcases List.mem_cons.mp he with rfl | he
      · exact absurd rfl hp
      · simp only [hp, decide_false]
        exact getA_nd h.2 he
theorem grown_nodup (N : LN) (W : List (Int × Int)) : ((grownL N W).map (·.1)).Nodup := by
  have row : ∀ (V : List (Int × Int)) (name : List Int) (G : LN), (G.map (·.1)).Nodup → ((V.foldl (stepL N W name) G).map (·.1)).Nodup := by
    intro V name
    induction V with
    | nil => exact fun G h => h
    | cons q V ih => exact fun G h => ih _ (putA_nodup h)
  have all : ∀ (M G : LN), (G.map (·.1)).Nodup → ((M.foldl (fun G e => W.foldl (stepL N W e.1) G) G).map (·.1)).Nodup := by
    intro M
    induction M with
    | nil => exact fun G h => h
    | cons e M ih => exact fun G h => ih _ (row W e.1 G h)
  exact all N [] List.nodup_nil
theorem nums_nodup (D : List (Int × PySem.Str)) : ∀ (xs : List (Int × List Int)) (last : Option Int) (N : LN), (N.map (·.1)).Nodup → ((xs.foldl (nsL D) (last, N)).2.map (·.1)).Nodup
  | [], _, _, h => h
  | x :: xs, last, N, h => nums_nodup D xs _ _ (grown_nodup _ _)
end Mine
end
section
open PySem PySem.W PyProof.Rows PySem.Calls
open PySem.Builtin PySem.Builtin.Str
set_option Elab.async false
set_option linter.unusedVariables false
namespace Mine
def lenSum (T : Int → List Nat) : List Int → Nat
  | [] => 0
  | n :: r => (T n).length + 1 + lenSum T r
theorem joinL_len (T : Int → List Nat) : ∀ ls : List Int, (joinL [32] (ls.map T)).length = lenSum T ls - 1
  | [] => rfl
  | [n] => by show (T n).length = _; unfold lenSum lenSum; omega
  | n :: m :: r => by
    have := joinL_len T (m :: r)
    show (T n ++ [32] ++ joinL [32] ((m :: r).map T)).length = _
    rw [List.length_append, List.length_append, this]
    have h1 : lenSum T (n :: m :: r) = (T n).length + 1 + lenSum T (m :: r) := rfl
    have h2 : lenSum T (m :: r) = (T m).length + 1 + lenSum T r := rfl
    have h3 : ([32] : List Nat).length = 1 := rfl
    omega
theorem gm_len {C : Int → Int → Bool} {T : Int → List Nat} {ok : Int → Prop} (h : ∀ p q, ok p → ok q → C p q = true → (T p).length ≤ (T q).length) : ∀ (os ns : List Int), (∀ x ∈ os, ok x) → (∀ x ∈ ns, ok x) → gm C ns os = true → lenSum T ns ≤ lenSum T os
  | os, [], _, _, _ => Nat.zero_le _
  | [], n :: ns, _, _, hg => by cases hg
  | o :: os, n :: ns, ho, hn, hg => by
    unfold gm at hg
    by_cases hc : C n o = true
    · rw [if_pos hc] at hg
      have h1 := h n o (hn n (.head _)) (ho o (.head _)) hc
      have h2 := gm_len h os ns (fun x hx => ho x (.tail _ hx)) (fun x hx => hn x (.tail _ hx)) hg
      unfold lenSum; omega
    · rw [if_neg hc] at hg
      have h2 := gm_len h os (n :: ns) (fun x hx => ho x (.tail _ hx)) hn hg
      have : lenSum T (o :: os) = (T o).length + 1 + lenSum T os := rfl
      omega
end Mine
end
section
open PySem PySem.W PyProof.Rows PySem.Calls
open PySem.Builtin PySem.Builtin.Str
set_option Elab.async false
set_option linter.unusedVariables false
namespace Mine
structure COk (D : List (Int × PySem.Str)) (k : Nat) (C : Int → Int → Bool) : Prop where
  eq : ∀ n m, n ∈ D.map (fun x : Int × PySem.Str => x.1) → m ∈ D.map (fun x : Int × PySem.Str => x.1) → (findS (TK D k n) (TK D k m)).isSome = C n m
  len : ∀ n m, n ∈ D.map (fun x : Int × PySem.Str => x.1) → m ∈ D.map (fun x : Int × PySem.Str => x.1) → C n m = true → (tl (textAt D n)).length ≤ (tl (textAt D m)).length
theorem total_eq {D : List (Int × PySem.Str)} {k : Nat} {C : Int → Int → Bool} (hD : DOk D) (hk : k < 5) (hC : COk D k C) {N : LN} (hN : KG D N) (hnd : (N.map (·.1)).Nodup) {ls : List Int} (hl : KL D ls) :
    totalOf (ren D N) ((N.map (·.1)).map fun ls => ms (nameK D k ls)) (nameT D ls) (ms (formK D k ls)) = totalL C N ls := by
  unfold totalOf totalL
  have hz : ((ren D N).map (·.1)).zip ((N.map (·.1)).map fun ls => ms (nameK D k ls)) = N.map fun e => (nameT D e.1, ms (nameK D k e.1)) := by
    unfold ren
    rw [List.map_map, List.map_map, List.zip_map']
    rfl
  rw [hz, List.map_map]
  congr 1
  apply List.map_congr_left
  intro e he
  have hke := hN e he
  have hg : getA (ren D N) (nameT D e.1) = some e.2 := by rw [getA_ren hD hN hke]; exact getA_nd hnd he
  have hgm : ell (ms (formK D k ls)) (ms (nameK D k e.1)) = gm C ls e.1 := by
    rw [ell_gm hD hk hl hke]
    exact gm_congr (ok := fun n : Int => n ∈ D.map (fun x : Int × PySem.Str => x.1)) hC.eq e.1 ls hke hl
  show (if ((getA (ren D N) (nameT D e.1)).getD 0 != 0 && decide (((nameT D ls).length : Int) ≤ (nameT D e.1).length)) = true then (if ell (ms (formK D k ls)) (ms (nameK D k e.1)) = true then (getA (ren D N) (nameT D e.1)).getD 0 else 0) else 0) = _
  rw [hg, hgm, Option.getD_some]
  by_cases hm : gm C ls e.1 = true
  · have h1 := gm_len (T := fun n => tl (textAt D n)) (ok := fun n : Int => n ∈ D.map (fun x : Int × PySem.Str => x.1)) hC.len e.1 ls hke hl hm
    have h2 : (nameT D ls).length ≤ (nameT D e.1).length := by
      unfold nameT nameL
      rw [len_ms, len_ms, joinL_len (fun n => tl (textAt D n)), joinL_len (fun n => tl (textAt D n))]; omega
    rw [decide_eq_true (by omega), Bool.and_true]
  · have : gm C ls e.1 = false := by simpa using hm
    rw [this]
    simp
end Mine
end
section
open PySem PySem.W PyProof.Rows PySem.Calls
open PySem.Builtin PySem.Builtin.Str
set_option Elab.async false
set_option linter.unusedVariables false
namespace Mine
set_option maxRecDepth 100000 in
theorem ct_len : picks.all (fun p => ((Dof p).map (·.1)).all fun n => ((Dof p).map (·.1)).all fun m => !CT (ctOf (Dof p)) n m || decide ((tl (textAt (Dof p) n)).length ≤ (tl (textAt (Dof p) m)).length)) = true := by decide +kernel
theorem cok {p : Nat × Nat} (hp : p ∈ picks) {k : Nat} (hk : k < 5) : COk (Dof p) k (CT (ctOf (Dof p))) := by
  refine ⟨fun n m hn hm => ?_, fun n m hn hm hc => ?_⟩
  · have h1 := List.all_eq_true.mp tk_picks p hp
    have h2 := List.all_eq_true.mp h1 k (List.mem_range.mpr hk)
    exact beq_iff_eq.mp (List.all_eq_true.mp (List.all_eq_true.mp h2 n hn) m hm)
  · have h1 := List.all_eq_true.mp ct_len p hp
    have h2 := List.all_eq_true.mp (List.all_eq_true.mp h1 n hn) m hm
    rw [hc] at h2
    simpa using h2
theorem dok {p : Nat × Nat} (hp : p ∈ picks) : DOk (Dof p) := dok_of (List.all_eq_true.mp dok_picks p hp)
end Mine
end
section
open PySem PySem.W PyProof.Rows PySem.Calls
open PySem.Builtin PySem.Builtin.Str
set_option Elab.async false
set_option linter.unusedVariables false
namespace Mine
theorem starts_iff (x y : PySem.Str) : Txt.startswith x y = true ↔ tl y <+: tl x := by
  have : Txt.startswith x y = true ↔ StrLaws.At x y x.length 0 := by
    unfold Txt.startswith StrLaws.At
    rw [Bool.and_eq_true, decide_eq_true_eq]
  rw [this, at_pre (Nat.zero_le _), List.drop_zero]
theorem ends_iff (x y : PySem.Str) : Txt.endswith x y = true ↔ tl y <:+ tl x := by
  unfold Txt.endswith
  rw [Bool.and_eq_true, decide_eq_true_eq, Nat.zero_add]
  constructor
  · rintro ⟨h1, h2⟩
    have hat : StrLaws.At x y x.length (x.length - y.length) := ⟨by omega, h2⟩
    have hp := (at_pre (by omega)).mp hat
    have hl : (tl y).length = ((tl x).drop (x.length - y.length)).length := by
      rw [List.length_drop, ← len_tl, ← len_tl]; omega
    rw [hp.eq_of_length hl]
    exact List.drop_suffix _ _
  · intro h
    have hl := h.length_le
    rw [← len_tl, ← len_tl] at hl
    refine ⟨hl, ?_⟩
    have : tl y <+: (tl x).drop (x.length - y.length) := by
      have := List.suffix_iff_eq_drop.mp h
      rw [← len_tl, ← len_tl] at this
      rw [← this]; exact List.prefix_refl _
    exact ((at_pre (by omega)).mpr this).2
/-- no place in the window -/
theorem find4_none {x y : PySem.Str} {st en : Nat} (hen : en ≤ x.length) (h : en < st + y.length) (hst : st ≤ en) : findIn4 x y st en < 0 := by
  unfold findIn4
  rw [from_nat, from_nat, Nat.min_eq_left hen, StrLaws.occ_eq]
  rcases StrLaws.occ_first x y en 1 (Nat.le_refl 1) (List.range' st (en + 1 - st)) st (fun i hi => by have := List.mem_range'_1.mp hi; omega) with ⟨h0, hn⟩ | ⟨pre, a, post, e, h0, ha, hn⟩
  · rw [h0]; show (-1 : Int) < 0; decide
  · exfalso
    have h1 := ha.1
    have h2 : a ∈ List.range' st (en + 1 - st) := by rw [e]; simp
    have := List.mem_range'_1.mp h2
    omega
/-- a place at the window's start -/
theorem find4_start {x y : PySem.Str} {st en : Nat} (hen : en ≤ x.length) (h : StrLaws.At x y en st) : findIn4 x y st en = st := by
  have hle : st ≤ en := by have := h.1; omega
  unfold findIn4
  rw [from_nat, from_nat, Nat.min_eq_left hen, StrLaws.occ_eq]
  rcases StrLaws.occ_first x y en 1 (Nat.le_refl 1) (List.range' st (en + 1 - st)) st (fun i hi => by have := List.mem_range'_1.mp hi; omega) with ⟨h0, hn⟩ | ⟨pre, a, post, e, h0, ha, hn⟩
  · exact absurd h (hn st (List.mem_range'_1.mpr (by omega)))
  · have hs := StrLaws.range'_split_from e
    have hast : a = st := by
      have : ¬ st < a := fun hlt => hn st (hs.2 st (Nat.le_refl _) hlt) h
      omega
    generalize (forIn (List.range' st (en + 1 - st)) ((#[] : Array Nat), st) (StrLaws.occBody x y en 1)).run.fst = arr at h0
    have h1 : arr.toList[0]? = some a := by simpa using h0
    cases hL : arr.toList with
    | nil => rw [hL] at h1; cases h1
    | cons b t => rw [hL] at h1; simp at h1; rw [h1, hast]
end Mine
end
section
open PySem PySem.W PyProof.Rows PySem.Calls
open PySem.Builtin PySem.Builtin.Str
set_option Elab.async false
set_option linter.unusedVariables false
namespace Mine
theorem no_dots {own : PySem.Str} (h : 46 ∉ tl own) : Txt.contains own (S "...") = false := by
  rw [Bool.eq_false_iff]; intro hc
  obtain ⟨i, hi⟩ := (contains_iff _ _).mp hc
  rw [at_iff, tl_dots] at hi
  have : 46 ∈ ((tl own).drop i).take [46, 46, 46].length := by rw [hi.2]; exact .head _
  exact h (List.mem_of_mem_drop (List.mem_of_mem_take this))
theorem ell_same {own got : PySem.Str} (h : 46 ∉ tl own) : ell own got = (own == got) := by
  unfold ell; rw [if_pos (no_dots h)]
theorem ell_end {own got : PySem.Str} (h0 : tl own ≠ []) (r : List PySem.Str) : ellEnd got (r ++ [own]) own.length =
    (Txt.endswith got own && (decide ((own.length : Int) ≤ (got.length : Int) - own.length) && ellLoop got ((got.length : Int) - own.length) r own.length)) := by
  have hl : own.length ≠ 0 := by rw [len_tl]; exact fun e => h0 (List.length_eq_zero_iff.mp e)
  have hb : (own.length != 0) = true := by simpa using hl
  unfold ellEnd
  rw [show (r ++ [own]).getLastD PySem.Str.empty = own by rw [List.getLastD_eq_getLast?, List.getLast?_append]; rfl, hb, List.dropLast_concat]
  simp only [Bool.true_and, if_true]
  cases Txt.endswith got own with
  | false => rfl
  | true =>
    simp only [Bool.not_true, Bool.false_eq_true, if_false, Bool.true_and]
    by_cases hq : (own.length : Int) > (got.length : Int) - own.length
    · rw [if_pos hq, decide_eq_false (by omega)]; rfl
    · rw [if_neg hq, decide_eq_true (by omega)]; rfl
theorem ell_parts {own want got : PySem.Str} {r : List PySem.Str} (h0 : tl own ≠ []) (hc : Txt.contains want (S "...") = true) (hs : Txt.split want (S "...") = own :: (r ++ [own])) :
    ell want got = (Txt.startswith got own && (Txt.endswith got own && (decide ((own.length : Int) ≤ (got.length : Int) - own.length) && ellLoop got ((got.length : Int) - own.length) r own.length))) := by
  have hl : own.length ≠ 0 := by rw [len_tl]; exact fun e => h0 (List.length_eq_zero_iff.mp e)
  have hb : (own.length != 0) = true := by simpa using hl
  unfold ell
  rw [hc, hs]
  rw [show (own :: (r ++ [own])).headD PySem.Str.empty = own from rfl, show (own :: (r ++ [own])).tail = r ++ [own] from rfl, hb]
  simp only [Bool.true_eq_false, if_false, Bool.true_and, if_true]
  rw [ell_end h0]
  cases Txt.startswith got own <;> rfl
theorem ell_two {own got : PySem.Str} (h0 : tl own ≠ []) (h : 46 ∉ tl own) : ell (own ++ dots ++ own) got =
    (Txt.startswith got own && (Txt.endswith got own && decide ((own.length : Int) ≤ (got.length : Int) - own.length))) := by
  have ht : tl (own ++ dots ++ own) = joinL [46, 46, 46] [tl own, tl own] := by
    rw [tl_app, tl_app, show tl dots = [46, 46, 46] from tl_dots]; rfl
  have hs := split_dots (by simp) ht (fun p hp => by
    rcases List.mem_cons.mp hp with rfl | hp
    · exact h
    · rw [List.mem_singleton.mp hp]; exact h)
  rw [ell_parts (r := []) h0 (contains_join ht) (by rw [hs]; simp only [List.map_cons, List.map_nil, ms_tl]; rfl)]
  show (_ && (_ && (_ && true))) = _
  rw [Bool.and_true]
theorem ell_three {own got : PySem.Str} (h0 : tl own ≠ []) (h : 46 ∉ tl own) : ell (own ++ dots ++ own ++ dots ++ own) got =
    (Txt.startswith got own && (Txt.endswith got own && (decide ((own.length : Int) ≤ (got.length : Int) - own.length) && ellLoop got ((got.length : Int) - own.length) [own] own.length))) := by
  have ht : tl (own ++ dots ++ own ++ dots ++ own) = joinL [46, 46, 46] [tl own, tl own, tl own] := by
    rw [tl_app, tl_app, tl_app, tl_app, show tl dots = [46, 46, 46] from tl_dots]
    simp only [joinL, List.append_assoc]
  have hs := split_dots (by simp) ht (fun p hp => by
    rcases List.mem_cons.mp hp with rfl | hp
    · exact h
    · rcases List.mem_cons.mp hp with rfl | hp
      · exact h
      · rw [List.mem_singleton.mp hp]; exact h)
  exact ell_parts (r := [own]) h0 (contains_join ht) (by rw [hs]; simp only [List.map_cons, List.map_nil, ms_tl]; rfl)
end Mine
end
section
open PySem PySem.W PyProof.Rows PySem.Calls
open PySem.Builtin PySem.Builtin.Str
set_option Elab.async false
set_option linter.unusedVariables false
namespace Mine
theorem last_app (a : List Nat) {q : List Nat} (hq : q ≠ []) : (a ++ q).getLast? = q.getLast? := by
  rw [List.getLast?_append, List.getLast?_eq_some_getLast hq]; rfl
theorem find_pre {o r : List Nat} : findS o (o ++ r) = some r := by
  cases h : o ++ r with
  | nil =>
    obtain ⟨rfl, rfl⟩ := List.append_eq_nil_iff.mp h; rfl
  | cons c l =>
    show (if o.isPrefixOf (c :: l) = true then some ((c :: l).drop o.length) else findS o l) = _
    rw [← h, if_pos (List.isPrefixOf_iff_prefix.mpr (List.prefix_append _ _)), List.drop_left]
theorem find_skip {o l : List Nat} {b : Nat} (h : o.head? ≠ some b) (h0 : o ≠ []) : findS o (b :: l) = findS o l := by
  cases o with
  | nil => exact absurd rfl h0
  | cons x o =>
    have hb : (x == b) = false := by simpa using fun e => h (by rw [e]; rfl)
    show (if (x == b && o.isPrefixOf l) = true then _ else findS (x :: o) l) = _
    rw [hb]; rfl
theorem find_short {o : List Nat} (h0 : o ≠ []) : findS o [] = none := by
  cases o with
  | nil => exact absurd rfl h0
  | cons x o => rfl
theorem held_one {own got : PySem.Str} (h0 : tl own ≠ []) (h : 46 ∉ tl own)
    (e2 : (Txt.startswith got own && (Txt.endswith got own && decide ((own.length : Int) ≤ (got.length : Int) - own.length))) = (Txt.mul own 2 == got || (Txt.mul own 3 == got || false)))
    (e3 : loopS [tl own, tl own, []] (tl got) = (got != own))
    (e4 : (Txt.startswith got own && (Txt.endswith got own && (decide ((own.length : Int) ≤ (got.length : Int) - own.length) && ellLoop got ((got.length : Int) - own.length) [own] own.length))) = (got == Txt.mul own 3)) : heldAt own got = true := by
  have w3 : tl (dots ++ own ++ dots ++ own ++ dots) = joinL [46, 46, 46] ([] :: ([tl own, tl own] ++ [[]])) := by
    rw [tl_app, tl_app, tl_app, tl_app, show tl dots = [46, 46, 46] from tl_dots]
    simp [joinL]
  have a1 : ell own got = (got == own) := by rw [ell_same h]; exact BEq.comm
  have a2 := ell_two (got := got) h0 h
  rw [e2] at a2
  have a3 := ell_open (got := got) w3 (fun p hp => by
    rcases List.mem_cons.mp hp with rfl | hp
    · exact h
    · rw [List.mem_singleton.mp hp]; exact h)
  rw [show [tl own, tl own] ++ [[]] = [tl own, tl own, []] from rfl, e3] at a3
  have a4 := ell_three (got := got) h0 h
  rw [e4] at a4
  show ([ell own got, ell (own ++ dots ++ own) got, ell (dots ++ own ++ dots ++ own ++ dots) got, ell (own ++ dots ++ own ++ dots ++ own) got] == [got == own, (Txt.mul own 2 == got || (Txt.mul own 3 == got || false)), got != own, got == Txt.mul own 3]) = true
  rw [a1, a2, a3, a4]
  exact beq_self_eq_true _
theorem loop_two {o : List Nat} (r : List Nat) : loopS [o, o, []] (o ++ (o ++ r)) = true := by
  show (match findS o (o ++ (o ++ r)) with | none => false | some l' => loopS [o, []] l') = true
  rw [find_pre]
  show (match findS o (o ++ r) with | none => false | some l' => loopS [[]] l') = true
  rw [find_pre]
  show (match findS [] r with | none => false | some l' => loopS [] l') = true
  rw [findS_nil]; rfl
theorem held_gen {own : PySem.Str} (h0 : tl own ≠ []) (h : 46 ∉ tl own) (hh : (tl own).head? ≠ some 32) (hz : (tl own).getLast? ≠ some 32) : (gotsOf own).all (heldAt own) = true := by
  have hp : 0 < (tl own).length := List.length_pos_iff.mpr h0
  have t2 := mul2_tl own
  have t3 := mul3_tl own
  have hs1 : tl (S " ") = [32] := by decide +kernel
  have ne : ∀ a b : PySem.Str, tl a ≠ tl b → (a == b) = false := fun a b q => beq_eq_false_iff_ne.mpr fun e => q (by rw [e])
  have nl : ∀ a b : PySem.Str, (tl a).length ≠ (tl b).length → (a == b) = false := fun a b q => ne a b fun e => q (by rw [e])
  have l2 : (tl (Txt.mul own 2)).length = 2 * (tl own).length := by rw [t2, List.length_append]; omega
  have l3 : (tl (Txt.mul own 3)).length = 3 * (tl own).length := by rw [t3, List.length_append, List.length_append]; omega
  have t4 : tl (S " " ++ Txt.mul own 2) = 32 :: (tl own ++ (tl own ++ [])) := by rw [tl_app, hs1, t2, List.append_nil]; rfl
  have t5 : tl (Txt.mul own 2 ++ S " ") = tl own ++ (tl own ++ [32]) := by rw [tl_app, hs1, t2, List.append_assoc]
  have l4 : (tl (S " " ++ Txt.mul own 2)).length = 2 * (tl own).length + 1 := by rw [t4]; simp; omega
  have l5 : (tl (Txt.mul own 2 ++ S " ")).length = 2 * (tl own).length + 1 := by rw [t5]; simp; omega
  have s4 : Txt.startswith (S " " ++ Txt.mul own 2) own = false := by
    rw [Bool.eq_false_iff]; intro q
    have q := (starts_iff _ _).mp q
    rw [t4] at q
    cases e : tl own with
    | nil => exact h0 e
    | cons c l =>
      rw [e] at q
      obtain ⟨t, ht⟩ := q
      injection ht with h1 _
      exact hh (by rw [e, h1]; rfl)
  have s5 : Txt.endswith (Txt.mul own 2 ++ S " ") own = false := by
    rw [Bool.eq_false_iff]; intro q
    obtain ⟨t, ht⟩ := (ends_iff _ _).mp q
    have e1 : (t ++ tl own).getLast? = (tl own).getLast? := last_app _ h0
    rw [ht, t5, ← List.append_assoc, List.getLast?_concat] at e1
    exact hz e1.symm
  have n42 : (Txt.mul own 2 == S " " ++ Txt.mul own 2) = false := nl _ _ (by omega)
  have n43 : (Txt.mul own 3 == S " " ++ Txt.mul own 2) = false := ne _ _ fun e => by
    rw [t3, t4] at e
    cases e' : tl own with
    | nil => exact h0 e'
    | cons c l =>
      rw [e'] at e
      injection e with h1 _
      exact hh (by rw [e', h1]; rfl)
  have n52 : (Txt.mul own 2 == Txt.mul own 2 ++ S " ") = false := nl _ _ (by omega)
  have n53 : (Txt.mul own 3 == Txt.mul own 2 ++ S " ") = false := ne _ _ fun e => by
    rw [t3, t5, ← List.append_assoc] at e
    have e1 := congrArg List.getLast? e
    rw [List.getLast?_concat, last_app _ h0] at e1
    exact hz e1
  have neq : ∀ a b : PySem.Str, (tl a).length ≠ (tl b).length → (a != b) = true := fun a b q => by rw [bne, nl a b q]; rfl
  rw [List.all_eq_true]
  intro got hg
  unfold gotsOf at hg
  simp only [List.mem_cons, List.not_mem_nil, or_false] at hg
  rcases hg with hg | hg | hg | hg | hg <;> rw [hg]
  · have hd : decide ((own.length : Int) ≤ (own.length : Int) - own.length) = false := decide_eq_false (by rw [len_tl own]; omega)
    refine held_one h0 h ?_ ?_ ?_
    · rw [hd, nl (Txt.mul own 2) own (by omega), nl (Txt.mul own 3) own (by omega)]; simp
    · rw [bne, beq_self_eq_true]
      show (match findS (tl own) (tl own) with | none => false | some l' => loopS [tl own, []] l') = false
      have := find_pre (o := tl own) (r := [])
      rw [List.append_nil] at this
      rw [this]
      show (match findS (tl own) [] with | none => false | some l' => loopS [[]] l') = false
      rw [find_short h0]
    · rw [hd, nl own (Txt.mul own 3) (by omega)]; simp
  · have hs : Txt.startswith (Txt.mul own 2) own = true := (starts_iff _ _).mpr (by rw [t2]; exact List.prefix_append _ _)
    have he : Txt.endswith (Txt.mul own 2) own = true := (ends_iff _ _).mpr (by rw [t2]; exact List.suffix_append _ _)
    have hd : decide ((own.length : Int) ≤ ((Txt.mul own 2).length : Int) - own.length) = true := decide_eq_true (by rw [len_tl own, len_tl (Txt.mul own 2)]; omega)
    refine held_one h0 h ?_ ?_ ?_
    · rw [hs, he, hd, beq_self_eq_true]; rfl
    · rw [neq _ _ (by omega), t2]
      have := loop_two (o := tl own) []
      rw [List.append_nil] at this; exact this
    · rw [hs, he, hd, nl (Txt.mul own 2) (Txt.mul own 3) (by omega)]
      have hI : ((Txt.mul own 2).length : Int) - own.length = (own.length : Nat) := by rw [len_tl own, len_tl (Txt.mul own 2)]; omega
      rw [hI]
      have := find4_none (x := Txt.mul own 2) (y := own) (st := own.length) (en := own.length) (by rw [len_tl own, len_tl (Txt.mul own 2)]; omega) (by rw [len_tl own]; omega) (Nat.le_refl _)
      show (true && (true && (true && (if findIn4 (Txt.mul own 2) own own.length own.length < 0 then false else true)))) = false
      rw [if_pos this]; rfl
  · have hs : Txt.startswith (Txt.mul own 3) own = true := (starts_iff _ _).mpr (by rw [t3, List.append_assoc]; exact List.prefix_append _ _)
    have he : Txt.endswith (Txt.mul own 3) own = true := (ends_iff _ _).mpr (by rw [t3]; exact List.suffix_append _ _)
    have hd : decide ((own.length : Int) ≤ ((Txt.mul own 3).length : Int) - own.length) = true := decide_eq_true (by rw [len_tl own, len_tl (Txt.mul own 3)]; omega)
    refine held_one h0 h ?_ ?_ ?_
    · rw [hs, he, hd, beq_self_eq_true]; simp
    · rw [neq _ _ (by omega), t3, List.append_assoc]
      exact loop_two _
    · rw [hs, he, hd, beq_self_eq_true]
      have hI : ((Txt.mul own 3).length : Int) - own.length = ((2 * own.length : Nat) : Int) := by rw [len_tl own, len_tl (Txt.mul own 3)]; omega
      rw [hI]
      have := find4_start (x := Txt.mul own 3) (y := own) (st := own.length) (en := 2 * own.length) (by rw [len_tl own, len_tl (Txt.mul own 3)]; omega) ((at_iff _ _ _ _).mpr ⟨by rw [len_tl own]; omega, by rw [t3, List.append_assoc, len_tl own, List.drop_left, List.take_left]⟩)
      show (true && (true && (true && (if findIn4 (Txt.mul own 3) own own.length ((2 * own.length : Nat) : Int) < 0 then false else true)))) = true
      rw [if_neg (by rw [this]; omega)]; rfl
  · refine held_one h0 h ?_ ?_ ?_
    · rw [s4, n42, n43]; rfl
    · rw [neq _ _ (by omega), t4]
      show (match findS (tl own) (32 :: (tl own ++ (tl own ++ []))) with | none => false | some l' => loopS [tl own, []] l') = true
      rw [find_skip hh h0]
      exact loop_two _
    · rw [s4, BEq.comm, n43]; rfl
  · refine held_one h0 h ?_ ?_ ?_
    · rw [s5, n52, n53]; simp
    · rw [neq _ _ (by omega), t5]; exact loop_two _
    · rw [s5, BEq.comm, n53]; simp
end Mine
end
section
open PySem PySem.W PyProof.Rows PySem.Calls
open PySem.Builtin PySem.Builtin.Str
set_option Elab.async false
set_option linter.unusedVariables false
namespace Mine
theorem joinL_has {sep : List Nat} {c : Nat} : ∀ {ps : List (List Nat)}, c ∈ joinL sep ps → c ∈ sep ∨ ∃ p ∈ ps, c ∈ p
  | [], h => absurd h List.not_mem_nil
  | [p], h => .inr ⟨p, .head _, h⟩
  | p :: q :: r, h => by
    rcases List.mem_append.mp (show c ∈ (p ++ sep) ++ joinL sep (q :: r) from h) with h | h
    · rcases List.mem_append.mp h with h | h
      · exact .inr ⟨p, .head _, h⟩
      · exact .inl h
    · rcases joinL_has h with h | ⟨x, hx, h⟩
      · exact .inl h
      · exact .inr ⟨x, .tail _ hx, h⟩
theorem joinL_le {sep : List Nat} {m : Nat} : ∀ {ps : List (List Nat)}, (∀ p ∈ ps, p.length ≤ m) → (joinL sep ps).length ≤ ps.length * (m + sep.length)
  | [], _ => Nat.zero_le _
  | [p], h => by have := h p (.head _); show p.length ≤ 1 * _; omega
  | p :: q :: r, h => by
    have h1 := h p (.head _)
    have h2 := joinL_le (sep := sep) (ps := q :: r) fun x hx => h x (.tail _ hx)
    show (p ++ sep ++ joinL sep (q :: r)).length ≤ ((q :: r).length + 1) * _
    rw [List.length_append, List.length_append, Nat.succ_mul]
    omega
theorem joinL_last (sep : List Nat) {q : List Nat} (hq : q ≠ []) : ∀ ps : List (List Nat), (joinL sep (ps ++ [q])).getLast? = q.getLast?
  | [] => rfl
  | p :: ps => by rw [joinL_snoc _ _ _ (by simp), last_app _ hq]
section
variable {D : List (Int × PySem.Str)}
theorem nameL_le (hD : DOk D) {ls : List Int} (hl : KL D ls) (h4 : ls.length ≤ 4) : (nameL D ls).length ≤ 16 := by
  have := joinL_le (sep := [32]) (m := 3) (ps := ls.map fun n => tl (textAt D n)) fun p hp => (text_sign hD hl p hp).2.2
  rw [List.length_map] at this
  unfold nameL
  have h1 : ([32] : List Nat).length = 1 := rfl
  rw [h1] at this
  omega
theorem sign_alpha : ∀ c ∈ signs, c ∈ alpha := by decide
theorem nameL_alpha (hD : DOk D) {ls : List Int} (hl : KL D ls) : ∀ c ∈ nameL D ls, c ∈ alpha := by
  intro c hc
  rcases joinL_has hc with h | ⟨p, hp, h⟩
  · rw [List.mem_singleton.mp h]; decide
  · exact sign_alpha c ((text_sign hD hl p hp).2.1 c h)
theorem midsL_ok (hD : DOk D) {ls : List Int} (hl : KL D ls) : (∀ p ∈ midsL D ls, p.length ≤ 3 ∧ ∀ c ∈ p, c ∈ alpha) ∧ (midsL D ls).length ≤ 2 * ls.length + 1 := by
  have ht : ∀ n ∈ ls, (tl (textAt D n)).length ≤ 3 ∧ ∀ c ∈ tl (textAt D n), c ∈ alpha := fun n hn =>
    ⟨(hD.short n (hl n hn)).2, fun c hc => sign_alpha c (hD.sign n (hl n hn) c hc)⟩
  cases ls with
  | nil => exact ⟨fun p hp => by rw [List.mem_singleton.mp hp]; exact ⟨Nat.zero_le _, fun _ h => absurd h List.not_mem_nil⟩, Nat.le_refl _⟩
  | cons n ns =>
    constructor
    · intro p hp
      rcases List.mem_cons.mp hp with rfl | hp
      · exact ht n (.head _)
      · obtain ⟨m, hm, hp⟩ := List.mem_flatMap.mp hp
        rcases List.mem_cons.mp hp with rfl | hp
        · exact ⟨by decide, by decide⟩
        · rw [List.mem_singleton.mp hp]; exact ht m (.tail _ hm)
    · have : ∀ ns : List Int, (ns.flatMap fun m => [[32], tl (textAt D m)]).length = 2 * ns.length := by
        intro ns
        induction ns with
        | nil => rfl
        | cons a ns ih => rw [List.flatMap_cons, List.length_append, ih]; simp; omega
      show (ns.flatMap fun m => [[32], tl (textAt D m)]).length + 1 ≤ 2 * (ns.length + 1) + 1
      rw [this]; omega
theorem formT_ok (hD : DOk D) {ls : List Int} (hl : KL D ls) (h4 : ls.length ≤ 4) : (tl (formT (nameT D ls))).length ≤ 66 ∧ ∀ c ∈ tl (formT (nameT D ls)), c ∈ alpha := by
  obtain ⟨h1, h2⟩ := midsL_ok hD hl
  rw [formT_tl hD hl]
  have hp : ∀ p ∈ ([] :: (midsL D ls ++ [[]]) : List (List Nat)), p.length ≤ 3 ∧ ∀ c ∈ p, c ∈ alpha := by
    intro p hp
    rcases List.mem_cons.mp hp with rfl | hp
    · exact ⟨Nat.zero_le _, fun _ h => absurd h List.not_mem_nil⟩
    · rcases List.mem_append.mp hp with hp | hp
      · exact h1 p hp
      · rw [List.mem_singleton.mp hp]; exact ⟨Nat.zero_le _, fun _ h => absurd h List.not_mem_nil⟩
  constructor
  · have := joinL_le (sep := [46, 46, 46]) (m := 3) fun p h => (hp p h).1
    have hl2 : ([] :: (midsL D ls ++ [[]]) : List (List Nat)).length = (midsL D ls).length + 2 := by simp
    rw [hl2] at this
    have h3 : ([46, 46, 46] : List Nat).length = 3 := rfl
    rw [h3] at this
    omega
  · intro c hc
    rcases joinL_has hc with h | ⟨p, hp', h⟩
    · have : ∀ c ∈ ([46, 46, 46] : List Nat), c ∈ alpha := by decide
      exact this c h
    · exact (hp p hp').2 c h
theorem ecK_short : ∀ k, k < 5 → ∀ c ∈ signs, (ecK k c).length ≤ 20 := by decide +kernel
theorem nameK_ok (hD : DOk D) {k : Nat} (hk : k < 5) {ls : List Int} (hl : KL D ls) (h0 : ls ≠ []) (h4 : ls.length ≤ 4) :
    nameK D k ls ≠ [] ∧ 46 ∉ nameK D k ls ∧ (nameK D k ls).head? ≠ some 32 ∧ (nameK D k ls).getLast? ≠ some 32 ∧ (nameK D k ls).length ≤ 10000 := by
  have hT : ∀ n ∈ ls, TK D k n ≠ [] ∧ 32 ∉ TK D k n ∧ 44 ∉ TK D k n ∧ 46 ∉ TK D k n := fun n hn => TK_ok hD hk (hl n hn)
  have hhead : ∃ c, (nameK D k ls).head? = some c ∧ c ≠ 32 := by
    cases ls with
    | nil => exact absurd rfl h0
    | cons n r =>
      have hn := hT n (.head _)
      cases ht : TK D k n with
      | nil => exact absurd ht hn.1
      | cons c l =>
        refine ⟨c, ?_, fun e => hn.2.1 (by rw [ht, ← e]; exact .head _)⟩
        unfold nameK
        rw [List.map_cons]
        exact joinL_head _ ht
  obtain ⟨c, hc, hc32⟩ := hhead
  refine ⟨fun e => (by rw [e] at hc; cases hc), ?_, fun e => ?_, fun e => ?_, ?_⟩
  · exact joinL_no (by decide) fun q hq => by
      obtain ⟨n, hn, rfl⟩ := List.mem_map.mp hq
      exact (hT n hn).2.2.2
  · rw [hc] at e; cases e; exact hc32 rfl
  · obtain ⟨r, n, rfl⟩ : ∃ r n, ls = r ++ [n] := ⟨_, _, (List.dropLast_concat_getLast h0).symm⟩
    have hn := hT n (by simp)
    unfold nameK at e
    rw [List.map_append, List.map_singleton, joinL_last _ hn.1] at e
    exact hn.2.1 (List.mem_of_getLast? e)
  · have hlen : ∀ l : List Nat, (∀ c ∈ l, c ∈ signs) → (l.flatMap (ecK k)).length ≤ 20 * l.length := by
      intro l
      induction l with
      | nil => exact fun _ => Nat.le_refl _
      | cons a l ih =>
        intro h
        have h1 := ecK_short k hk a (h a (.head _))
        have h2 := ih fun c hc => h c (.tail _ hc)
        rw [List.flatMap_cons, List.length_append, List.length_cons]; omega
    have := joinL_le (sep := [32]) (m := 60) (ps := ls.map (TK D k)) fun p hp => by
      obtain ⟨n, hn, rfl⟩ := List.mem_map.mp hp
      have h1 := hlen _ (hD.sign n (hl n hn))
      have h2 := (hD.short n (hl n hn)).2
      unfold TK; omega
    rw [List.length_map, show ([32] : List Nat).length = 1 from rfl] at this
    unfold nameK; omega
end
end Mine
end
section
open PySem PySem.W PyProof.Rows PySem.Calls
open PySem.Builtin PySem.Builtin.Str
set_option Elab.async false
set_option linter.unusedVariables false
namespace Mine
theorem good_out {C : Int → Int → Bool} {word : List Int} {N : LN} (h : good C word N = true) :
    N.length ≤ 100 ∧ (∀ e ∈ N, e.1.length ≤ 4) ∧ (N.map (·.1))[0]? = some word ∧ ∀ e ∈ N, totalL C N e.1 = if e.1 == word then 1 else 0 := by
  unfold good at h
  simp only [Bool.and_eq_true, decide_eq_true_eq, List.all_eq_true, beq_iff_eq] at h
  exact ⟨h.1.1.1, h.1.1.2, h.1.2, fun e he => by simpa using h.2 e he⟩
theorem law_ok {D : List (Int × PySem.Str)} {k : Nat} {C : Int → Int → Bool} (hD : DOk D) (hk : k < 5) (hC : COk D k C) {word : List Int} {N : LN} (hN : KG D N) (hnd : (N.map (·.1)).Nodup)
    (hg : good C word N = true) (hw0 : word ≠ []) (hwK : KL D word) : LawOk k D word (ren D N) := by
  obtain ⟨g1, g2, g3, g4⟩ := good_out hg
  have hnames : (ren D N).map (·.1) = (N.map (·.1)).map (nameT D) := by unfold ren; rw [List.map_map, List.map_map]; rfl
  have hns : ∀ ls ∈ N.map (·.1), KL D ls ∧ ls.length ≤ 4 := fun ls hl => by
    obtain ⟨e, he, rfl⟩ := List.mem_map.mp hl
    exact ⟨hN e he, g2 e he⟩
  have hNs0 : N.map (·.1) ≠ [] := fun e => by rw [e] at g3; cases g3
  have hln : ∀ ls ∈ N.map (·.1), (nameT D ls).length ≤ 16 := fun ls hl => by
    unfold nameT; rw [len_ms]; exact nameL_le hD (hns ls hl).1 (hns ls hl).2
  have hNl : (N.map (·.1)).length ≤ 100 := by rw [List.length_map]; exact g1
  have hw4 : word.length ≤ 4 := (hns word (List.mem_of_getElem? g3)).2
  have tc : tl (S ",") = [44] := rfl
  have hpl := page_plain hD hk hNs0 fun ls hl => (hns ls hl).1
  have hpf := page_forms hD hk hNs0 fun ls hl => (hns ls hl).1
  refine ⟨?_, ?_, ?_, ?_, ?_, ?_, ?_, ?_, ?_⟩
  · unfold ren; rw [List.length_map]; omega
  · intro n hn
    rw [hnames] at hn
    obtain ⟨ls, hl, rfl⟩ := List.mem_map.mp hn
    have := hln ls hl; omega
  · intro c hc
    rw [hnames, tl_join, tc] at hc
    rcases joinL_has hc with h | ⟨p, hp, h⟩
    · rw [List.mem_singleton.mp h]; decide
    · obtain ⟨n, hn, rfl⟩ := List.mem_map.mp hp
      obtain ⟨ls, hl, rfl⟩ := List.mem_map.mp hn
      unfold nameT at h; rw [tl_ms] at h
      exact nameL_alpha hD (hns ls hl).1 c h
  · rw [hnames, len_tl, tl_join, tc]
    have := joinL_le (sep := [44]) (m := 16) (ps := ((N.map (·.1)).map (nameT D)).map tl) fun p hp => by
      obtain ⟨n, hn, rfl⟩ := List.mem_map.mp hp
      obtain ⟨ls, hl, rfl⟩ := List.mem_map.mp hn
      rw [← len_tl]; exact hln ls hl
    rw [List.length_map, List.length_map, show ([44] : List Nat).length = 1 from rfl] at this
    omega
  · intro c hc
    rw [hnames, tl_join, tc] at hc
    rcases joinL_has hc with h | ⟨p, hp, h⟩
    · rw [List.mem_singleton.mp h]; decide
    · obtain ⟨n, hn, rfl⟩ := List.mem_map.mp hp
      obtain ⟨n', hn', rfl⟩ := List.mem_map.mp hn
      obtain ⟨ls, hl, rfl⟩ := List.mem_map.mp hn'
      exact (formT_ok hD (hns ls hl).1 (hns ls hl).2).2 c h
  · rw [hnames, len_tl, tl_join, tc]
    have := joinL_le (sep := [44]) (m := 66) (ps := (((N.map (·.1)).map (nameT D)).map formT).map tl) fun p hp => by
      obtain ⟨n, hn, rfl⟩ := List.mem_map.mp hp
      obtain ⟨n', hn', rfl⟩ := List.mem_map.mp hn
      obtain ⟨ls, hl, rfl⟩ := List.mem_map.mp hn'
      exact (formT_ok hD (hns ls hl).1 (hns ls hl).2).1
    rw [List.length_map, List.length_map, List.length_map, show ([44] : List Nat).length = 1 from rfl] at this
    omega
  · rw [hnames, List.getElem?_map, g3, join_nameT]; rfl
  · obtain ⟨o0, o46, oh, ol, olen⟩ := nameK_ok hD hk hwK hw0 hw4
    refine ⟨ms (nameK D k word), ?_, ?_, ?_⟩
    · rw [hnames, hpl, List.getElem?_map, g3]; rfl
    · rw [len_ms]; exact olen
    · exact held_gen (by rw [tl_ms]; exact o0) (by rw [tl_ms]; exact o46) (by rw [tl_ms]; exact oh) (by rw [tl_ms]; exact ol)
  · intro i name want hn hw
    rw [hnames, List.getElem?_map] at hn
    rw [hnames, hpf, List.getElem?_map] at hw
    cases he : (N.map (·.1))[i]? with
    | none => rw [he] at hn; cases hn
    | some ls =>
      rw [he] at hn hw
      cases hn; cases hw
      have hl := List.mem_of_getElem? he
      rw [hnames, hpl, total_eq hD hk hC hN hnd (hns ls hl).1, join_nameT]
      obtain ⟨e, he', rfl⟩ := List.mem_map.mp hl
      rw [g4 e he']
      by_cases hq : e.1 = word
      · rw [hq, beq_self_eq_true, beq_self_eq_true]
      · rw [beq_eq_false_iff_ne.mpr hq, beq_eq_false_iff_ne.mpr fun q => hq (nameT_inj hD (hN e he') hwK q)]
end Mine
end
section
open PySem PySem.W PyProof.Rows PySem.Calls
open PySem.Builtin PySem.Builtin.Str
set_option Elab.async false
set_option linter.unusedVariables false
namespace Mine
theorem lit_of {p : Nat × Nat} (hp : p ∈ picks) : ∃ e ∈ lits, e.1 = p ∧ kbOf (Dof p) = e.2.1 ∧ ctOf (Dof p) = e.2.2 := by
  rw [← lits_picks] at hp
  obtain ⟨e, he, rfl⟩ := List.mem_map.mp hp
  exact ⟨e, he, rfl, List.map_inj_left.mp lits_kb e he, List.map_inj_left.mp lits_ct e he⟩
theorem ck_pick {p : Nat × Nat} (hp : p ∈ picks) : ckW (kbOf (Dof p)) (CT (ctOf (Dof p))) 4 none [([], 1)] [] 16 = true := by
  obtain ⟨e, he, rfl, h1, h2⟩ := lit_of hp
  rw [h1, h2]
  exact List.all_eq_true.mp lits_ck e he
theorem lits_wt : lits.all (fun e => e.2.1.all fun k => k.2.2.all fun W => W.all fun x => decide (x.2.natAbs ≤ 1000)) = true := by decide +kernel
theorem wt_pick {p : Nat × Nat} (hp : p ∈ picks) {n : Int} (hn : n ∈ (Dof p).map (·.1)) {o : List Int} (ho : OrderOk (Dof p) n o) : ∀ x ∈ weightsBy (Dof p) n o, x.2.natAbs ≤ 1000 := by
  obtain ⟨e, he, h0, h1, _⟩ := lit_of hp
  have hk : (n, 1 + ((partsOf (Dof p) n).length : Int), wlsOf (Dof p) n) ∈ kbOf (Dof p) := List.mem_map.mpr ⟨n, hn, rfl⟩
  rw [h1] at hk
  have a := List.all_eq_true.mp (List.all_eq_true.mp (List.all_eq_true.mp lits_wt e he) _ hk) _ (mem_wls ho)
  intro x hx
  exact of_decide_eq_true (List.all_eq_true.mp a x hx)
theorem pairs_picks : pairsL.all (fun x => picks.any fun p => x == ms [p.1, p.2]) = true := by decide +kernel
theorem pick_of {i : Nat} {c0 c1 : Nat} (h : pairsL[i]? = some (ms [c0, c1])) : (c0, c1) ∈ picks := by
  have h1 := List.all_eq_true.mp pairs_picks _ (List.mem_of_getElem? h)
  obtain ⟨p, hp, e⟩ := List.any_eq_true.mp h1
  have e2 := congrArg tl (beq_iff_eq.mp e)
  rw [tl_ms, tl_ms] at e2
  injection e2 with e3 e4
  injection e4 with e4 _
  rw [e3, e4]; exact hp
theorem cells_len (ns : List Int) : (cellsOf ns).length = 4 := by
  unfold cellsOf
  rw [List.length_append, List.length_map, List.length_drop, List.length_take]
  show min 4 ns.length + (4 - min 4 ns.length) = 4
  omega
theorem word_of {D : List (Int × PySem.Str)} (hD : DOk D) {cells : List Int} (h4 : cells.length = 4) : RW D (wordOf D cells) 16 4 ∧ wordOf D cells ≠ [] := by
  have hr0 : sortI (D.map (·.1)) ≠ [] := fun e => by
    have := sortI_len (D.map (·.1))
    rw [e, List.length_map] at this
    have := hD.pos
    simp at *; omega
  have hr : ∀ n ∈ sortI (D.map (·.1)), n ∈ D.map (·.1) := fun n hn => sortI_mem.mp hn
  constructor
  · obtain ⟨u, e, hu⟩ := word_reach hr hr0 cells [] 16 (fun _ h => absurd h List.not_mem_nil)
    unfold wordOf
    rw [e, ← h4]; exact hu
  · cases cells with
    | nil => cases h4
    | cons c r =>
      unfold wordOf
      rw [List.foldl_cons]
      apply word_grows
      obtain ⟨u, e, hu⟩ := word_reach hr hr0 [c] [] 16 (fun _ h => absurd h List.not_mem_nil)
      unfold wordStep
      have hk : (if (!([] : List Int).isEmpty && (c.fmod 2 == 0)) = true then ([] : List Int).getLastD 0 else (sortI (D.map (·.1))).getD ((c.fdiv 2).fmod (sortI (D.map (·.1))).length).toNat 0) ∈ D.map (·.1) := by
        rw [if_neg (by simp)]
        have hlen : 0 < (sortI (D.map (·.1))).length := List.length_pos_iff.mpr hr0
        generalize sortI (D.map (·.1)) = ranks at *
        have h1 := Int.fmod_nonneg_of_pos (c.fdiv 2) (b := (ranks.length : Int)) (by omega)
        have h2 := Int.fmod_lt_of_pos (c.fdiv 2) (b := (ranks.length : Int)) (by omega)
        have h3 : ((c.fdiv 2).fmod ranks.length).toNat < ranks.length := by omega
        rw [List.getD_eq_getElem?_getD, List.getElem?_eq_getElem h3]
        exact hr _ (List.getElem_mem h3)
      dsimp only at hk ⊢
      generalize (if (!([] : List Int).isEmpty && (c.fmod 2 == 0)) = true then ([] : List Int).getLastD 0 else (sortI (D.map (·.1))).getD ((c.fdiv 2).fmod (sortI (D.map (·.1))).length).toNat 0) = n at hk ⊢
      have := hD.ch n hk
      rw [if_pos (by omega)]
      simp
theorem plain_law (ns : List Int) : PlainLaw ns := by
  refine ⟨fun c0 c1 hc => ?_⟩
  have hp := pick_of hc
  have hD : DOk (handOf c0 c1) := dok hp
  obtain ⟨hRW, hw0⟩ := word_of hD (cells_len ns)
  obtain ⟨hwK, hw4⟩ := RW.keys hRW
  have hk : ((cellsOf ns).sum.fmod 5).toNat < 5 := by
    have h1 := Int.fmod_nonneg_of_pos (cellsOf ns).sum (b := 5) (by decide)
    have h2 := Int.fmod_lt_of_pos (cellsOf ns).sum (b := 5) (by decide)
    omega
  have hck := ck_pick hp
  have hgood : ∀ xs : List (Int × List Int), xs.map (·.1) <+: wordOf (handOf c0 c1) (cellsOf ns) → (∀ x ∈ xs, OrderOk (handOf c0 c1) x.1 x.2) → good (CT (ctOf (handOf c0 c1))) (xs.map (·.1)) (numsL (handOf c0 c1) xs) = true :=
    fun xs hx ho => ck_good xs 4 none [([], 1)] [] 16 hck (RW.pre hx hRW) ho
  refine ⟨hD.pos, hD.len, fun n hn => ?_, hD.no0, ?_, ⟨hwK, fun n hn o ho => wt_pick hp (hwK n hn) ho, fun xs hx ho => ?_⟩, fun xs hx => ?_⟩
  · have := (hD.short n hn).2; rw [len_tl]; omega
  · omega
  · obtain ⟨g1, g2, _, _⟩ := good_out (hgood xs hx ho)
    obtain ⟨e, hKG⟩ := numbers_ren hD ho
    rw [e]
    constructor
    · unfold ren; rw [List.length_map]; omega
    · intro y hy
      obtain ⟨z, hz, rfl⟩ := List.mem_map.mp hy
      have := nameL_le hD (hKG z hz) (g2 z hz)
      show (ms (nameL (handOf c0 c1) z.1)).length ≤ 1000
      rw [len_ms]; omega
  · obtain ⟨e, hKG⟩ := numbers_ren hD hx.ok
    have hg := hgood xs (by rw [hx.word]; exact List.prefix_refl _) hx.ok
    rw [hx.word] at hg
    rw [e]
    exact law_ok hD hk (cok hp hk) hKG (nums_nodup _ xs none [([], 1)] (by simp)) hg hw0 hwK
end Mine
end
section
open PySem PySem.W PyProof.Rows PySem.Calls
open PySem.Builtin PySem.Builtin.Str
set_option Elab.async false
set_option linter.unusedVariables false
namespace Mine
theorem law_good {g h₁ : Heap} {tk₁ : Nat} {s₁ s' : Shared} {cl : PySem.Str → Option Addr} {mean : ExcName → Option Value} {da : List WData} {fl : Flow} (hg : s₁.gens = #[])
    (h : RetG g (IsB true) { s₁ with heap := h₁, toks := tk₁ } fl s') :
    fl = .ret (.bool true) ∧ GoodW PySem.Challenge.rw_ti0041_01.row.claim cl mean da { s₁ with heap := g } (.ok (.ret (.bool true))) s' ∧ GrownAll [(103, 101)] s'.heap := by
  obtain ⟨v, nw, h', tk, rfl, rfl, hk, ⟨ps, hps, _⟩, _, _, hv⟩ := h
  have hv : v = .bool true := hv
  subst hv
  refine ⟨rfl, ⟨.inl ⟨.bool true, .bool true, [], rfl, fun _ => rfl, ReadsW.bool _, by with_unfolding_all rfl, fun _ => ⟨List.nodup_nil, fun _ h => absurd h List.not_mem_nil⟩⟩, fun b o e => hk b o e, rfl, hg⟩, ⟨ps, hps⟩, trivial⟩
theorem rm_top (env : Env) : Rm (callerA.deeper env) 4 := Rm.deeper (k := 4) ⟨rfl, by decide +kernel, by decide +kernel⟩
theorem law_join {w : World} {s₁ : Shared} {h₁ : Heap} {tk₁ : Nat} {A : Around} {fa sc : Addr} {cd : Value} {oc : Obj} {sv : List Value} {ns : List Int} {mean : ExcName → Option Value} {mg mb m : PySem.Str → Option Value} {b : Option Value}
    (X : (KK w).In (ghostOf s₁.heap [(103, 101)])) (T : Top topProg looseL mean mg mb (ghostOf s₁.heap [(103, 101)]))
    (hc : CodeHd (ghostOf s₁.heap [(103, 101)]) 103 101) (hl : (ghostOf s₁.heap [(103, 101)]).IsList sc sv.toArray) (hI : IntsAre sv ns) (h63 : ns.length ≤ 63) (hA : Rm A 4)
    (N : News (ghostOf s₁.heap [(103, 101)]) s₁.heap.objs.size h₁ [(s₁.heap.objs.size + 1, oc), (101, tabObj #[])])
    (F : Fr (ghostOf s₁.heap [(103, 101)]) s₁.heap.objs.size h₁ m) (hm : m = lk [(S "script", .ref sc)]) (hoc : oc.data = .cell b) (hb : b = none) :
    wpAny (MD w) A (execs lawBody (envX (S "law") lawScope s₁.heap.objs.size fa cd [(S "hand", s₁.heap.objs.size + 1)])) (RetG (ghostOf s₁.heap [(103, 101)]) (IsB true) { s₁ with heap := h₁, toks := tk₁ }) NE { s₁ with heap := h₁, toks := tk₁ } := by
  subst hm; subst hb
  exact law_body (s := { s₁ with heap := h₁, toks := tk₁ }) ⟨⟨X, _, _, _, T⟩, hc, hideAll_none _ (.head _)⟩ hA hl hI h63 (plain_law ns) hoc F fun p hp => N p (by
    rcases List.mem_cons.mp hp with rfl | hp
    · exact .tail _ (.head _)
    · rw [List.mem_singleton.mp hp]; exact .head _)
end Mine
end
section
open PySem PySem.W PyProof.Rows PySem.Calls
set_option Elab.async false
set_option maxRecDepth 100000 in
set_option maxHeartbeats 8000000 in
theorem PySem.Challenge.cw_ti0041_01_holds : PySem.Challenge.rw_ti0041_01.Holds := by
  exact Mine.hd (by
    w_strict (
      k_go0
      refine wpAny_mono (Mine.law_join (by assumption) (by assumption) (by assumption) (by assumption) (by assumption) (by omega) (Mine.rm_top _) (by assumption) (by assumption) (by exact (Mine.bindL_loc (by rfl)).trans (Mine.lk_cons [] _ _)) (by assumption) (by exact (congrFun (Mine.bindC_loc (by rfl)) _).trans rfl)) (fun fl s' h => ?_) (fun _ _ e => e.elim)
      obtain ⟨rfl, hg⟩ := Mine.law_good (by assumption) h
      exact hg))
end
