import PyProof.Rows.All
import Wide.All
import OpenK.AllK
import Wide.FinOn
import PySem.Challenge.RW_wj0003_01
set_option Elab.async false

/-! part Hd -/
namespace Mine
open PySem PySem.W PyProof.Rows
set_option maxRecDepth 100000 in
set_option maxHeartbeats 8000000 in
open_top hd for PySem.Challenge.rw_wj0003_01
end Mine

/-! part B0 -/
namespace Mine
open PySem PySem.W PySem.Calls PyProof.Rows
set_option maxRecDepth 100000
set_option linter.unusedVariables false

abbrev HK (h h' : Heap) : Prop := ∀ b o, h.get? b = some o → h'.get? b = some o
def SK (h h' : Heap) : Prop := ∀ b o, h.get? b = some o → (∃ xs n, o.data = .seq xs n) → h'.get? b = some o
theorem HK.sk {h h' : Heap} (k : HK h h') : SK h h' := fun b o e _ => k b o e
theorem HK.rfl' {h : Heap} : HK h h := fun _ _ e => e
theorem HK.trans {h h' h'' : Heap} (k : HK h h') (k' : HK h' h'') : HK h h'' := fun b o e => k' b o (k b o e)
theorem SK.trans {h h' h'' : Heap} (k : SK h h') (k' : SK h' h'') : SK h h'' := fun b o e hd => k' b o (k b o e hd) hd
theorem SK.rfl' {h : Heap} : SK h h := fun _ _ e _ => e

abbrev NoE : Value → Shared → Prop := fun _ _ => False

theorem kp_refl (s : Shared) : Keeps s s := ⟨s.heap, s.toks, rfl, fun _ _ e => e⟩
theorem kp_trans {s s' s'' : Shared} (k : Keeps s s') (k' : Keeps s' s'') : Keeps s s'' := by
  obtain ⟨h1, t1, rfl, e1⟩ := k
  obtain ⟨h2, t2, rfl, e2⟩ := k'
  exact ⟨h2, t2, rfl, fun b o e => e2 b o (e1 b o e)⟩
theorem kp_hk {s s' : Shared} (k : Keeps s s') : HK s.heap s'.heap := by
  obtain ⟨h1, t1, rfl, e1⟩ := k
  exact e1
theorem kp_tok (s : Shared) (t : Nat) : Keeps s { s with toks := t } := ⟨s.heap, t, rfl, fun _ _ e => e⟩
theorem kp_push (s : Shared) (o : Obj) : Keeps s { s with heap := s.heap.push o } := ⟨_, s.toks, rfl, fun _ _ e => Heap.get?_push_of_some _ e⟩
theorem kp_push' (s : Shared) (o : Obj) (t : Nat) : Keeps s { s with heap := s.heap.push o, toks := t } := ⟨_, t, rfl, fun _ _ e => Heap.get?_push_of_some _ e⟩

/-- a view: the heap with some addresses hidden (lists that are still being built) -/
abbrev Vw := Addr → Option Obj
def vw (X : List Addr) (h : Heap) : Vw := fun a => if a ∈ X then none else h.get? a
def VK (g g' : Vw) : Prop := ∀ b o, g b = some o → (∃ xs n, o.data = .seq xs n) → g' b = some o
def VA (g g' : Vw) : Prop := ∀ b o, g b = some o → g' b = some o
theorem VA.vk {g g' : Vw} (k : VA g g') : VK g g' := fun b o e _ => k b o e
theorem VA.rfl' {g : Vw} : VA g g := fun _ _ e => e
theorem VA.trans {g g' g'' : Vw} (k : VA g g') (k' : VA g' g'') : VA g g'' := fun b o e => k' b o (k b o e)
theorem VK.rfl' {g : Vw} : VK g g := fun _ _ e _ => e
theorem VK.trans {g g' g'' : Vw} (k : VK g g') (k' : VK g' g'') : VK g g'' := fun b o e hd => k' b o (k b o e hd) hd
theorem vw_sk {X : List Addr} {h h' : Heap} (k : SK h h') : VK (vw X h) (vw X h') := by
  intro b o e hd
  unfold vw at e ⊢
  split at e
  · cases e
  · rename_i hb
    rw [if_neg hb]
    exact k b o e hd
theorem vw_hk {X : List Addr} {h h' : Heap} (k : HK h h') : VA (vw X h) (vw X h') := by
  intro b o e
  unfold vw at e ⊢
  split at e
  · cases e
  · rename_i hb
    rw [if_neg hb]
    exact k b o e
theorem vw_get {X : List Addr} {h : Heap} {a : Addr} {o : Obj} (e : vw X h a = some o) : h.get? a = some o := by
  unfold vw at e
  split at e
  · cases e
  · exact e
theorem vw_of {X : List Addr} {h : Heap} {a : Addr} {o : Obj} (e : h.get? a = some o) (hn : a ∉ X) : vw X h a = some o := by
  unfold vw
  rw [if_neg hn]; exact e
theorem vw_notin {X : List Addr} {h : Heap} {a : Addr} {o : Obj} (e : vw X h a = some o) : a ∉ X := fun hx => by
  unfold vw at e
  rw [if_pos hx] at e; cases e
/-- fresh addresses are hidden, older objects kept -/
theorem vw_hide {X Y : List Addr} {h h' : Heap} (k : HK h h') (hf : ∀ y ∈ Y, h.get? y = none) : VA (vw X h) (vw (Y ++ X) h') := by
  intro b o e
  have hb := vw_get e
  refine vw_of (k b o hb) fun hm => ?_
  rcases List.mem_append.mp hm with hm | hm
  · rw [hf b hm] at hb; cases hb
  · exact vw_notin e hm
theorem vw_show {X Y : List Addr} {h : Heap} : VA (vw (Y ++ X) h) (vw X h) := by
  intro b o e
  exact vw_of (vw_get e) fun hm => vw_notin e (List.mem_append.mpr (.inr hm))
/-- what is hidden alone is changed -/
theorem vw_but {X : List Addr} {h h' : Heap} (k : ∀ b o, b ∉ X → h.get? b = some o → h'.get? b = some o) : VA (vw X h) (vw X h') := by
  intro b o e
  exact vw_of (k b o (vw_notin e) (vw_get e)) (vw_notin e)
/-- the hidden ones are there -/
def XB (X : List Addr) (h : Heap) : Prop := ∀ x ∈ X, ∃ o, h.get? x = some o
theorem XB.up {X : List Addr} {h h' : Heap} (b : XB X h) (k : HK h h') : XB X h' := fun x hx => let ⟨o, e⟩ := b x hx; ⟨o, k _ _ e⟩
theorem XB.new {X : List Addr} {h : Heap} (b : XB X h) {a : Addr} (e : h.get? a = none) : a ∉ X := fun hx => by
  obtain ⟨o, ho⟩ := b a hx; rw [e] at ho; cases ho
theorem size_none (h : Heap) : h.get? h.objs.size = none := by
  cases e : h.get? h.objs.size with
  | none => rfl
  | some o' => exact absurd (Heap.lt_size e) (Nat.lt_irrefl _)

/-- how a Lean datum stands in a view -/
structure Ty (α : Type) where
  rel : Vw → Value → α → Prop
  mono : ∀ {g g' : Vw} {v : Value} {x : α}, VK g g' → rel g v x → rel g' v x

def tInt : Ty Int := ⟨fun _ v i => ∃ t, v = .int i t, fun _ h => h⟩
def tBool : Ty Bool := ⟨fun _ v b => v = .bool b, fun _ h => h⟩
def tStr : Ty Str := ⟨fun _ v x => ∃ t, v = .str x t, fun _ h => h⟩
def tBytes : Ty (Array UInt8) := ⟨fun _ v x => ∃ t, v = .bytes x t, fun _ h => h⟩
/-- None or a bool -/
def tOB : Ty (Option Bool) := ⟨fun _ v x => v = match x with | none => .none | some b => .bool b, fun _ h => h⟩

theorem paired_imp {α β : Type} {F G : α → β → Prop} (h : ∀ a b, F a b → G a b) : ∀ {l : List α} {m : List β}, Paired F l m → Paired G l m
  | _, _, .nil => .nil
  | _, _, .cons a b => .cons (h _ _ a) (paired_imp h b)

def LstV (c : String) (g : Vw) (a : Addr) (vs : List Value) : Prop := ∃ o, g a = some o ∧ o.cls = .type c ∧ ∃ n, o.data = .seq vs.toArray n
theorem lstV_vk {c : String} {g g' : Vw} (k : VK g g') {a : Addr} {vs : List Value} (x : LstV c g a vs) : LstV c g' a vs := by
  obtain ⟨o, ho, hc, n, hd⟩ := x
  exact ⟨o, k a o ho ⟨_, _, hd⟩, hc, n, hd⟩
theorem LstV.list {X : List Addr} {h : Heap} {a : Addr} {vs : List Value} (x : LstV "list" (vw X h) a vs) : h.IsList a vs.toArray := by
  obtain ⟨o, ho, r⟩ := x
  exact ⟨o, vw_get ho, r⟩
theorem LstV.tup {X : List Addr} {h : Heap} {a : Addr} {vs : List Value} (x : LstV "tuple" (vw X h) a vs) : IsTup h a vs.toArray := by
  obtain ⟨o, ho, r⟩ := x
  exact ⟨o, vw_get ho, r⟩
theorem lstV_of {X : List Addr} {h : Heap} {a : Addr} {vs : List Value} (x : h.IsList a vs.toArray) (hn : a ∉ X) : LstV "list" (vw X h) a vs := by
  obtain ⟨o, ho, r⟩ := x
  exact ⟨o, vw_of ho hn, r⟩
theorem tupV_of {X : List Addr} {h : Heap} {a : Addr} {vs : List Value} (x : IsTup h a vs.toArray) (hn : a ∉ X) : LstV "tuple" (vw X h) a vs := by
  obtain ⟨o, ho, r⟩ := x
  exact ⟨o, vw_of ho hn, r⟩

def tSeq {α : Type} (c : String) (T : Ty α) : Ty (List α) :=
  ⟨fun g v xs => ∃ a vs, v = .ref a ∧ LstV c g a vs ∧ Paired (T.rel g) vs xs, by
    rintro g g' v x k ⟨a, vs, e, hl, hp⟩
    exact ⟨a, vs, e, lstV_vk k hl, paired_imp (fun _ _ r => T.mono k r) hp⟩⟩
abbrev tList {α : Type} (T : Ty α) : Ty (List α) := tSeq "list" T
abbrev tTup {α : Type} (T : Ty α) : Ty (List α) := tSeq "tuple" T
/-- a tuple of two -/
def tPair {α β : Type} (T : Ty α) (U : Ty β) : Ty (α × β) :=
  ⟨fun g v x => ∃ a v1 v2, v = .ref a ∧ LstV "tuple" g a [v1, v2] ∧ T.rel g v1 x.1 ∧ U.rel g v2 x.2, by
    rintro g g' v x k ⟨a, v1, v2, e, hl, r1, r2⟩
    exact ⟨a, v1, v2, e, lstV_vk k hl, T.mono k r1, U.mono k r2⟩⟩

def Ev {α : Type} (M : Model) (A : Around) (X : List Addr) (t : Sem Value) (T : Ty α) (x : α) (s : Shared) : Prop :=
  ∀ s1, Keeps s s1 → wpAny M A t (fun v s2 => Keeps s1 s2 ∧ T.rel (vw X s2.heap) v x) NoE s1
def Bv (M : Model) (A : Around) (t : Sem Bool) (b : Bool) (s : Shared) : Prop :=
  ∀ s1, Keeps s s1 → wpAny M A t (fun c s2 => c = b ∧ Keeps s1 s2) NoE s1

section
variable {α β γ : Type} {M : Model} {A : Around} {X : List Addr} {t : Sem Value} {tb : Sem Bool} {T : Ty α} {U : Ty β} {V : Ty γ} {x : α} {y : β} {z : γ} {b : Bool} {s s' : Shared} {env : Env}
theorem Ev.up (h : Ev M A X t T x s) (k : Keeps s s') : Ev M A X t T x s' := fun s1 k1 => h s1 (kp_trans k k1)
theorem Bv.up (h : Bv M A tb b s) (k : Keeps s s') : Bv M A tb b s' := fun s1 k1 => h s1 (kp_trans k k1)
theorem Ev.wp (h : Ev M A X t T x s) {Q : Value → Shared → Prop} {E : Value → Shared → Prop} (k : ∀ v s2, Keeps s s2 → T.rel (vw X s2.heap) v x → Q v s2) : wpAny M A t Q E s :=
  wpAny_mono (h s (kp_refl s)) (fun v s2 p => k v s2 p.1 p.2) (fun _ _ p => p.elim)
theorem Bv.wp (h : Bv M A tb b s) {Q : Bool → Shared → Prop} {E : Value → Shared → Prop} (k : ∀ s2, Keeps s s2 → Q b s2) : wpAny M A tb Q E s :=
  wpAny_mono (h s (kp_refl s)) (fun c s2 p => by obtain ⟨rfl, p⟩ := p; exact k s2 p) (fun _ _ p => p.elim)

theorem ev_bin {l r : Expr} {op : Operator} {pos : Pos} (h1 : Ev M A X (eval l env) T x s) (h2 : Ev M A X (eval r env) U y s)
    (hop : ∀ v1 v2 s2, Keeps s s2 → T.rel (vw X s2.heap) v1 x → U.rel (vw X s2.heap) v2 y → wpAny M A (binaryOp op v1 v2) (fun v s3 => Keeps s2 s3 ∧ V.rel (vw X s3.heap) v z) NoE s2) :
    Ev M A X (eval (.BinOp l op r pos) env) V z s := by
  intro s1 k1
  refine wpAny_BinOp ((h1.up k1).wp fun v1 s2 k2 r1 => (h2.up (kp_trans k1 k2)).wp fun v2 s3 k3 r2 => ?_)
  exact wpAny_mono (hop v1 v2 s3 (kp_trans k1 (kp_trans k2 k3)) (T.mono (vw_sk (kp_hk k3).sk) r1) r2) (fun v s4 p => ⟨kp_trans k2 (kp_trans k3 p.1), p.2⟩) (fun _ _ p => p)

theorem ev_cmp {l r : Expr} {op : CmpOp} {pos : Pos} {c : Bool} (h1 : Ev M A X (eval l env) T x s) (h2 : Ev M A X (eval r env) U y s)
    (hop : ∀ v1 v2 s2, Keeps s s2 → T.rel (vw X s2.heap) v1 x → U.rel (vw X s2.heap) v2 y → wpAny M A (compareOp op v1 v2) (fun v s3 => Keeps s2 s3 ∧ v = .bool c) NoE s2)
    (hm : behindInMarks op r = false := by with_unfolding_all rfl) :
    Ev M A X (eval (.Compare l [op] [r] pos) env) tBool c s := by
  intro s1 k1
  refine wpAny_Compare1 (hm := hm) ((h1.up k1).wp fun v1 s2 k2 r1 => (h2.up (kp_trans k1 k2)).wp fun v2 s3 k3 r2 => ?_)
  exact wpAny_mono (hop v1 v2 s3 (kp_trans k1 (kp_trans k2 k3)) (T.mono (vw_sk (kp_hk k3).sk) r1) r2) (fun v s4 p => ⟨kp_trans k2 (kp_trans k3 p.1), p.2⟩) (fun _ _ p => p)

theorem bv_cmp {l r : Expr} {op : CmpOp} {pos : Pos} {c : Bool} {whole : Sem Value} (h1 : Ev M A X (eval l env) T x s) (h2 : Ev M A X (eval r env) U y s)
    (hop : ∀ v1 v2 s2, Keeps s s2 → T.rel (vw X s2.heap) v1 x → U.rel (vw X s2.heap) v2 y → wpAny M A (compareOp op v1 v2) (fun v s3 => Keeps s2 s3 ∧ v = .bool c) NoE s2)
    (hm : behindInMarks op r = false := by with_unfolding_all rfl) :
    Bv M A (isTrue (.Compare l [op] [r] pos) env whole) c s := by
  intro s1 k1
  refine wpAny_isTrue_Compare1 (hm := hm) ((h1.up k1).wp fun v1 s2 k2 r1 => (h2.up (kp_trans k1 k2)).wp fun v2 s3 k3 r2 => ?_)
  refine wpAny_mono (hop v1 v2 s3 (kp_trans k1 (kp_trans k2 k3)) (T.mono (vw_sk (kp_hk k3).sk) r1) r2) (fun v s4 p => ?_) (fun _ _ p => p)
  obtain ⟨p, rfl⟩ := p
  exact wpAny_truthy_bool ⟨rfl, kp_trans k2 (kp_trans k3 p)⟩

theorem bv_val {e : Expr} {whole : Sem Value} (h : Ev M A X whole T x s)
    (ht : ∀ v s2, Keeps s s2 → T.rel (vw X s2.heap) v x → wpAny M A (truthy v) (fun c s3 => c = b ∧ Keeps s2 s3) NoE s2)
    (he : isTrue e env whole = (do let v ← whole; standAt e.pos; holding [v] (truthy v)) := by rfl) : Bv M A (isTrue e env whole) b s := by
  intro s1 k1
  refine isTrue_plain (he := he) ((h.up k1).wp fun v s2 k2 r => ?_)
  exact wpAny_mono (ht v s2 (kp_trans k1 k2) r) (fun c s3 p => ⟨p.1, kp_trans k2 p.2⟩) (fun _ _ p => p)

theorem bv_and_nil {pos : Pos} {whole : Sem Value} : Bv M A (isTrue (.BoolOp .And [] pos) env whole) true s :=
  fun s1 _ => isTrue_and_nil ⟨rfl, kp_refl _⟩
theorem bv_and {e : Expr} {rest : List Expr} {pos : Pos} {whole : Sem Value} {b c : Bool} (h1 : Bv M A (isTrue e env (eval e env)) b s) (h2 : b = true → Bv M A (isTrue (.BoolOp .And rest pos) env whole) c s) :
    Bv M A (isTrue (.BoolOp .And (e :: rest) pos) env whole) (b && c) s := by
  intro s1 k1
  refine isTrue_and ((h1.up k1).wp fun s2 k2 => ?_)
  cases b with
  | false => exact ⟨rfl, k2⟩
  | true =>
    show wpAny _ _ _ _ _ _
    exact ((h2 rfl).up (kp_trans k1 k2)).wp fun s3 k3 => ⟨by simp, kp_trans k2 k3⟩
theorem bv_not {e : Expr} {pos : Pos} {whole : Sem Value} (h : Bv M A (isTrue e env (eval e env)) b s) : Bv M A (isTrue (.UnaryOp .Not e pos) env whole) (!b) s := by
  intro s1 k1
  exact isTrue_not ((h.up k1).wp fun s2 k2 => ⟨rfl, k2⟩)

theorem ev_int (i : Int) {k : Nat} {pos : Pos} : Ev M A X (eval (.Constant (.int i) k pos) env) tInt i s :=
  fun s1 _ => wpAny_Constant_int ⟨kp_tok _ _, _, rfl⟩
theorem ev_str (x : Str) {k : Nat} {pos : Pos} : Ev M A X (eval (.Constant (.str x) k pos) env) tStr x s :=
  fun s1 _ => wpAny_Constant_str ⟨kp_tok _ _, _, rfl⟩
theorem ev_bool (b : Bool) {k : Nat} {pos : Pos} : Ev M A X (eval (.Constant (.bool b) k pos) env) tBool b s :=
  fun s1 _ => wpAny_Constant_bool ⟨kp_refl _, rfl⟩
theorem ev_un {e : Expr} {op : UnaryOp} {pos : Pos} (h1 : Ev M A X (eval e env) T x s)
    (hop : ∀ v1 s2, Keeps s s2 → T.rel (vw X s2.heap) v1 x → wpAny M A (unaryOp op v1) (fun v s3 => Keeps s2 s3 ∧ V.rel (vw X s3.heap) v z) NoE s2) :
    Ev M A X (eval (.UnaryOp op e pos) env) V z s := by
  intro s1 k1
  refine wpAny_UnaryOp ((h1.up k1).wp fun v1 s2 k2 r1 => ?_)
  exact wpAny_mono (hop v1 s2 (kp_trans k1 k2) r1) (fun v s4 p => ⟨kp_trans k2 p.1, p.2⟩) (fun _ _ p => p)
end

section
variable {prog : Program} {w : World} {A : Around} {X : List Addr} {s : Shared} {env : Env} {l r : Expr} {pos : Pos} {a b : Int}
theorem ev_add (h1 : Ev (model prog w) A X (eval l env) tInt a s) (h2 : Ev (model prog w) A X (eval r env) tInt b s) : Ev (model prog w) A X (eval (.BinOp l .Add r pos) env) tInt (a + b) s :=
  ev_bin h1 h2 (by rintro _ _ s2 _ ⟨t, rfl⟩ ⟨u, rfl⟩; exact add_int ⟨kp_tok _ _, _, rfl⟩)
theorem ev_sub (h1 : Ev (model prog w) A X (eval l env) tInt a s) (h2 : Ev (model prog w) A X (eval r env) tInt b s) : Ev (model prog w) A X (eval (.BinOp l .Sub r pos) env) tInt (a - b) s :=
  ev_bin h1 h2 (by rintro _ _ s2 _ ⟨t, rfl⟩ ⟨u, rfl⟩; exact sub_int ⟨kp_tok _ _, _, rfl⟩)
theorem ev_mod (hb : b ≠ 0) (h1 : Ev (model prog w) A X (eval l env) tInt a s) (h2 : Ev (model prog w) A X (eval r env) tInt b s) : Ev (model prog w) A X (eval (.BinOp l .Mod r pos) env) tInt (a.fmod b) s :=
  ev_bin h1 h2 (by rintro _ _ s2 _ ⟨t, rfl⟩ ⟨u, rfl⟩; exact mod_int' hb ⟨kp_tok _ _, _, rfl⟩)
theorem ev_and (h1 : Ev (model prog w) A X (eval l env) tInt a s) (h2 : Ev (model prog w) A X (eval r env) tInt b s) : Ev (model prog w) A X (eval (.BinOp l .BitAnd r pos) env) tInt (Builtin.bitAnd a b) s :=
  ev_bin h1 h2 (by rintro _ _ s2 _ ⟨t, rfl⟩ ⟨u, rfl⟩; exact and_int ⟨kp_tok _ _, _, rfl⟩)
theorem ev_rsh (hb : 0 ≤ b) (h1 : Ev (model prog w) A X (eval l env) tInt a s) (h2 : Ev (model prog w) A X (eval r env) tInt b s) : Ev (model prog w) A X (eval (.BinOp l .RShift r pos) env) tInt (a.fdiv (2 ^ b.toNat)) s :=
  ev_bin h1 h2 (by rintro _ _ s2 _ ⟨t, rfl⟩ ⟨u, rfl⟩; exact rshift_int hb ⟨kp_tok _ _, _, rfl⟩)
theorem ev_lsh (hb : 0 ≤ b) (hb2 : b ≤ 1000000) (ha : a.natAbs < 2 ^ 64) (h1 : Ev (model prog w) A X (eval l env) tInt a s) (h2 : Ev (model prog w) A X (eval r env) tInt b s) : Ev (model prog w) A X (eval (.BinOp l .LShift r pos) env) tInt (a * 2 ^ b.toNat) s :=
  ev_bin h1 h2 (by rintro _ _ s2 _ ⟨t, rfl⟩ ⟨u, rfl⟩; exact lshift_int_small hb hb2 ha ⟨kp_tok _ _, _, rfl⟩)
theorem ev_pow (hb : 0 ≤ b) (hb2 : b ≤ 1000000) (ha : a.natAbs < 2 ^ 64) (h1 : Ev (model prog w) A X (eval l env) tInt a s) (h2 : Ev (model prog w) A X (eval r env) tInt b s) : Ev (model prog w) A X (eval (.BinOp l .Pow r pos) env) tInt (a ^ b.toNat) s :=
  ev_bin h1 h2 (by rintro _ _ s2 _ ⟨t, rfl⟩ ⟨u, rfl⟩; exact pow_int_small hb hb2 ha ⟨kp_tok _ _, _, rfl⟩)
theorem ev_fdiv (hb : b ≠ 0) (hp : Builtin.divisionGoesByPylong a b = false) (h1 : Ev (model prog w) A X (eval l env) tInt a s) (h2 : Ev (model prog w) A X (eval r env) tInt b s) : Ev (model prog w) A X (eval (.BinOp l .FloorDiv r pos) env) tInt (a.fdiv b) s :=
  ev_bin h1 h2 (by rintro _ _ s2 _ ⟨t, rfl⟩ ⟨u, rfl⟩; exact floordiv_int hb ⟨kp_tok _ _, _, rfl⟩ (.inl hp))
theorem ev_mul (hm : IntMulOk a b) (h1 : Ev (model prog w) A X (eval l env) tInt a s) (h2 : Ev (model prog w) A X (eval r env) tInt b s) : Ev (model prog w) A X (eval (.BinOp l .Mult r pos) env) tInt (a * b) s :=
  ev_bin h1 h2 (by rintro _ _ s2 _ ⟨t, rfl⟩ ⟨u, rfl⟩; exact mul_int ⟨kp_tok _ _, _, rfl⟩ hm)
theorem ev_inv (h1 : Ev (model prog w) A X (eval l env) tInt a s) : Ev (model prog w) A X (eval (.UnaryOp .Invert l pos) env) tInt (-a - 1) s :=
  ev_un h1 (by rintro _ s2 _ ⟨t, rfl⟩; exact invert_int ⟨kp_tok _ _, _, rfl⟩)
theorem cmp_lt (s2 : Shared) {v1 v2 : Value} (r1 : tInt.rel (vw X s2.heap) v1 a) (r2 : tInt.rel (vw X s2.heap) v2 b) : wpAny (model prog w) A (compareOp .Lt v1 v2) (fun v s3 => Keeps s2 s3 ∧ v = .bool (decide (a < b))) NoE s2 := by
  obtain ⟨t, rfl⟩ := r1; obtain ⟨u, rfl⟩ := r2; exact lt_int ⟨kp_refl _, rfl⟩
theorem cmp_gt (s2 : Shared) {v1 v2 : Value} (r1 : tInt.rel (vw X s2.heap) v1 a) (r2 : tInt.rel (vw X s2.heap) v2 b) : wpAny (model prog w) A (compareOp .Gt v1 v2) (fun v s3 => Keeps s2 s3 ∧ v = .bool (decide (b < a))) NoE s2 := by
  obtain ⟨t, rfl⟩ := r1; obtain ⟨u, rfl⟩ := r2; exact gt_int ⟨kp_refl _, rfl⟩
theorem cmp_ge (s2 : Shared) {v1 v2 : Value} (r1 : tInt.rel (vw X s2.heap) v1 a) (r2 : tInt.rel (vw X s2.heap) v2 b) : wpAny (model prog w) A (compareOp .GtE v1 v2) (fun v s3 => Keeps s2 s3 ∧ v = .bool (decide (b ≤ a))) NoE s2 := by
  obtain ⟨t, rfl⟩ := r1; obtain ⟨u, rfl⟩ := r2; exact ge_int ⟨kp_refl _, rfl⟩
theorem cmp_eq (s2 : Shared) {v1 v2 : Value} (r1 : tInt.rel (vw X s2.heap) v1 a) (r2 : tInt.rel (vw X s2.heap) v2 b) : wpAny (model prog w) A (compareOp .Eq v1 v2) (fun v s3 => Keeps s2 s3 ∧ v = .bool (a == b)) NoE s2 := by
  obtain ⟨t, rfl⟩ := r1; obtain ⟨u, rfl⟩ := r2; exact eq_int ⟨kp_refl _, rfl⟩
theorem cmp_eqs {x y : Str} (s2 : Shared) {v1 v2 : Value} (r1 : tStr.rel (vw X s2.heap) v1 x) (r2 : tStr.rel (vw X s2.heap) v2 y) : wpAny (model prog w) A (compareOp .Eq v1 v2) (fun v s3 => Keeps s2 s3 ∧ v = .bool (x.cps.toList == y.cps.toList)) NoE s2 := by
  obtain ⟨t, rfl⟩ := r1; obtain ⟨u, rfl⟩ := r2; exact P.eq_str ⟨kp_refl _, rfl⟩
theorem tr_int (s2 : Shared) {v : Value} (r1 : tInt.rel (vw X s2.heap) v a) : wpAny (model prog w) A (truthy v) (fun c s3 => c = (a != 0) ∧ Keeps s2 s3) NoE s2 := by
  obtain ⟨t, rfl⟩ := r1; exact P.truthy_int ⟨rfl, kp_refl _⟩
theorem tr_bool {b : Bool} (s2 : Shared) {v : Value} (r1 : tBool.rel (vw X s2.heap) v b) : wpAny (model prog w) A (truthy v) (fun c s3 => c = b ∧ Keeps s2 s3) NoE s2 := by
  have r1' : v = .bool b := r1
  subst r1'; exact wpAny_truthy_bool ⟨rfl, kp_refl _⟩
end
end Mine

/-! part B1 -/
namespace Mine
open PySem PySem.W PySem.Calls PyProof.Rows
set_option maxRecDepth 100000
set_option linter.unusedVariables false

structure Dt : Type 1 where
  α : Type
  T : Ty α
  d : α
structure VarE : Type 1 where
  n : Str
  α : Type
  T : Ty α
  d : α

def NsV (g : Vw) (a : Addr) (m : Str → Option Value) : Prop := ∃ o es ep, g a = some o ∧ o.data = .dict es ep ∧ StrKeys es ∧ ∀ name, nsFind es name = m name
def CellV (g : Vw) (c : Addr) (v : Option Value) : Prop := ∃ o, g c = some o ∧ o.data = .cell v
theorem NsV.ns {X : List Addr} {h : Heap} {a : Addr} {m} (x : NsV (vw X h) a m) : h.Ns a m := let ⟨o, es, ep, ho, r⟩ := x; ⟨o, es, ep, vw_get ho, r⟩
theorem nsV_of {X : List Addr} {h : Heap} {a : Addr} {m} (x : h.Ns a m) (hn : a ∉ X) : NsV (vw X h) a m := let ⟨o, es, ep, ho, r⟩ := x; ⟨o, es, ep, vw_of ho hn, r⟩
theorem CellV.cell {X : List Addr} {h : Heap} {a : Addr} {v} (x : CellV (vw X h) a v) : h.IsCell a v := let ⟨o, ho, r⟩ := x; ⟨o, vw_get ho, r⟩
theorem cellV_of {X : List Addr} {h : Heap} {a : Addr} {v} (x : h.IsCell a v) (hn : a ∉ X) : CellV (vw X h) a v := let ⟨o, ho, r⟩ := x; ⟨o, vw_of ho hn, r⟩
theorem NsV.va {g g' : Vw} (k : VA g g') {a : Addr} {m} (x : NsV g a m) : NsV g' a m := let ⟨o, es, ep, ho, r⟩ := x; ⟨o, es, ep, k _ _ ho, r⟩
theorem CellV.va {g g' : Vw} (k : VA g g') {a : Addr} {v} (x : CellV g a v) : CellV g' a v := let ⟨o, ho, r⟩ := x; ⟨o, k _ _ ho, r⟩

def Acc (env : Env) (g : Vw) (x : Str) (v : Value) : Prop :=
  (env.kindOf x = some .local ∧ ∃ m, NsV g env.locals m ∧ m x = some v) ∨
  ((env.kindOf x = some .cell ∨ env.kindOf x = some .free) ∧ ∃ c, env.cells.lookup x = some c ∧ CellV g c (some v))
theorem Acc.va {env : Env} {g g' : Vw} {x : Str} {v : Value} (k : VA g g') (a : Acc env g x v) : Acc env g' x v := by
  rcases a with ⟨h1, m, h2, h3⟩ | ⟨h1, c, h2, h3⟩
  · exact .inl ⟨h1, m, h2.va k, h3⟩
  · exact .inr ⟨h1, c, h2, h3.va k⟩

def lk (G : List VarE) (x : Str) : Option VarE := G.find? fun e => e.n == x
def Sc (env : Env) (g : Vw) (G : List VarE) : Prop := ∀ x e, lk G x = some e → ∃ v, Acc env g x v ∧ e.T.rel g v e.d
theorem Sc.va {env : Env} {g g' : Vw} {G : List VarE} (k : VA g g') (a : Sc env g G) : Sc env g' G := fun x e he =>
  let ⟨v, h1, h2⟩ := a x e he; ⟨v, h1.va k, e.T.mono k.vk h2⟩

section
variable {M : Model} {A : Around} {X : List Addr} {s : Shared} {env : Env}
theorem ev_name {x : Str} {α : Type} {T : Ty α} {d : α} {pos : Pos} {G : List VarE} (sc : Sc env (vw X s.heap) G) (hm : lk G x = some ⟨x, α, T, d⟩ := by rfl)
    (hk : env.scope.kind = .function := by rfl) (hd : (x == ("__debug__" : Str)) = false := by decide) (hc : (x == ("__classdict__" : Str)) = false := by decide) :
    Ev M A X (eval (.Name x pos) env) T d s := by
  intro s1 k1
  obtain ⟨v, ha, hr⟩ := sc _ _ hm
  have ha' := ha.va (vw_hk (X := X) (kp_hk k1))
  have hr' : T.rel (vw X s1.heap) v d := T.mono (vw_sk (kp_hk k1).sk) hr
  refine wpAny_Name (hd := hd) ?_
  rcases ha' with ⟨h1, m, h2, h3⟩ | ⟨h1 | h1, c, h2, h3⟩
  · exact wpAny_loadName_local hk h1 h2.ns h3 ⟨kp_refl _, hr'⟩
  · exact wpAny_loadName_cell hk h1 h2 h3.cell ⟨kp_refl _, hr'⟩
  · exact wpAny_loadName_free hk h1 h2 h3.cell ⟨kp_refl _, hr'⟩ hc
end

/-- the written part and the top's facts -/
structure Bas (w : World) (h : Heap) : Prop where
  K : (hd.heap_39 w.params).In h
  T : ∃ mean mg mb, Top hd.view_39 (looseW hd.view_39 [Str.ofString "Flags"]) mean mg mb h
theorem Bas.up {w : World} {h h' : Heap} (B : Bas w h) (k : HK h h') : Bas w h' :=
  ⟨B.K.keeps k, let ⟨a, b, c, t⟩ := B.T; ⟨a, b, c, t.keeps k⟩⟩
theorem Bas.lim {w : World} {h : Heap} (B : Bas w h) : h.NoLimit := let ⟨_, _, _, t⟩ := B.T; t.nolimit

def AOk (n : Nat) (A : Around) : Prop := A.handled = none ∧ A.depth + n < recursionLimit ∧ A.units + 10 * n + 20 < cLine
theorem AOk.deeper {n : Nat} {A : Around} (h : AOk (n + 1) A) (env : Env) : AOk n (A.deeper env) := by
  refine ⟨h.1, ?_, ?_⟩
  · have := h.2.1; show A.depth + 1 + n < _; omega
  · have := h.2.2; show A.units + 3 + 10 * n + 20 < _; omega
theorem AOk.le {n m : Nat} {A : Around} (h : AOk n A) (hm : m ≤ n) : AOk m A := by
  refine ⟨h.1, ?_, ?_⟩
  · have := h.2.1; omega
  · have := h.2.2; omega

abbrev PR : Program := PySem.Challenge.rw_wj0003_01.row.prog

def Dts (g : Vw) : List Value → List Dt → Prop
  | [], [] => True
  | v :: vs, d :: ds => d.T.rel g v d.d ∧ Dts g vs ds
  | _, _ => False
theorem Dts.mono {g g' : Vw} (k : VK g g') : ∀ {vs : List Value} {ds : List Dt}, Dts g vs ds → Dts g' vs ds
  | [], [], _ => trivial
  | _ :: _, d :: _, h => ⟨d.T.mono k h.1, Dts.mono k h.2⟩
  | [], _ :: _, h => h.elim
  | _ :: _, [], h => h.elim
theorem Dts.length {g : Vw} : ∀ {vs : List Value} {ds : List Dt}, Dts g vs ds → vs.length = ds.length
  | [], [], _ => rfl
  | _ :: _, _ :: _, h => by simp [Dts.length h.2]
  | [], _ :: _, h => h.elim
  | _ :: _, [], h => h.elim

def EvA (M : Model) (A : Around) (X : List Addr) (args : List Expr) (env : Env) (ds : List Dt) (s : Shared) : Prop :=
  ∀ pos s1, Keeps s s1 → wpAny M A (spliced (backTo pos (starEach args env))) (fun vs s2 => Keeps s1 s2 ∧ Dts (vw X s2.heap) vs ds) NoE s1
section
variable {M : Model} {A : Around} {X : List Addr} {s s' : Shared} {env : Env}
theorem EvA.up {args : List Expr} {ds : List Dt} (h : EvA M A X args env ds s) (k : Keeps s s') : EvA M A X args env ds s' := fun pos s1 k1 => h pos s1 (kp_trans k k1)
theorem eva_nil : EvA M A X [] env [] s := fun pos s1 _ => args_nil ⟨kp_refl _, trivial⟩
theorem eva_cons {α : Type} {T : Ty α} {x : α} {e : Expr} {rest : List Expr} {ds : List Dt} (h1 : Ev M A X (eval e env) T x s) (h2 : EvA M A X rest env ds s)
    (he : starEach (e :: rest) env = (false, eval e env) :: starEach rest env := by rfl) : EvA M A X (e :: rest) env (⟨α, T, x⟩ :: ds) s := by
  intro pos s1 k1
  refine args_cons (he := he) ((h1.up k1).wp fun v s2 k2 r => ?_)
  exact wpAny_mono ((h2.up (kp_trans k1 k2)) pos s2 (kp_refl _)) (fun vs s3 p => ⟨kp_trans k2 p.1, T.mono (vw_sk (kp_hk p.1).sk) r, p.2⟩) (fun _ _ p => p)
end

/-- a def's contract -/
def Fn (w : World) (f : Addr) (n : Nat) (ds : List Dt) (r : Dt) : Prop :=
  ∀ A X s vs, AOk n A → Bas w s.heap → XB X s.heap → Dts (vw X s.heap) vs ds → wpAny (model PR w) A (call (.ref f) vs) (fun v s' => Keeps s s' ∧ r.T.rel (vw X s'.heap) v r.d) NoE s

theorem mg_of {w : World} {h : Heap} {mg : Str → Option Value} (K : (hd.heap_39 w.params).In h) (G : h.Ns mainGlobals mg) {x : Str} {v : Value} {es : Array DictEntry} {n : Nat} {o : Obj}
    (ho : (hd.heap_39 w.params).lookup mainGlobals = some o) (hdo : o.data = .dict es n) (hf : (es.toList.find? (·.key.isStr x)).map (·.val) = some v) : mg x = some v := by
  obtain ⟨o', es', ep, ho', hd', hk, hm⟩ := G
  have e := K _ _ ho
  rw [e] at ho'
  cases ho'
  rw [hdo] at hd'
  cases hd'
  rw [← hm x]
  unfold nsFind findBy
  rw [← Array.find?_toList]
  exact hf

section
variable {w : World} {A : Around} {X : List Addr} {s : Shared} {env : Env}
theorem ev_call {x : Str} {f : Addr} {p pos : Pos} {e : Expr} {rest : List Expr} {n : Nat} {ds : List Dt} {r : Dt} {o o' : Obj} {fd : FuncData} {es : Array DictEntry} {k : Nat}
    (fn : Fn w f n ds r) (B : Bas w s.heap) (xb : XB X s.heap) (hA : AOk n A) (ha : EvA (model PR w) A X (e :: rest) env ds s)
    (ho : (hd.heap_39 w.params).lookup mainGlobals = some o := by rfl) (hdo : o.data = .dict es k := by rfl) (hf : (es.toList.find? (·.key.isStr x)).map (·.val) = some (.ref f) := by rfl)
    (ho' : (hd.heap_39 w.params).lookup f = some o' := by rfl) (hfd : o'.data = .func fd := by rfl)
    (hk : env.scope.kind = .function := by rfl) (hx : env.kindOf x = some .globalImplicit := by rfl) (hg : env.globals = mainGlobals := by rfl)
    (hdb : (x == ("__debug__" : Str)) = false := by decide)
    (hc : eval (.Call (.Name x p) (e :: rest) [] pos) env = (do callWith pos (← eval (.Name x p) env) [] (backTo pos (starEach (e :: rest) env)) (backToKw pos (keywordEach [] env))) := by rfl)
    (he : starEach (e :: rest) env = (false, eval e env) :: starEach rest env := by rfl) :
    Ev (model PR w) A X (eval (.Call (.Name x p) (e :: rest) [] pos) env) r.T r.d s := by
  intro s1 k1
  have B1 := B.up (kp_hk k1)
  obtain ⟨mean, mg, mb, T⟩ := B1.T
  refine Call_ (he := hc) ?_
  refine Name_function_global hk hx (loadGlobal_global (hg ▸ T.g) (mg_of B1.K T.g ho hdo hf) ?_) hdb
  refine callWith_def hfd (wpAny_mono ((ha.up k1) pos s1 (kp_refl _)) (fun vs s2 p => ?_) fun _ _ p => p) he
  refine ⟨B.K.keeps (HK.trans (kp_hk k1) (kp_hk p.1)) _ _ ho', ?_⟩
  exact wpAny_mono (fn A X s2 vs hA (B1.up (kp_hk p.1)) (xb.up (HK.trans (kp_hk k1) (kp_hk p.1))) p.2) (fun v s3 q => ⟨kp_trans p.1 q.1, q.2⟩) fun _ _ q => q
end

/-- the frame of a def (or a comprehension) at work: ow are the frame's own addresses; hrs are heaps whose visible objects, the frame's own apart, still stand -/
structure St (env : Env) (ow X : List Addr) (G : List VarE) (hrs : List Heap) (s0 s : Shared) : Prop where
  kp : Keeps s0 s
  oL : env.locals ∈ ow
  ok : ∀ b ∈ ow, b = env.locals ∨ ∃ n, (n, b) ∈ env.cells
  fr : ∀ b ∈ ow, s0.heap.get? b = none
  ox : ∀ b ∈ ow, b ∉ X
  ns : ∃ m, s.heap.Ns env.locals m
  ce : ∀ n c, (n, c) ∈ env.cells → ∃ v, s.heap.IsCell c v
  cd : env.cells.Pairwise fun x y => x.2 ≠ y.2
  sc : Sc env (vw X s.heap) G
  xb : XB X s.heap
  rf : ∀ h ∈ hrs, ∀ b o, b ∉ X → b ∉ ow → h.get? b = some o → s.heap.get? b = some o

theorem zip_lookup : ∀ (names : List Str) (vs : List Value), names.Nodup → ∀ x v, (x, v) ∈ names.zip vs → (names.zip vs).reverse.lookup x = some v := by
  intro names vs hn x v hm
  have key : ∀ (l : List (Str × Value)), (l.map (·.1)).Nodup → (x, v) ∈ l → l.lookup x = some v := by
    intro l
    induction l with
    | nil => intro _ h; cases h
    | cons p l ih =>
      intro hn hm
      obtain ⟨y, u⟩ := p
      rw [List.map_cons, List.nodup_cons] at hn
      rcases List.mem_cons.mp hm with e | hm
      · cases e; simp
      · have hne : (x == y) = false := by
          rw [beq_eq_false_iff_ne]
          rintro rfl
          exact hn.1 (List.mem_map.mpr ⟨(x, v), by assumption, rfl⟩)
        simp only [List.lookup_cons, hne]
        exact ih hn.2 hm
  refine key _ ?_ (List.mem_reverse.mpr hm)
  rw [List.map_reverse]
  have : ∀ (names : List Str) (vs : List Value), names.Nodup → ((names.zip vs).map (·.1)).Nodup := by
    intro names
    induction names with
    | nil => intro vs _; simp
    | cons a l ih =>
      intro vs hn
      cases vs with
      | nil => simp
      | cons b vs =>
        rw [List.nodup_cons] at hn
        rw [List.zip_cons_cons, List.map_cons, List.nodup_cons]
        refine ⟨fun hm => hn.1 ?_, ih vs hn.2⟩
        obtain ⟨p, hp, rfl⟩ := List.mem_map.mp hm
        exact (List.of_mem_zip hp).1
  exact List.pairwise_reverse.mpr ((this names vs hn).imp fun h => h.symm)

def binG : List Str → List Dt → List VarE
  | x :: xs, d :: ds => ⟨x, d.α, d.T, d.d⟩ :: binG xs ds
  | _, _ => []
theorem binG_mem {g : Vw} : ∀ {xs : List Str} {ds : List Dt} {vs : List Value}, Dts g vs ds → ∀ e ∈ binG xs ds, ∃ v, (e.n, v) ∈ xs.zip vs ∧ e.T.rel g v e.d
  | [], _, _, _, e, he => by unfold binG at he; cases he
  | _ :: _, [], _, _, e, he => by unfold binG at he; cases he
  | x :: xs, d :: ds, [], hd, e, he => hd.elim
  | x :: xs, d :: ds, v :: vs, hd, e, he => by
    unfold binG at he
    rcases List.mem_cons.mp he with rfl | he
    · exact ⟨v, List.mem_cons_self, hd.1⟩
    · obtain ⟨u, hu, hr⟩ := binG_mem hd.2 e he
      exact ⟨u, List.mem_cons_of_mem _ hu, hr⟩

theorem fn_intro {w : World} {f : Addr} {n : Nat} {ds : List Dt} {r : Dt} {o : Obj} {fd : FuncData} {body : List Stmt} (names : List Str)
    (ho : (hd.heap_39 w.params).lookup f = some o) (hfd : o.data = .func fd) (hbody : fd.body = .stmts body) (hcode : codeIn (hd.heap_39 w.params) fd.code fd.qualname = true)
    (hlen : names.length = ds.length)
    (hbind : ∀ vs : List Value, vs.length = ds.length → bindArgs fd ⟨vs, []⟩ = pure (names.zip vs))
    (hnd : names.Nodup) (hloc : ∀ x ∈ names, fd.scope.names.lookup x = some .local) (hcell : ∀ x ∈ fd.scope.names, x.2 ≠ .cell)
    (hcl : fd.closure = []) (hco : fd.scope.isCoroutine = false) (hgen : fd.scope.isGenerator = false) (hk : fd.scope.kind = .function)
    (h : ∀ A X s0 s1, AOk n A → Bas w s0.heap → St (callEnv fd s0.heap.objs.size f) [s0.heap.objs.size] X (binG names ds) [] s0 s1 →
      wpAny (model PR w) A (execs body (callEnv fd s0.heap.objs.size f)) (fun fl s' => ∃ v, fl = .ret v ∧ Keeps s0 s' ∧ r.T.rel (vw X s'.heap) v r.d) NoE s1) :
    Fn w f (n + 1) ds r := by
  intro A X s vs hA B xb hds
  have hvl := hds.length
  refine wpAny_call ?_
  refine codeAny_call_plain (fd := fd) (body := body) (binds := names.zip vs) (by have := hA.2.1; omega) (B.K _ _ ho) hfd B.lim (codeRec_of B.K hcode) hbody (hbind vs hvl) hcell
    (fun x hx => hloc x.1 (List.of_mem_zip hx).1) (fun h₁ hns hk₁ => ?_) hco hgen hk
  have hLX : s.heap.objs.size ∉ X := xb.new (size_none _)
  have hcl' : (callEnv fd s.heap.objs.size f).cells = [] := hcl
  have st : St (callEnv fd s.heap.objs.size f) [s.heap.objs.size] X (binG names ds) [] s { s with heap := h₁, toks := s.toks + (names.zip vs).length } := by
    refine ⟨⟨h₁, _, rfl, hk₁⟩, List.mem_singleton.mpr rfl, fun b hb => .inl (List.mem_singleton.mp hb), fun b hb => by rw [List.mem_singleton.mp hb]; exact size_none _, fun b hb => by rw [List.mem_singleton.mp hb]; exact hLX, ⟨_, hns⟩, fun n c hc => (by rw [hcl'] at hc; cases hc),
      (by rw [hcl']; exact .nil), fun x e he => ?_, xb.up hk₁, fun _ hh => by cases hh⟩
    have hx : e.n = x := by simpa using List.find?_some he
    subst hx
    obtain ⟨v, hv, hr⟩ := binG_mem hds e (List.mem_of_find?_eq_some he)
    refine ⟨v, .inl ⟨?_, _, nsV_of hns hLX, zip_lookup names vs hnd _ _ hv⟩, e.T.mono (vw_sk (HK.sk hk₁)) hr⟩
    exact hloc _ (List.of_mem_zip hv).1
  refine wpAny_mono (h _ _ _ _ (hA.deeper _) B st) (fun fl s' q => ?_) (fun _ _ q => q.elim)
  obtain ⟨v, rfl, k, hr⟩ := q
  exact ⟨k, hr⟩
end Mine

/-! part B2 -/
namespace Mine
open PySem PySem.W PySem.Calls PyProof.Rows
set_option maxRecDepth 100000
set_option linter.unusedVariables false

theorem ns_det {h : Heap} {a : Addr} {m m' : Str → Option Value} (x : h.Ns a m) (y : h.Ns a m') : m = m' := by
  obtain ⟨o, es, ep, ho, hd, hk, hm⟩ := x
  obtain ⟨o', es', ep', ho', hd', hk', hm'⟩ := y
  rw [ho] at ho'; cases ho'
  rw [hd] at hd'; cases hd'
  exact funext fun n => (hm n).symm.trans (hm' n)
theorem ns_cell {h : Heap} {L c : Addr} {m v} (hn : h.Ns L m) (hc : h.IsCell c v) : c ≠ L := by
  rintro rfl
  obtain ⟨o, es, ep, ho, hd, _⟩ := hn
  obtain ⟨o', ho', hd'⟩ := hc
  rw [ho] at ho'; cases ho'
  rw [hd] at hd'; cases hd'
theorem sk_ns {h h' : Heap} {L : Addr} {m} (hn : h.Ns L m) (hs : Heap.SameBut L h h') : SK h h' := by
  obtain ⟨o, es, ep, ho, hd, _⟩ := hn
  rintro b ob eb ⟨xs, n, hb⟩
  have : b ≠ L := by
    rintro rfl
    rw [ho] at eb; cases eb
    rw [hd] at hb; cases hb
  rw [hs.2 b this]; exact eb
theorem sk_cell {h h' : Heap} {L : Addr} {v} (hn : h.IsCell L v) (hs : Heap.SameBut L h h') : SK h h' := by
  obtain ⟨o, ho, hd⟩ := hn
  rintro b ob eb ⟨xs, n, hb⟩
  have : b ≠ L := by
    rintro rfl
    rw [ho] at eb; cases eb
    rw [hd] at hb; cases hb
  rw [hs.2 b this]; exact eb
theorem hk_but {h0 h h' : Heap} {a : Addr} (k : HK h0 h) (hs : Heap.SameBut a h h') (hn : h0.get? a = none) : HK h0 h' := fun b o e => by
  have : b ≠ a := by rintro rfl; rw [hn] at e; cases e
  rw [hs.2 b this]; exact k b o e
theorem kp_but {s0 s : Shared} {h' : Heap} {t : Nat} {a : Addr} (k : Keeps s0 s) (hs : Heap.SameBut a s.heap h') (hn : s0.heap.get? a = none) : Keeps s0 { s with heap := h', toks := t } := by
  obtain ⟨h1, t1, rfl, e1⟩ := k
  exact ⟨h', t, rfl, hk_but e1 hs hn⟩
theorem xb_but {X : List Addr} {h h' : Heap} {a : Addr} (xb : XB X h) (hs : Heap.SameBut a h h') (hn : a ∉ X) : XB X h' := fun x hx => by
  have e : x ≠ a := by rintro rfl; exact hn hx
  obtain ⟨o', e'⟩ := xb x hx
  exact ⟨o', (hs.2 x e).trans e'⟩

theorem lk_cons_eq {e : VarE} {G : List VarE} {x : Str} (h : e.n = x) : lk (e :: G) x = some e := by
  unfold lk
  rw [List.find?_cons_of_pos (by simp [h])]
theorem lk_cons_ne {e : VarE} {G : List VarE} {x : Str} (h : e.n ≠ x) : lk (e :: G) x = lk G x := by
  unfold lk
  rw [List.find?_cons_of_neg (by simp [h])]

/-- what hidden is stays, and what seqs are seen -/
def Stp (X : List Addr) (s s' : Shared) : Prop := (∀ b ∈ X, ∀ o, s.heap.get? b = some o → s'.heap.get? b = some o) ∧ VK (vw X s.heap) (vw X s'.heap)
theorem Stp.rfl' {X : List Addr} {s : Shared} : Stp X s s := ⟨fun _ _ _ e => e, VK.rfl'⟩
theorem Stp.trans {X : List Addr} {s s' s'' : Shared} (k : Stp X s s') (k' : Stp X s' s'') : Stp X s s'' := ⟨fun b hb o e => k'.1 b hb o (k.1 b hb o e), k.2.trans k'.2⟩
theorem stp_kp {X : List Addr} {s s' : Shared} (k : Keeps s s') : Stp X s s' := ⟨fun b _ o e => kp_hk k b o e, (vw_hk (kp_hk k)).vk⟩

section
variable {env : Env} {ow X : List Addr} {G : List VarE} {hrs : List Heap} {s0 s s' : Shared}
theorem St.up (st : St env ow X G hrs s0 s) (k : Keeps s s') : St env ow X G hrs s0 s' :=
  ⟨kp_trans st.kp k, st.oL, st.ok, st.fr, st.ox, let ⟨m, hn⟩ := st.ns; ⟨m, hn.keeps (kp_hk k)⟩, fun n c hc => let ⟨v, h⟩ := st.ce n c hc; ⟨v, h.keeps (kp_hk k)⟩, st.cd, st.sc.va (vw_hk (kp_hk k)), st.xb.up (kp_hk k),
   fun h hh b o h1 h2 e => kp_hk k b o (st.rf h hh b o h1 h2 e)⟩
theorem St.push (st : St env ow X G hrs s0 s) : St env ow X G (s.heap :: hrs) s0 s :=
  ⟨st.kp, st.oL, st.ok, st.fr, st.ox, st.ns, st.ce, st.cd, st.sc, st.xb, fun h hh b o h1 h2 e => by
    rcases List.mem_cons.mp hh with rfl | hh
    · exact e
    · exact st.rf h hh b o h1 h2 e⟩
theorem St.pop {h : Heap} (st : St env ow X G (h :: hrs) s0 s) : St env ow X G hrs s0 s :=
  ⟨st.kp, st.oL, st.ok, st.fr, st.ox, st.ns, st.ce, st.cd, st.sc, st.xb, fun h hh => st.rf h (List.mem_cons_of_mem _ hh)⟩
theorem St.sub {G' : List VarE} (st : St env ow X G hrs s0 s) (hs : ∀ x e, lk G' x = some e → lk G x = some e) : St env ow X G' hrs s0 s :=
  ⟨st.kp, st.oL, st.ok, st.fr, st.ox, st.ns, st.ce, st.cd, fun x e he => st.sc x e (hs x e he), st.xb, st.rf⟩
/-- an object that is neither seen by name nor hidden is turned: an iterator -/
theorem St.iter {I : Addr} {h : Heap} {t : Nat} {o : Obj} {vs : Array Value} (st : St env ow X G hrs s0 s) (ho : s.heap.get? I = some o) (hd : o.data = .fields vs) (hX : I ∉ X)
    (h0 : s0.heap.get? I = none) (hr : ∀ h ∈ hrs, h.get? I = none) (hk : ∀ b o, b ≠ I → s.heap.get? b = some o → h.get? b = some o) :
    St env ow X G hrs s0 { s with heap := h, toks := t } ∧ Stp X s { s with heap := h, toks := t } := by
  have hs : SK s.heap h := fun b ob eb ⟨xs, n, hb⟩ => hk b ob (by rintro rfl; rw [ho] at eb; cases eb; rw [hd] at hb; cases hb) eb
  have hL : ∀ m, s.heap.Ns env.locals m → env.locals ≠ I := fun m ⟨o', es, ep, ho', hd', _⟩ => by rintro e; rw [e, ho] at ho'; cases ho'; rw [hd] at hd'; cases hd'
  have hC : ∀ c v, s.heap.IsCell c v → c ≠ I := fun c v ⟨o', ho', hd'⟩ => by rintro rfl; rw [ho] at ho'; cases ho'; rw [hd] at hd'; cases hd'
  refine ⟨⟨?_, st.oL, st.ok, st.fr, st.ox, ?_, ?_, st.cd, ?_, ?_, ?_⟩, ⟨fun b hb o' e => hk b o' (by rintro rfl; exact hX hb) e, vw_sk hs⟩⟩
  · obtain ⟨h1, t1, rfl, e1⟩ := st.kp
    exact ⟨h, t, rfl, fun b o' e => hk b o' (by rintro rfl; rw [h0] at e; cases e) (e1 b o' e)⟩
  · obtain ⟨m, hn⟩ := st.ns
    exact ⟨m, hn.at' fun o' e => hk _ o' (hL m hn) e⟩
  · intro n c hc
    obtain ⟨v, hv⟩ := st.ce n c hc
    obtain ⟨o', ho', hd'⟩ := id hv
    exact ⟨v, o', hk c o' (hC c v hv) ho', hd'⟩
  · intro x e he
    obtain ⟨v, ha, hr'⟩ := st.sc x e he
    refine ⟨v, ?_, e.T.mono (vw_sk hs) hr'⟩
    rcases ha with ⟨h1, m, h2, h3⟩ | ⟨h1, c, h2, h3⟩
    · exact .inl ⟨h1, m, nsV_of (h2.ns.at' fun o' e => hk _ o' (hL m h2.ns) e) (let ⟨o', _, _, ho', _⟩ := h2; vw_notin ho'), h3⟩
    · obtain ⟨o', ho', hd'⟩ := id h3
      exact .inr ⟨h1, c, h2, o', vw_of (hk c o' (hC c _ h3.cell) (vw_get ho')) (vw_notin ho'), hd'⟩
  · intro x hx
    obtain ⟨o', e⟩ := st.xb x hx
    exact ⟨o', hk x o' (by rintro rfl; exact hX hx) e⟩
  · intro h' hh b o' h1 h2 e
    exact hk b o' (by rintro rfl; rw [hr h' hh] at e; cases e) (st.rf h' hh b o' h1 h2 e)
theorem St.new_ref {I : Addr} (st : St env ow X G hrs s0 s) (hn : s.heap.get? I = none) : s0.heap.get? I = none ∧ I ∉ X ∧ ∀ h ∈ hrs, h.get? I = none := by
  have hX := st.xb.new hn
  refine ⟨?_, hX, fun h hh => ?_⟩
  · cases e : s0.heap.get? I with
    | none => rfl
    | some o => have := kp_hk st.kp I o e; rw [hn] at this; cases this
  · cases e : h.get? I with
    | none => rfl
    | some o =>
      have ho : I ∉ ow := by
        intro hm
        rcases st.ok I hm with rfl | ⟨n, hc⟩
        · obtain ⟨m, o', es, ep, ho', _⟩ := st.ns; rw [hn] at ho'; cases ho'
        · obtain ⟨v, o', ho', _⟩ := st.ce n I hc; rw [hn] at ho'; cases ho'
      have := st.rf h hh I o hX ho e; rw [hn] at this; cases this
end

section
variable {M : Model} {A : Around} {ow X : List Addr} {hrs : List Heap} {s0 s : Shared} {env : Env} {α : Type} {T : Ty α} {d : α} {G : List VarE}

theorem st_store {x : Str} {v : Value} {Q : Unit → Shared → Prop} {E : Value → Shared → Prop} (st : St env ow X G hrs s0 s) (hr : T.rel (vw X s.heap) v d) (hl : env.kindOf x = some .local) (hk : env.scope.kind = .function)
    (k : ∀ s', St env ow X (⟨x, α, T, d⟩ :: G) hrs s0 s' → Stp X s s' → Q () s') : wpAny M A (storeName env x v) Q E s := by
  obtain ⟨m, hns⟩ := st.ns
  have hLX : env.locals ∉ X := st.ox _ st.oL
  refine wpAny_storeName_local hl hns (fun h' hn' hs' => k _ ?_ ?_) (by rw [hk]; rfl)
  · have hsk := sk_ns hns hs'
    have hcell : ∀ c v, s.heap.IsCell c v → h'.IsCell c v := fun c v hc => hc.sameBut hs' (ns_cell hns hc)
    refine ⟨kp_but st.kp hs' (st.fr _ st.oL), st.oL, st.ok, st.fr, st.ox, ⟨_, hn'⟩, fun n c hc => let ⟨v, h⟩ := st.ce n c hc; ⟨v, hcell c v h⟩, st.cd, fun y e he => ?_, xb_but st.xb hs' hLX, ?_⟩
    · by_cases hy : x = y
      · subst hy
        rw [lk_cons_eq rfl] at he
        cases he
        exact ⟨v, .inl ⟨hl, _, nsV_of hn' hLX, by simp⟩, T.mono (vw_sk hsk) hr⟩
      · rw [lk_cons_ne hy] at he
        obtain ⟨u, ha, hr'⟩ := st.sc y e he
        refine ⟨u, ?_, e.T.mono (vw_sk hsk) hr'⟩
        rcases ha with ⟨h1, m1, h2, h3⟩ | ⟨h1, c, h2, h3⟩
        · have := ns_det hns h2.ns
          subst this
          exact .inl ⟨h1, _, nsV_of hn' hLX, by simp [Ne.symm hy, h3]⟩
        · exact .inr ⟨h1, c, h2, cellV_of (hcell _ _ h3.cell) (let ⟨o, ho, _⟩ := h3; vw_notin ho)⟩
    · intro h hh b o h1 h2 e
      have := st.rf h hh b o h1 h2 e
      rw [show ({ s with heap := h', toks := s.toks + 1 } : Shared).heap = h' from rfl, hs'.2 b (fun e => h2 (e ▸ st.oL))]
      exact this
  · refine ⟨fun b hb o e => ?_, vw_sk (sk_ns hns hs')⟩
    rw [show ({ s with heap := h', toks := s.toks + 1 } : Shared).heap = h' from rfl, hs'.2 b (by rintro rfl; exact hLX hb)]
    exact e

theorem st_storeC {x : Str} {c : Addr} {v : Value} {Q : Unit → Shared → Prop} {E : Value → Shared → Prop} (st : St env ow X G hrs s0 s) (hr : T.rel (vw X s.heap) v d) (hl : env.kindOf x = some .cell) (hc : env.cells.lookup x = some c) (own : c ∈ ow) (hk : env.scope.kind = .function)
    (k : ∀ s', St env ow X (⟨x, α, T, d⟩ :: G) hrs s0 s' → Stp X s s' → Q () s') : wpAny M A (storeName env x v) Q E s := by
  have hm := mem_of_lookup hc
  obtain ⟨v0, hc0⟩ := st.ce x c hm
  have hcX : c ∉ X := st.ox _ own
  refine wpAny_storeName_cell hk hl hc hc0 (fun h' hn' hs' => k _ ?_ ?_)
  · have hsk := sk_cell hc0 hs'
    have hcell : ∀ c' v, c' ≠ c → s.heap.IsCell c' v → h'.IsCell c' v := fun c' v hne hc' => hc'.sameBut hs' hne
    have hns' : ∀ m, s.heap.Ns env.locals m → h'.Ns env.locals m := fun m hn => hn.sameBut hs' (Ne.symm (ns_cell hn hc0))
    refine ⟨kp_but st.kp hs' (st.fr _ own), st.oL, st.ok, st.fr, st.ox, let ⟨m, hn⟩ := st.ns; ⟨m, hns' m hn⟩, fun n c' hc' => ?_, st.cd, fun y e he => ?_, xb_but st.xb hs' hcX, ?_⟩
    · by_cases e : c' = c
      · subst e; exact ⟨_, hn'⟩
      · let ⟨v, h⟩ := st.ce n c' hc'; exact ⟨v, hcell c' v e h⟩
    · by_cases hy : x = y
      · subst hy
        rw [lk_cons_eq rfl] at he
        cases he
        exact ⟨v, .inr ⟨.inl hl, c, hc, cellV_of hn' hcX⟩, T.mono (vw_sk hsk) hr⟩
      · rw [lk_cons_ne hy] at he
        obtain ⟨u, ha, hr'⟩ := st.sc y e he
        refine ⟨u, ?_, e.T.mono (vw_sk hsk) hr'⟩
        rcases ha with ⟨h1, m1, h2, h3⟩ | ⟨h1, c', h2, h3⟩
        · exact .inl ⟨h1, _, nsV_of (hns' _ h2.ns) (let ⟨o, _, _, ho, _⟩ := h2; vw_notin ho), h3⟩
        · have hne : c' ≠ c := by
            rintro rfl
            exact hy (name_of_addr st.cd hm (mem_of_lookup h2))
          exact .inr ⟨h1, c', h2, cellV_of (hcell _ _ hne h3.cell) (let ⟨o, ho, _⟩ := h3; vw_notin ho)⟩
    · intro h hh b o h1 h2 e
      have := st.rf h hh b o h1 h2 e
      rw [show ({ s with heap := h' } : Shared).heap = h' from rfl, hs'.2 b (by rintro rfl; exact h2 own)]
      exact this
  · refine ⟨fun b hb o e => ?_, vw_sk (sk_cell hc0 hs')⟩
    rw [show ({ s with heap := h' } : Shared).heap = h' from rfl, hs'.2 b (by rintro rfl; exact hcX hb)]
    exact e

/-- what a def's body is to end in -/
abbrev RQ (s0 : Shared) (X : List Addr) {β : Type} (U : Ty β) (r : β) : Flow → Shared → Prop := fun fl s' => ∃ v, fl = .ret v ∧ Keeps s0 s' ∧ U.rel (vw X s'.heap) v r

theorem st_assign {x : Str} {p pos : Pos} {value : Expr} {rest : List Stmt} {Q : Flow → Shared → Prop} (st : St env ow X G hrs s0 s) (e : Ev M A X (eval value env) T d s)
    (k : ∀ s', St env ow X (⟨x, α, T, d⟩ :: G) hrs s0 s' → Stp X s s' → wpAny M A (execs rest env) Q NoE s')
    (hl : env.kindOf x = some .local := by rfl) (hk : env.scope.kind = .function := by rfl)
    (hs : swapsWith value (some (.Name x p)) pos.line env = pure false := by rfl) :
    wpAny M A (execs (.Assign [.Name x p] value pos :: rest) env) Q NoE s := by
  refine wpAny_execs_cons (wpAny_Assign_Name (hs := hs) (e.wp fun v s1 k1 r => ?_))
  exact st_store (st.up k1) r hl hk fun s' st' t => k s' st' ((stp_kp k1).trans t)

theorem st_aug {β γ : Type} {U : Ty β} {V : Ty γ} {y : β} {z : γ} {x : Str} {p pos : Pos} {op : Operator} {value : Expr} {rest : List Stmt} {Q : Flow → Shared → Prop} (st : St env ow X G hrs s0 s) (e1 : Ev M A X (loadName env x) T d s) (e2 : Ev M A X (eval value env) U y s)
    (hop : ∀ v1 v2 s2, Keeps s s2 → T.rel (vw X s2.heap) v1 d → U.rel (vw X s2.heap) v2 y → wpAny M A (inplaceOp op v1 v2) (fun v s3 => Keeps s2 s3 ∧ V.rel (vw X s3.heap) v z) NoE s2)
    (k : ∀ s', St env ow X (⟨x, γ, V, z⟩ :: G) hrs s0 s' → Stp X s s' → wpAny M A (execs rest env) Q NoE s')
    (hl : env.kindOf x = some .local := by rfl) (hk : env.scope.kind = .function := by rfl) :
    wpAny M A (execs (.AugAssign (.Name x p) op value pos :: rest) env) Q NoE s := by
  refine wpAny_execs_cons (wpAny_AugAssign_Name (e1.wp fun v1 s1 k1 r1 => (e2.up k1).wp fun v2 s2 k2 r2 => ?_))
  refine wpAny_mono (hop v1 v2 s2 (kp_trans k1 k2) (T.mono (vw_sk (kp_hk k2).sk) r1) r2) (fun v s3 p => ?_) (fun _ _ p => p)
  have k3 := kp_trans k1 (kp_trans k2 p.1)
  exact st_store (st.up k3) p.2 hl hk fun s' st' t => k s' st' ((stp_kp k3).trans t)

theorem ev_load {x : Str} {G : List VarE} (sc : Sc env (vw X s.heap) G) (hm : lk G x = some ⟨x, α, T, d⟩ := by rfl)
    (hk : env.scope.kind = .function := by rfl) (hc : (x == ("__classdict__" : Str)) = false := by decide) :
    Ev M A X (loadName env x) T d s := by
  intro s1 k1
  obtain ⟨v, ha, hr⟩ := sc _ _ hm
  have ha' := ha.va (vw_hk (X := X) (kp_hk k1))
  have hr' : T.rel (vw X s1.heap) v d := T.mono (vw_sk (kp_hk k1).sk) hr
  rcases ha' with ⟨h1, m, h2, h3⟩ | ⟨h1 | h1, c, h2, h3⟩
  · exact wpAny_loadName_local hk h1 h2.ns h3 ⟨kp_refl _, hr'⟩
  · exact wpAny_loadName_cell hk h1 h2 h3.cell ⟨kp_refl _, hr'⟩
  · exact wpAny_loadName_free hk h1 h2 h3.cell ⟨kp_refl _, hr'⟩ hc

theorem st_ret {rest : List Stmt} {e : Expr} {pos : Pos} (st : St env ow X G hrs s0 s) (ev : Ev M A X (eval e env) T d s) : wpAny M A (execs (.Return (some e) pos :: rest) env) (RQ s0 X T d) NoE s := by
  refine wpAny_execs_cons (wpAny_Return_some (ev.wp fun v s1 k1 r => ?_))
  exact ⟨v, rfl, kp_trans st.kp k1, r⟩

/-- flow: go on with the rest, or end -/
abbrev Thn (M : Model) (A : Around) (rest : List Stmt) (env : Env) (Q : Flow → Shared → Prop) : Flow → Shared → Prop := fun f s' => match f with | .next => wpAny M A (execs rest env) Q NoE s' | f => Q f s'

theorem st_if {test : Expr} {body orelse rest : List Stmt} {pos : Pos} {b : Bool} {Q : Flow → Shared → Prop} (hb : Bv M A (isTrue test env (eval test env)) b s)
    (ht : b = true → ∀ s1, Keeps s s1 → wpAny M A (execs body env) (Thn M A rest env Q) NoE s1)
    (hf : b = false → ∀ s1, Keeps s s1 → wpAny M A (execs orelse env) (Thn M A rest env Q) NoE s1) :
    wpAny M A (execs (.If test body orelse pos :: rest) env) Q NoE s := by
  refine wpAny_execs_cons (wpAny_If (hb.wp fun s1 k1 => ?_))
  cases b with
  | true => simp only [if_true]; exact ht rfl s1 k1
  | false => simp only [Bool.false_eq_true, if_false]; exact hf rfl s1 k1
theorem st_nil {Q : Flow → Shared → Prop} (h : Q .next s) : wpAny M A (execs [] env) Q NoE s := wpAny_execs_nil h

theorem st_ret' {rest : List Stmt} {e : Expr} {pos : Pos} {Q : Flow → Shared → Prop} (ev : Ev M A X (eval e env) T d s) (k : ∀ v s1, Keeps s s1 → T.rel (vw X s1.heap) v d → Q (.ret v) s1) : wpAny M A (execs (.Return (some e) pos :: rest) env) Q NoE s :=
  wpAny_execs_cons (wpAny_Return_some (ev.wp fun v s1 k1 r => k v s1 k1 r))
end
end Mine

/-! part B3 -/
namespace Mine
open PySem PySem.W PySem.Calls PyProof.Rows
set_option maxRecDepth 100000
set_option linter.unusedVariables false

theorem mg_none {w : World} {h : Heap} {mg : Str → Option Value} (K : (hd.heap_39 w.params).In h) (G : h.Ns mainGlobals mg) {x : Str} {es : Array DictEntry} {n : Nat} {o : Obj}
    (ho : (hd.heap_39 w.params).lookup mainGlobals = some o) (hdo : o.data = .dict es n) (hf : (es.toList.find? (·.key.isStr x)).isNone = true) : mg x = none := by
  obtain ⟨o', es', ep', ho', hd', hk, hm⟩ := G
  have e := K _ _ ho
  rw [e] at ho'
  cases ho'
  rw [hdo] at hd'
  cases hd'
  rw [← hm x]
  unfold nsFind findBy
  rw [← Array.find?_toList, Option.isNone_iff_eq_none.mp hf]
  rfl

section
variable {w : World} {A : Around} {X : List Addr} {s : Shared} {env : Env}
/-- a built-in function or class of one name -/
theorem ev_callb {α : Type} {T : Ty α} {d : α} {x : Str} {id : String} {p pos : Pos} {e : Expr} {rest : List Expr} {ds : List Dt} {o : Obj} {es : Array DictEntry} {k : Nat}
    (hb : bootBuiltins x = some (.builtin id)) (B : Bas w s.heap) (ha : EvA (model PR w) A X (e :: rest) env ds s)
    (hcall : ∀ vs s2, Keeps s s2 → Dts (vw X s2.heap) vs ds → wpAny (model PR w) A (call (.builtin id) vs) (fun v s3 => Keeps s2 s3 ∧ T.rel (vw X s3.heap) v d) NoE s2)
    (ho : (hd.heap_39 w.params).lookup mainGlobals = some o := by rfl) (hdo : o.data = .dict es k := by rfl) (hf : (es.toList.find? (·.key.isStr x)).isNone = true := by rfl) (hn : x ≠ "__name__" := by decide)
    (hk : env.scope.kind = .function := by rfl) (hx : env.kindOf x = some .globalImplicit := by rfl) (hg : env.globals = mainGlobals := by rfl) (hbn : env.builtins = builtinsNs := by rfl)
    (hdb : (x == ("__debug__" : Str)) = false := by decide)
    (hc : eval (.Call (.Name x p) (e :: rest) [] pos) env = (do callWith pos (← eval (.Name x p) env) [] (backTo pos (starEach (e :: rest) env)) (backToKw pos (keywordEach [] env))) := by rfl)
    (he : starEach (e :: rest) env = (false, eval e env) :: starEach rest env := by rfl) (hplain : (backTo pos (starEach rest env)).any (·.1) = false := by rfl) :
    Ev (model PR w) A X (eval (.Call (.Name x p) (e :: rest) [] pos) env) T d s := by
  intro s1 k1
  have B1 := B.up (kp_hk k1)
  obtain ⟨mean, mg, mb, T1⟩ := B1.T
  refine Call_ (he := hc) ?_
  refine Name_function_global hk hx (loadGlobal_builtin (hg ▸ T1.g) (mg_none B1.K T1.g ho hdo hf) (hbn ▸ T1.b) ((T1.builtins x hn).trans hb) ?_) hdb
  refine PyProof.Rows.callWith_builtin1 (wpAny_mono ((ha.up k1) pos s1 (kp_refl _)) (fun vs s2 p => ?_) fun _ _ p => p) he hplain
  exact wpAny_mono (hcall vs s2 (kp_trans k1 p.1) p.2) (fun v s3 q => ⟨kp_trans p.1 q.1, q.2⟩) fun _ _ q => q
theorem wp_callt {Q : Value → Shared → Prop} {x : Str} {id : String} {p pos : Pos} {e : Expr} {rest : List Expr} {ds : List Dt} {o : Obj} {es : Array DictEntry} {k : Nat}
    (hb : bootBuiltins x = some (.type id)) (B : Bas w s.heap) (ha : EvA (model PR w) A X (e :: rest) env ds s)
    (hcall : ∀ vs s2, Keeps s s2 → Dts (vw X s2.heap) vs ds → wpAny (model PR w) A (call (.type id) vs) Q NoE s2)
    (ho : (hd.heap_39 w.params).lookup mainGlobals = some o := by rfl) (hdo : o.data = .dict es k := by rfl) (hf : (es.toList.find? (·.key.isStr x)).isNone = true := by rfl) (hn : x ≠ "__name__" := by decide)
    (hk : env.scope.kind = .function := by rfl) (hx : env.kindOf x = some .globalImplicit := by rfl) (hg : env.globals = mainGlobals := by rfl) (hbn : env.builtins = builtinsNs := by rfl)
    (hdb : (x == ("__debug__" : Str)) = false := by decide)
    (hc : eval (.Call (.Name x p) (e :: rest) [] pos) env = (do callWith pos (← eval (.Name x p) env) [] (backTo pos (starEach (e :: rest) env)) (backToKw pos (keywordEach [] env))) := by rfl)
    (he : starEach (e :: rest) env = (false, eval e env) :: starEach rest env := by rfl) (hplain : (backTo pos (starEach rest env)).any (·.1) = false := by rfl) :
    wpAny (model PR w) A (eval (.Call (.Name x p) (e :: rest) [] pos) env) Q NoE s := by
  obtain ⟨mean, mg, mb, T1⟩ := B.T
  refine Call_ (he := hc) ?_
  refine Name_function_global hk hx (loadGlobal_builtin (hg ▸ T1.g) (mg_none B.K T1.g ho hdo hf) (hbn ▸ T1.b) ((T1.builtins x hn).trans hb) ?_) hdb
  refine PyProof.Rows.callWith_type1 (wpAny_mono (ha pos s (kp_refl _)) (fun vs s2 p => ?_) fun _ _ p => p) he hplain
  exact hcall vs s2 p.1 p.2
end

theorem paired_get {α β : Type} {F : α → β → Prop} : ∀ {l : List α} {m : List β} (_ : Paired F l m) (i : Nat) (y : β), m[i]? = some y → ∃ x, l[i]? = some x ∧ F x y
  | _, _, .nil, i, y, e => by simp at e
  | _, _, .cons h t, 0, y, e => by simp at e; subst e; exact ⟨_, rfl, h⟩
  | _, _, .cons h t, i + 1, y, e => by simpa using paired_get t i y (by simpa using e)
theorem paired_fst {α β : Type} {F : α → β → Prop} : ∀ {l : List α} {m : List β} (_ : Paired F l m) (i : Nat) (x : α), l[i]? = some x → ∃ y, m[i]? = some y ∧ F x y
  | _, _, .nil, i, y, e => by simp at e
  | _, _, .cons h t, 0, y, e => by simp at e; subst e; exact ⟨_, rfl, h⟩
  | _, _, .cons h t, i + 1, y, e => by simpa using paired_fst t i y (by simpa using e)
theorem dts_paired {α : Type} {T : Ty α} {g : Vw} : ∀ {vs : List Value} {xs : List α}, Dts g vs (xs.map fun x => (⟨α, T, x⟩ : Dt)) → Paired (T.rel g) vs xs
  | [], [], _ => .nil
  | _ :: _, _ :: _, h => .cons h.1 (dts_paired h.2)
  | [], _ :: _, h => h.elim
  | _ :: _, [], h => h.elim
theorem ints_of {g : Vw} : ∀ {vs : List Value} {ns : List Int}, Paired (tInt.rel g) vs ns → IntsAre vs ns
  | _, _, .nil => .nil
  | _, _, .cons ⟨t, e⟩ r => by subst e; exact .cons _ t (ints_of r)
theorem of_ints {g : Vw} : ∀ {vs : List Value} {ns : List Int}, IntsAre vs ns → Paired (tInt.rel g) vs ns
  | _, _, .nil => .nil
  | _, _, .cons n t r => .cons ⟨t, rfl⟩ (of_ints r)

theorem push_lst {X : List Addr} {h : Heap} (c : String) (xb : XB X h) (vs : List Value) : LstV c (vw X (h.push { cls := .type c, data := .seq vs.toArray })) h.objs.size vs :=
  ⟨_, vw_of (Heap.get?_push_size _ rfl) (xb.new (size_none _)), rfl, _, rfl⟩

section
variable {α β : Type} {prog : Program} {w : World} {A : Around} {X : List Addr} {s : Shared} {env : Env} {T : Ty α} {U : Ty β} {pos : Pos} {value slice : Expr}
theorem ev_list {xs : List α} {ds : List Dt} {elts : List Expr} (xb : XB X s.heap) (h : EvA (model prog w) A X elts env ds s) (hds : ds = xs.map (fun x => (⟨α, T, x⟩ : Dt)) := by rfl) (hsz : xs.length ≤ 100 := by decide) :
    Ev (model prog w) A X (eval (.List elts pos) env) (tList T) xs s := by
  intro s1 k1
  refine List_ (wpAny_mono ((h.up k1) pos s1 (kp_refl _)) (fun vs s2 p => ?_) fun _ _ p => p)
  have hp := dts_paired (hds ▸ p.2)
  have hl := hp.length
  refine wpAny_newObj_type ?_ (by show vs.toArray.size ≤ sizeLine; rw [List.size_toArray, sizeLine_eq]; omega)
  exact ⟨kp_trans p.1 (kp_push _ _), _, vs, rfl, push_lst "list" (xb.up (HK.trans (kp_hk k1) (kp_hk p.1))) vs, paired_imp (fun _ _ r => T.mono (vw_hk (kp_hk (kp_push s2 _))).vk r) hp⟩
theorem ev_pair {e1 e2 : Expr} {k : Nat} {x : α} {y : β} (xb : XB X s.heap) (h1 : Ev (model prog w) A X (eval e1 env) T x s) (h2 : Ev (model prog w) A X (eval e2 env) U y s)
    (he : starEach [e1, e2] env = (false, eval e1 env) :: starEach [e2] env := by rfl) (he' : starEach [e2] env = (false, eval e2 env) :: starEach [] env := by rfl) :
    Ev (model prog w) A X (eval (.Tuple [e1, e2] k pos) env) (tPair T U) (x, y) s := by
  intro s1 k1
  refine Tuple_ (wpAny_mono (((eva_cons h1 (eva_cons h2 eva_nil he') he).up k1) pos s1 (kp_refl _)) (fun vs s2 p => ?_) fun _ _ p => p)
  obtain ⟨p1, p2⟩ := p
  match vs, p2 with
  | [v1, v2], p2 =>
    refine wpAny_newObj_type ?_ (by show [v1, v2].toArray.size ≤ sizeLine; rw [List.size_toArray, sizeLine_eq]; show 2 ≤ _; decide)
    have hv := (vw_hk (X := X) (kp_hk (kp_push s2 { cls := .type "tuple", data := .seq [v1, v2].toArray }))).vk
    exact ⟨kp_trans p1 (kp_push _ _), _, v1, v2, rfl, push_lst "tuple" (xb.up (HK.trans (kp_hk k1) (kp_hk p1))) [v1, v2], T.mono hv p2.1, U.mono hv p2.2.1⟩

abbrev SubOk (slice : Expr) : Prop := ∀ a i u, subscripted slice false (.ref a) (.int i u) = operate [.ref a, .int i u] (getItem (.ref a) (.int i u))
theorem ev_item {xs : List α} {k : Int} {x : α} (e1 : Ev (model prog w) A X (eval value env) (tList T) xs s) (e2 : Ev (model prog w) A X (eval slice env) tInt k s) (h0 : 0 ≤ k) (hfit : k < 2 ^ 63) (hx : xs[k.toNat]? = some x)
    (hs : SubOk slice := by intro _ _ _; with_unfolding_all rfl) : Ev (model prog w) A X (eval (.Subscript value slice pos) env) T x s := by
  intro s1 k1
  refine Subscript_ ((e1.up k1).wp fun v1 s2 k2 r1 => (e2.up (kp_trans k1 k2)).wp fun v2 s3 k3 r2 => ?_)
  obtain ⟨a, vs, rfl, hl, hp⟩ := (tList T).mono (vw_hk (kp_hk k3)).vk r1
  obtain ⟨t, rfl⟩ := r2
  obtain ⟨v, hv, hr⟩ := paired_get hp _ _ hx
  exact tail_any hl.list.typeIs slot_list_getitem.lookup (wpAny_getItem_list hl.list h0 hfit (by simpa using hv) ⟨kp_trans k2 k3, hr⟩) (hs _ _ _)
theorem ev_fst {p : α × β} {t : Tok} (e1 : Ev (model prog w) A X (eval value env) (tPair T U) p s) (e2 : Ev (model prog w) A X (eval slice env) tInt 0 s)
    (hs : SubOk slice := by intro _ _ _; with_unfolding_all rfl) : Ev (model prog w) A X (eval (.Subscript value slice pos) env) T p.1 s := by
  intro s1 k1
  refine Subscript_ ((e1.up k1).wp fun v1 s2 k2 r1 => (e2.up (kp_trans k1 k2)).wp fun v2 s3 k3 r2 => ?_)
  obtain ⟨a, v1, v2, rfl, hl, hp, hq⟩ := (tPair T U).mono (vw_hk (kp_hk k3)).vk r1
  obtain ⟨t, rfl⟩ := r2
  exact item_tupleT hl.tup (by decide) (by decide) (j := 0) rfl rfl ⟨kp_trans k2 k3, hp⟩ (hs _ _ _)
theorem ev_snd {p : α × β} {t : Tok} (e1 : Ev (model prog w) A X (eval value env) (tPair T U) p s) (e2 : Ev (model prog w) A X (eval slice env) tInt 1 s)
    (hs : SubOk slice := by intro _ _ _; with_unfolding_all rfl) : Ev (model prog w) A X (eval (.Subscript value slice pos) env) U p.2 s := by
  intro s1 k1
  refine Subscript_ ((e1.up k1).wp fun v1 s2 k2 r1 => (e2.up (kp_trans k1 k2)).wp fun v2 s3 k3 r2 => ?_)
  obtain ⟨a, v1, v2, rfl, hl, hp, hq⟩ := (tPair T U).mono (vw_hk (kp_hk k3)).vk r1
  obtain ⟨t, rfl⟩ := r2
  exact item_tupleT hl.tup (by decide) (by decide) (j := 1) rfl rfl ⟨kp_trans k2 k3, hq⟩ (hs _ _ _)

def EvP (M : Model) (A : Around) (part : Option Expr) (env : Env) (k : Option Int) (s : Shared) : Prop := ∀ s1, Keeps s s1 → wpAny M A (evalPart part env) (fun v s2 => Keeps s1 s2 ∧ IsPart v k) NoE s1
theorem EvP.up {M : Model} {part : Option Expr} {k : Option Int} {s' : Shared} (h : EvP M A part env k s) (k' : Keeps s s') : EvP M A part env k s' := fun s1 k1 => h s1 (kp_trans k' k1)
theorem evp_none {M : Model} : EvP M A none env none s := fun s1 _ => wpAny_evalPart_none ⟨kp_refl _, .none⟩
theorem evp_some {M : Model} {e : Expr} {k : Int} (h : Ev M A X (eval e env) tInt k s) : EvP M A (some e) env (some k) s := fun s1 k1 =>
  wpAny_evalPart_some ((h.up k1).wp fun v s2 k2 r => by obtain ⟨t, rfl⟩ := r; exact ⟨k2, .int _ _⟩)

theorem pick_len (ns : List Int) (lo hi st : Option Int) : (pickNums ns lo hi st).length ≤ ns.length := by
  have hi' : ∃ vs, IntsAre vs ns := by
    clear lo hi st
    induction ns with
    | nil => exact ⟨[], .nil⟩
    | cons n ns ih => obtain ⟨vs, h⟩ := ih; exact ⟨_, .cons n 0 h⟩
  obtain ⟨vs, h⟩ := hi'
  have h1 := (h.pick lo hi st).length
  have h2 := slicePick_size_le vs.toArray lo hi st
  rw [Array.length_toList] at h1
  have h3 : vs.toArray.size = vs.length := by simp
  rw [h3, h.length] at h2
  omega

theorem sl_end {ns : List Int} {lo hi st : Option Int} {vl vu vt : Value} {v1 : Value} {s2 : Shared} (xb : XB X s2.heap) (hn : ns.length ≤ 100) (h0 : st ≠ some 0) (r : (tList tInt).rel (vw X s2.heap) v1 ns) (pl : IsPart vl lo) (pu : IsPart vu hi) (pt : IsPart vt st) :
    let s3 : Shared := { s2 with heap := s2.heap.push { cls := .type "slice", data := .fields #[vl, vu, vt] } }
    s3.TypeIs v1 "list" ∧ wpAny (model prog w) A (getItem v1 (.ref s2.heap.objs.size)) (fun v s4 => Keeps s2 s4 ∧ (tList tInt).rel (vw X s4.heap) v (pickNums ns lo hi st)) NoE s3 := by
  intro s3
  have k3 : Keeps s2 s3 := kp_push _ _
  obtain ⟨a, vs, rfl, hl, hp⟩ := (tList tInt).mono (vw_hk (kp_hk k3)).vk r
  refine ⟨hl.list.typeIs, ?_⟩
  have hii := ints_of hp
  have hlen := hii.length
  refine wpAny_getItem_list_slice hl.list (Heap.IsSliceOf.new ..) pl pu pt h0 ?_ (by rw [List.size_toArray, sizeLine_eq]; omega)
  have e : slicePick vs.toArray lo hi st = (slicePick vs.toArray lo hi st).toList.toArray := by simp
  refine ⟨kp_trans k3 (kp_push _ _), _, (slicePick vs.toArray lo hi st).toList, rfl, ?_, of_ints (hii.pick lo hi st)⟩
  rw [e]
  exact push_lst "list" (xb.up (kp_hk k3)) _

theorem ev_slice2 {ns : List Int} {lo hi : Option Int} {lower upper : Option Expr} {p : Pos} (xb : XB X s.heap) (hn : ns.length ≤ 100)
    (e : Ev (model prog w) A X (eval value env) (tList tInt) ns s) (el : EvP (model prog w) A lower env lo s) (eu : EvP (model prog w) A upper env hi s)
    (ht : ∀ o r, letTemporaryGo value o r = pure () := by intro _ _; rfl) :
    Ev (model prog w) A X (eval (.Subscript value (.Slice lower upper none p) pos) env) (tList tInt) (pickNums ns lo hi none) s := by
  intro s1 k1
  refine wpAny_Subscript_Slice (T := "list") list_getitem_lookup ((e.up k1).wp fun v1 s2 k2 r1 => ?_) ht
  have k12 := kp_trans k1 k2
  refine wpAny_Slice (wpAny_mono ((el.up k12) s2 (kp_refl _)) (fun vl s3 p3 => wpAny_mono ((eu.up (kp_trans k12 p3.1)) s3 (kp_refl _)) (fun vu s4 p4 => wpAny_evalPart_none ?_) fun _ _ q => q) fun _ _ q => q)
  have k14 := kp_trans p3.1 p4.1
  have := sl_end (w := w) (prog := prog) (A := A) (X := X) (xb.up (HK.trans (kp_hk k12) (kp_hk k14))) hn (by simp) ((tList tInt).mono (vw_hk (kp_hk k14)).vk r1) p3.2 p4.2 .none
  refine ⟨this.1, wpAny_mono this.2 (fun v s5 q => ⟨kp_trans k2 (kp_trans k14 q.1), q.2⟩) fun _ _ q => q⟩
theorem ev_slice3 {ns : List Int} {lo hi st : Option Int} {lower upper : Option Expr} {step : Expr} {p : Pos} (xb : XB X s.heap) (hn : ns.length ≤ 100) (h0 : st ≠ some 0)
    (e : Ev (model prog w) A X (eval value env) (tList tInt) ns s) (el : EvP (model prog w) A lower env lo s) (eu : EvP (model prog w) A upper env hi s) (et : EvP (model prog w) A (some step) env st s)
    (ht : ∀ o r, letTemporaryGo value o r = pure () := by intro _ _; rfl) :
    Ev (model prog w) A X (eval (.Subscript value (.Slice lower upper (some step) p) pos) env) (tList tInt) (pickNums ns lo hi st) s := by
  intro s1 k1
  refine wpAny_Subscript_Slice_step (T := "list") list_getitem_lookup ((e.up k1).wp fun v1 s2 k2 r1 => ?_) ht
  have k12 := kp_trans k1 k2
  refine wpAny_Slice (wpAny_mono ((el.up k12) s2 (kp_refl _)) (fun vl s3 p3 => wpAny_mono ((eu.up (kp_trans k12 p3.1)) s3 (kp_refl _)) (fun vu s4 p4 =>
    wpAny_mono ((et.up (kp_trans k12 (kp_trans p3.1 p4.1))) s4 (kp_refl _)) (fun vt s5 p5 => ?_) fun _ _ q => q) fun _ _ q => q) fun _ _ q => q)
  have k15 := kp_trans p3.1 (kp_trans p4.1 p5.1)
  have := sl_end (w := w) (prog := prog) (A := A) (X := X) (xb.up (HK.trans (kp_hk k12) (kp_hk k15))) hn h0 ((tList tInt).mono (vw_hk (kp_hk k15)).vk r1) p3.2 p4.2 p5.2
  refine ⟨this.1, wpAny_mono this.2 (fun v s6 q => ⟨kp_trans k2 (kp_trans k15 q.1), q.2⟩) fun _ _ q => q⟩
end

section
variable {α : Type} {T : Ty α} {w : World} {A : Around} {X : List Addr} {s : Shared} {env : Env} {p pos : Pos} {e : Expr}
theorem dts1 {g : Vw} {vs : List Value} {d : Dt} (h : Dts g vs [d]) : ∃ v, vs = [v] ∧ d.T.rel g v d.d := by
  match vs, h with
  | [v], h => exact ⟨v, rfl, h.1⟩
theorem ev_len {xs : List α} (B : Bas w s.heap) (hn : xs.length ≤ 100) (h : Ev (model PR w) A X (eval e env) (tList T) xs s)
    (hk : env.scope.kind = .function := by rfl) (hx : env.kindOf "len" = some .globalImplicit := by rfl) (hg : env.globals = mainGlobals := by rfl) (hbn : env.builtins = builtinsNs := by rfl)
    (hc : eval (.Call (.Name "len" p) [e] [] pos) env = (do callWith pos (← eval (.Name "len" p) env) [] (backTo pos (starEach [e] env)) (backToKw pos (keywordEach [] env))) := by rfl)
    (he : starEach [e] env = (false, eval e env) :: starEach [] env := by rfl) :
    Ev (model PR w) A X (eval (.Call (.Name "len" p) [e] [] pos) env) tInt xs.length s := by
  refine ev_callb boot_len B (eva_cons h eva_nil he) (fun vs s2 k2 hd => ?_) (hk := hk) (hx := hx) (hg := hg) (hbn := hbn) (hc := hc) (he := he)
  obtain ⟨v, rfl, a, us, rfl, hl, hp⟩ := dts1 hd
  have hlen := hp.length
  have e1 : (us.toArray.size : Int) = (xs.length : Int) := by simp [hlen]
  refine Calls.call_len_list hl.list (by rw [e1]; omega) ?_
  rw [e1]
  exact ⟨⟨_, _, rfl, fun _ _ e => e⟩, _, rfl⟩

theorem presum (ns : List Int) : ∀ n, n ≤ ns.length → preSum (fun i => ns.getD i 0) n = (ns.take n).sum := by
  intro n
  induction n with
  | zero => intro _; rfl
  | succ n ih =>
    intro hn
    rw [preSum, ih (by omega), List.take_add_one, List.getElem?_eq_getElem (by omega), List.sum_append]
    simp [List.getD_eq_getElem?_getD, List.getElem?_eq_getElem (show n < ns.length by omega)]

/-- the ints are small -/
def Small (ns : List Int) : Prop := ns.length ≤ 100 ∧ ∀ n ∈ ns, 0 ≤ n ∧ n < 2 ^ 32
theorem small_take {ns : List Int} (h : Small ns) (n : Nat) : 0 ≤ (ns.take n).sum ∧ (ns.take n).sum ≤ (ns.take n).length * 2 ^ 32 := by
  have : ∀ l : List Int, (∀ n ∈ l, 0 ≤ n ∧ n < 2 ^ 32) → 0 ≤ l.sum ∧ l.sum ≤ l.length * 2 ^ 32 := by
    intro l
    induction l with
    | nil => intro _; simp
    | cons a l ih =>
      intro hl
      have h1 := hl a List.mem_cons_self
      have h2 := ih fun n hn => hl n (List.mem_cons_of_mem _ hn)
      rw [List.sum_cons, List.length_cons]
      omega
  exact this _ fun n hn => h.2 n (List.mem_of_mem_take hn)

theorem ev_sum {ns : List Int} (hA : A.handled = none) (B : Bas w s.heap) (hs : Small ns) (h : Ev (model PR w) A X (eval e env) (tList tInt) ns s)
    (hk : env.scope.kind = .function := by rfl) (hx : env.kindOf "sum" = some .globalImplicit := by rfl) (hg : env.globals = mainGlobals := by rfl) (hbn : env.builtins = builtinsNs := by rfl)
    (hc : eval (.Call (.Name "sum" p) [e] [] pos) env = (do callWith pos (← eval (.Name "sum" p) env) [] (backTo pos (starEach [e] env)) (backToKw pos (keywordEach [] env))) := by rfl)
    (he : starEach [e] env = (false, eval e env) :: starEach [] env := by rfl) :
    Ev (model PR w) A X (eval (.Call (.Name "sum" p) [e] [] pos) env) tInt ns.sum s := by
  refine ev_callb boot_sum B (eva_cons h eva_nil he) (fun vs s2 k2 hd => ?_) (hk := hk) (hx := hx) (hg := hg) (hbn := hbn) (hc := hc) (he := he)
  obtain ⟨v, rfl, a, us, rfl, hl, hp⟩ := dts1 hd
  have hlen := hp.length
  have hne : a ≠ s2.heap.objs.size := by obtain ⟨o, ho, _⟩ := hl.list; exact Nat.ne_of_lt (Heap.lt_size ho)
  have hsz : us.toArray.size = ns.length := by simp [hlen]
  refine call_sum_walk (wpAny_pyIter_list hl.list ?_)
  refine ⟨_, _, _, _, _, _, fun i => ns.getD i 0, rfl, Walks.list (A := A.in1) hA s2.heap.objs.size a hne us.toArray, ⟨⟨_, Heap.get?_push_size _ rfl, rfl, rfl⟩, hl.list.push _⟩, ?_, ?_, ?_, ?_⟩
  · intro b hb
    rw [Heap.size_push]
    rcases List.mem_cons.mp hb with rfl | hb
    · exact Nat.lt_succ_self _
    · rw [List.mem_singleton.mp hb]
      obtain ⟨o, ho, _⟩ := hl.list
      exact Nat.lt_succ_of_lt (Heap.lt_size ho)
  · intro i v hv
    obtain ⟨n, hn, t, ht⟩ := paired_fst hp i v (by simpa using hv)
    have hn' : ns[i]? = some n := hn
    refine ⟨t, ?_⟩
    show v = Value.int (ns.getD i 0) t
    rw [ht, List.getD_eq_getElem?_getD, hn']; rfl
  · intro j hj
    rw [hsz] at hj
    have h1 := hs.2 (ns[j]'hj) (List.getElem_mem hj)
    have h2 := small_take hs (j + 1)
    have h3 := hs.1
    have h4 : (ns.take (j + 1)).length ≤ ns.length := by rw [List.length_take]; omega
    have h5 : ns.getD j 0 = ns[j]'hj := by rw [List.getD_eq_getElem?_getD, List.getElem?_eq_getElem hj]; rfl
    show InLong (ns.getD j 0) ∧ InLong (preSum (fun i => ns.getD i 0) (j + 1))
    rw [h5, presum ns (j + 1) (by omega)]
    unfold InLong
    omega
  · intro h' tk t' hk'
    have hsum : preSum (fun i => ns.getD i 0) us.toArray.size = ns.sum := by rw [hsz, presum ns _ (Nat.le_refl _), List.take_length]
    rw [hsum]
    refine ⟨⟨h', tk, rfl, fun b o e => ?_⟩, _, rfl⟩
    exact hk' b o (by simp; exact Nat.ne_of_lt (Heap.lt_size e)) (Heap.get?_push_of_some _ e)
end
end Mine

/-! part B4 -/
namespace Mine
open PySem PySem.W PySem.Calls PyProof.Rows
set_option maxRecDepth 100000
set_option linter.unusedVariables false

def ownsTup (c : String) : Bool := ["enumerate", "zip", "dict_itemiterator", "dict_reverseitemiterator", "odict_iterator", "itertools.zip_longest", "itertools.pairwise"].contains c
/-- I walks over what stands for xs; h1: the heap ahead of the iterator -/
structure ItOk {α : Type} (w : World) (A : Around) (T : Ty α) (xs : List α) (X : List Addr) (h1 h : Heap) (I : Addr) : Prop where
  ex : ∃ fp P St, Walks PR w A I fp [I] xs.length P St ∧ St 0 h ∧ (∀ b ∈ fp, b = I ∨ ∃ o, vw X h1 b = some o ∧ ∃ ys n, o.data = .seq ys n) ∧
    (∀ i h', St i h' → ∃ o vs c, h'.get? I = some o ∧ o.data = .fields vs ∧ o.cls = .type c ∧ ownsTup c = false) ∧ (∀ g, VK (vw X h1) g → ∀ i v x, P i v → xs[i]? = some x → T.rel g v x)
  fresh : h1.get? I = none
  keep : HK h1 h

def Itb {α : Type} (w : World) (A : Around) (X : List Addr) (t : Sem Value) (T : Ty α) (xs : List α) (s : Shared) : Prop :=
  ∀ s1, Keeps s s1 → wpAny (model PR w) A t (fun v s2 => Keeps s1 s2 ∧ wpAny (model PR w) A (pyIter v) (fun it s3 => Keeps s2 s3 ∧ ∃ I, it = .ref I ∧ ItOk w A T xs X s2.heap s3.heap I) NoE s2) NoE s1
theorem Itb.up {α : Type} {w : World} {A : Around} {X : List Addr} {t : Sem Value} {T : Ty α} {xs : List α} {s s' : Shared} (h : Itb w A X t T xs s) (k : Keeps s s') : Itb w A X t T xs s' := fun s1 k1 => h s1 (kp_trans k k1)

theorem IsRangeIter.fields {h : Heap} {I : Addr} {a b c : Int} (x : IsRangeIter h I a b c) : ∃ o vs c, h.get? I = some o ∧ o.data = .fields vs ∧ o.cls = .type c ∧ ownsTup c = false := ⟨_, _, _, x, rfl, rfl, by decide⟩

section
variable {α : Type} {w : World} {A : Around} {X : List Addr} {t : Sem Value} {T : Ty α} {xs : List α} {s : Shared} {env : Env}
theorem itb_list (hA : A.handled = none) (e : Ev (model PR w) A X t (tList T) xs s) : Itb w A X t T xs s := by
  intro s1 k1
  refine wpAny_mono (e s1 k1) (fun v s2 p => ⟨p.1, ?_⟩) fun _ _ q => q
  obtain ⟨k2, a, vs, rfl, hl, hp⟩ := p
  have hlen := hp.length
  have hl' := hl.list
  have hne : a ≠ s2.heap.objs.size := by obtain ⟨o, ho, _⟩ := hl'; exact Nat.ne_of_lt (Heap.lt_size ho)
  refine wpAny_pyIter_list hl' ⟨kp_push _ _, _, rfl, ⟨?_, size_none _, fun _ _ e => Heap.get?_push_of_some _ e⟩⟩
  have W := Walks.list (prog := PR) (w := w) hA s2.heap.objs.size a hne vs.toArray
  have hsz : vs.toArray.size = xs.length := by simp [hlen]
  rw [hsz] at W
  refine ⟨_, _, _, W, ⟨⟨_, Heap.get?_push_size _ rfl, rfl, rfl⟩, hl'.push _⟩, ?_, ?_, ?_⟩
  · intro b hb
    rcases List.mem_cons.mp hb with rfl | hb
    · exact .inl rfl
    · rw [List.mem_singleton.mp hb]
      obtain ⟨o, ho, hc, n, hd⟩ := hl
      exact .inr ⟨o, ho, _, _, hd⟩
  · rintro i h' ⟨⟨o, ho, hc, hd⟩, _⟩
    exact ⟨o, _, _, ho, hd, hc, by decide⟩
  · intro g hg i v x hv hx
    have hv' : vs[i]? = some v := by simpa using hv
    obtain ⟨y, hy, hr⟩ := paired_fst hp i v hv'
    rw [hx] at hy
    cases hy
    exact T.mono hg hr
theorem itb_tup (hA : A.handled = none) (e : Ev (model PR w) A X t (tTup T) xs s) : Itb w A X t T xs s := by
  intro s1 k1
  refine wpAny_mono (e s1 k1) (fun v s2 p => ⟨p.1, ?_⟩) fun _ _ q => q
  obtain ⟨k2, a, vs, rfl, hl, hp⟩ := p
  have hlen := hp.length
  have hl' : s2.heap.IsTuple a vs.toArray := hl.tup
  have hne : a ≠ s2.heap.objs.size := by obtain ⟨o, ho, _⟩ := hl'; exact Nat.ne_of_lt (Heap.lt_size ho)
  refine wpAny_pyIter_tuple hl' ⟨kp_push _ _, _, rfl, ⟨?_, size_none _, fun _ _ e => Heap.get?_push_of_some _ e⟩⟩
  have W := Walks.tuple (prog := PR) (w := w) hA s2.heap.objs.size a hne vs.toArray
  have hsz : vs.toArray.size = xs.length := by simp [hlen]
  rw [hsz] at W
  refine ⟨_, _, _, W, ⟨⟨_, Heap.get?_push_size _ rfl, rfl, rfl⟩, hl'.at fun o e => Heap.get?_push_of_some _ e⟩, ?_, ?_, ?_⟩
  · intro b hb
    rcases List.mem_cons.mp hb with rfl | hb
    · exact .inl rfl
    · rw [List.mem_singleton.mp hb]
      obtain ⟨o, ho, hc, n, hd⟩ := hl
      exact .inr ⟨o, ho, _, _, hd⟩
  · rintro i h' ⟨⟨o, ho, hc, hd⟩, _⟩
    exact ⟨o, _, _, ho, hd, hc, by decide⟩
  · intro g hg i v x hv hx
    have hv' : vs[i]? = some v := by simpa using hv
    obtain ⟨y, hy, hr⟩ := paired_fst hp i v hv'
    rw [hx] at hy
    cases hy
    exact T.mono hg hr

def rng (n : Nat) : List Int := (List.range n).map Int.ofNat
theorem rng_len (n : Nat) : (rng n).length = n := by simp [rng]
theorem rng_get {n i : Nat} {x : Int} (h : (rng n)[i]? = some x) : i < n ∧ x = i := by
  unfold rng at h
  rw [List.getElem?_map] at h
  by_cases hi : i < n
  · rw [List.getElem?_range hi] at h
    simp at h
    exact ⟨hi, h.symm⟩
  · rw [List.getElem?_eq_none (by simpa using hi)] at h
    cases h

theorem rng_ok : ∀ n : Nat, n ≤ 8 → Builtin.Range.small 0 (n : Int) 1 = true ∧ Builtin.Range.rangeSize 0 (n : Int) 1 = (n : Int) := by
  intro n hn
  rcases Nat.lt_or_ge n 1 with h | h
  · obtain rfl : n = 0 := by omega
    exact ⟨by decide +kernel, by decide +kernel⟩
  have : n = 1 ∨ n = 2 ∨ n = 3 ∨ n = 4 ∨ n = 5 ∨ n = 6 ∨ n = 7 ∨ n = 8 := by omega
  rcases this with rfl | rfl | rfl | rfl | rfl | rfl | rfl | rfl <;> exact ⟨by decide +kernel, by decide +kernel⟩

theorem itb_range {n : Nat} {p pos : Pos} {e : Expr} (hA : A.handled = none) (B : Bas w s.heap) (hn : n ≤ 8) (h : Ev (model PR w) A X (eval e env) tInt (n : Int) s)
    (hk : env.scope.kind = .function := by rfl) (hx : env.kindOf "range" = some .globalImplicit := by rfl) (hg : env.globals = mainGlobals := by rfl) (hbn : env.builtins = builtinsNs := by rfl)
    (hc : eval (.Call (.Name "range" p) [e] [] pos) env = (do callWith pos (← eval (.Name "range" p) env) [] (backTo pos (starEach [e] env)) (backToKw pos (keywordEach [] env))) := by rfl)
    (he : starEach [e] env = (false, eval e env) :: starEach [] env := by rfl) :
    Itb w A X (eval (.Call (.Name "range" p) [e] [] pos) env) tInt (rng n) s := by
  intro s1 k1
  refine wp_callt PyProof.Rows.boot_range (B.up (kp_hk k1)) (eva_cons (h.up k1) eva_nil he) (fun vs s2 k2 hd => ?_) (hk := hk) (hx := hx) (hg := hg) (hbn := hbn) (hc := hc) (he := he)
  obtain ⟨v, rfl, t, rfl⟩ := dts1 hd
  refine call_range_1 ⟨kp_trans k2 (kp_push' _ _ _), ?_⟩
  obtain ⟨h1, h2⟩ := rng_ok n hn
  refine wpAny_pyIter_range (IsRange.new ..) h1 ⟨kp_push _ _, _, rfl, ⟨?_, size_none _, fun _ _ e => Heap.get?_push_of_some _ e⟩⟩
  have W : ∀ I, Walks PR w A I [I] [I] (rng n).length (fun i v => ∃ t, v = .int (0 + i * 1) t) (fun i h => IsRangeIter h I (0 + (i : Nat) * 1) ((n : Int) - (i : Nat)) 1) := fun I => by
    rw [rng_len]; exact Walks.range (prog := PR) (w := w) hA I 0 1 n
  refine ⟨_, _, _, W _, ?_, fun b hb => .inl (List.mem_singleton.mp hb), fun i h' hi => IsRangeIter.fields hi, ?_⟩
  · show IsRangeIter _ _ _ _ _
    have := Heap.get?_push_size (s2.heap.push { cls := .type "range", data := .fields #[.int 0 s2.toks, .int (n : Int) t, .int 1 (s2.toks + 1)] }) (o := { cls := .type "range_iterator", data := .fields #[rawInt 0, rawInt (Builtin.Range.rangeSize 0 n 1), rawInt 1] }) rfl
    have e : (0 : Int) + ((0 : Nat) : Int) * 1 = 0 := by simp
    have e' : (n : Int) - ((0 : Nat) : Int) = (n : Int) := by simp
    rw [e, e']
    rw [h2] at this
    show Heap.get? (Heap.push _ { cls := .type "range_iterator", data := .fields #[rawInt 0, rawInt (Builtin.Range.rangeSize 0 n 1), rawInt 1] }) _ = _
    rw [h2]
    exact this
  · rintro g _ i v x ⟨t', rfl⟩ hx
    obtain ⟨_, rfl⟩ := rng_get hx
    exact ⟨t', by simp⟩
end
end Mine

/-! part B5 -/
namespace Mine
open PySem PySem.W PySem.Calls PyProof.Rows
set_option maxRecDepth 100000
set_option linter.unusedVariables false

section
variable {env : Env} {ow X : List Addr} {G : List VarE} {hrs : List Heap} {s0 s : Shared}
theorem St.not_own {I : Addr} {o : Obj} (st : St env ow X G hrs s0 s) (ho : s.heap.get? I = some o) (hd : (∃ vs, o.data = .fields vs) ∨ ∃ ys n, o.data = .seq ys n) : I ∉ ow := by
  intro hm
  rcases st.ok I hm with rfl | ⟨n, hc⟩
  · obtain ⟨m, o', es, ep, ho', hd', _⟩ := st.ns
    rw [ho] at ho'; cases ho'
    rcases hd with ⟨vs, hd⟩ | ⟨ys, n, hd⟩ <;> rw [hd] at hd' <;> cases hd'
  · obtain ⟨v, o', ho', hd'⟩ := st.ce n I hc
    rw [ho] at ho'; cases ho'
    rcases hd with ⟨vs, hd⟩ | ⟨ys, n, hd⟩ <;> rw [hd] at hd' <;> cases hd'
end

theorem st_for {α : Type} {T : Ty α} {xs : List α} {w : World} {A : Around} {env : Env} {ow X : List Addr} {hrs : List Heap} {s0 s : Shared} {target iter : Expr} {body rest : List Stmt} {pos : Pos} {Q : Flow → Shared → Prop}
    (Gi : Nat → List VarE) (Ex : Nat → Heap → Prop) (hA : A.handled = none)
    (st : St env ow X (Gi 0) hrs s0 s) (ex : Ex 0 s.heap) (exm : ∀ i s s', Ex i s.heap → Stp X s s' → Ex i s'.heap)
    (itb : Itb w A X (eval iter env) T xs s)
    (turn : ∀ i y v href s1, xs[i]? = some y → St env ow X (Gi i) (href :: hrs) s0 s1 → Ex i s1.heap → VK (vw X s.heap) (vw X s1.heap) → T.rel (vw X s1.heap) v y →
      wpAny (model PR w) A (assign target env v) (fun _ s2 => wpAny (model PR w) A (execs body env) (fun f s3 => match f with
        | .next | .cont => St env ow X (Gi (i + 1)) (href :: hrs) s0 s3 ∧ Ex (i + 1) s3.heap ∧ VK (vw X s1.heap) (vw X s3.heap)
        | .brk => False
        | .ret u => Q (.ret u) s3) NoE s2) NoE s1)
    (done : ∀ s1, St env ow X (Gi xs.length) hrs s0 s1 → Ex xs.length s1.heap → VK (vw X s.heap) (vw X s1.heap) → wpAny (model PR w) A (execs rest env) Q NoE s1)
    (hs : ∀ x, foldedSetIterable iter env x = pure x := by intro _; rfl) (ht : ∀ it v, letOwnedTupleGo target it v = pure () := by intro _ _; rfl) :
    wpAny (model PR w) A (execs (.For target iter body [] pos :: rest) env) Q NoE s := by
  refine wpAny_execs_cons (wpAny_For ?_ hs)
  refine wpAny_mono (itb s (kp_refl s)) (fun v s2 p => wpAny_mono p.2 (fun it s3 q => ?_) fun _ _ e => e.elim) fun _ _ e => e
  obtain ⟨k3, I, rfl, ok⟩ := q
  have k2 := p.1
  have st2 := st.up k2
  obtain ⟨fp, P, Sx, W, hst, hfp, hfl, hrel⟩ := ok.ex
  obtain ⟨n0, nX, nr⟩ := st2.new_ref ok.fresh
  refine codeAny_forLoop (fun n s' => ∃ i, n = xs.length + 1 - i ∧ i ≤ xs.length ∧ St env ow X (Gi i) hrs s0 s' ∧ Ex i s'.heap ∧ Sx i s'.heap ∧ VK (vw X s2.heap) (vw X s'.heap)) ?_ (xs.length + 1)
    ⟨0, rfl, Nat.zero_le _, st2.up k3, exm 0 _ _ ex (stp_kp (kp_trans k2 k3)), hst, (vw_hk (kp_hk k3)).vk⟩ (fun v => ht _ v)
  rintro n s' ⟨i, rfl, hi, st', ex', hst', vk'⟩
  obtain ⟨oI, vsI, _, hoI, hdI, _⟩ := hfl _ _ hst'
  by_cases hlt : i < xs.length
  · refine wpAny_mono (Q := _) (W.item i s' _ NoE hlt hst' fun v h' tk hP hst1 hk1 => ?_) (fun _ _ q => q) fun _ _ e => e.elim
    have hk1' : ∀ b o, b ≠ I → s'.heap.get? b = some o → h'.get? b = some o := fun b o hb => hk1 b o (by simpa using hb)
    obtain ⟨st1, sp1⟩ := st'.iter (t := tk) hoI hdI nX n0 nr hk1'
    have ex1 := exm i _ _ ex' sp1
    have vk1 := vk'.trans sp1.2
    refine wpAny_mono (turn i (xs[i]'hlt) v h' _ (List.getElem?_eq_getElem hlt) st1.push ex1 ((vw_hk (kp_hk k2)).vk.trans vk1) (hrel _ vk1 i v _ hP (List.getElem?_eq_getElem hlt))) (fun _ s4 h4 => ?_) fun _ _ e => e.elim
    refine wpAny_mono h4 (fun f s5 h5 => ?_) fun _ _ e => e.elim
    have fin : St env ow X (Gi (i + 1)) (h' :: hrs) s0 s5 ∧ Ex (i + 1) s5.heap ∧ VK (vw X h') (vw X s5.heap) → ∃ m, m < xs.length + 1 - i ∧ ∃ j, m = xs.length + 1 - j ∧ j ≤ xs.length ∧ St env ow X (Gi j) hrs s0 s5 ∧ Ex j s5.heap ∧ Sx j s5.heap ∧ VK (vw X s2.heap) (vw X s5.heap) := by
      rintro ⟨st5, ex5, vk5⟩
      refine ⟨xs.length + 1 - (i + 1), by omega, i + 1, rfl, hlt, st5.pop, ex5, W.frame _ _ _ hst1 fun b hb o e => ?_, vk1.trans vk5⟩
      have hb' : b ∉ X ∧ b ∉ ow := by
        rcases hfp b hb with rfl | ⟨o', ho', hd'⟩
        · obtain ⟨o1, vs1, _, ho1, hd1, _⟩ := hfl _ _ hst1
          exact ⟨nX, st1.not_own ho1 (.inl ⟨_, hd1⟩)⟩
        · have := vk1 b o' ho' hd'
          exact ⟨vw_notin ho', st1.not_own (vw_get this) (.inr hd')⟩
      exact st5.rf h' List.mem_cons_self b o hb'.1 hb'.2 e
    cases f with
    | next => exact fin h5
    | cont => exact fin h5
    | brk => exact h5.elim
    | ret u => exact h5
  · have hie : i = xs.length := by omega
    subst hie
    refine wpAny_mono (Q := _) (W.done s' _ NoE hst' fun h' tk hk1 => ?_) (fun _ _ q => q) fun _ _ e => e.elim
    have hk1' : ∀ b o, b ≠ I → s'.heap.get? b = some o → h'.get? b = some o := fun b o hb => hk1 b o (by simpa using hb)
    obtain ⟨st1, sp1⟩ := st'.iter (t := tk) hoI hdI nX n0 nr hk1'
    exact wpAny_execs_nil (done _ st1 (exm _ _ _ ex' sp1) ((vw_hk (kp_hk k2)).vk.trans (vk'.trans sp1.2)))

/-- a while: the test's worth is told by the data -/
theorem st_while {w : World} {A : Around} {env : Env} {ow X : List Addr} {hrs : List Heap} {s0 s : Shared} {test : Expr} {body rest : List Stmt} {pos : Pos} {Q : Flow → Shared → Prop} {σ : Type}
    (Gi : σ → List VarE) (m : σ → Nat) (ok : σ → Prop) (b : σ → Bool) (c0 : σ) (ok0 : ok c0) (st : St env ow X (Gi c0) hrs s0 s)
    (tst : ∀ c s1, ok c → St env ow X (Gi c) hrs s0 s1 → VK (vw X s.heap) (vw X s1.heap) → Bv (model PR w) A (isTrue test env (eval test env)) (b c) s1)
    (turn : ∀ c s1, ok c → b c = true → St env ow X (Gi c) hrs s0 s1 → VK (vw X s.heap) (vw X s1.heap) → wpAny (model PR w) A (execs body env) (fun f s3 => match f with
        | .next | .cont => ∃ c', ok c' ∧ m c' < m c ∧ St env ow X (Gi c') hrs s0 s3 ∧ VK (vw X s1.heap) (vw X s3.heap)
        | .brk => False
        | .ret u => Q (.ret u) s3) NoE s1)
    (done : ∀ c s1, ok c → b c = false → St env ow X (Gi c) hrs s0 s1 → VK (vw X s.heap) (vw X s1.heap) → wpAny (model PR w) A (execs rest env) Q NoE s1) :
    wpAny (model PR w) A (execs (.While test body [] pos :: rest) env) Q NoE s := by
  refine wpAny_execs_cons (wpAny_While ?_)
  refine codeAny_whileLoop (fun n s' => ∃ c, n = m c ∧ ok c ∧ St env ow X (Gi c) hrs s0 s' ∧ VK (vw X s.heap) (vw X s'.heap)) ?_ (m c0) ⟨c0, rfl, ok0, st, VK.rfl'⟩
  rintro n s' ⟨c, rfl, hok, st', vk'⟩
  refine (tst c s' hok st' vk').wp fun s2 k2 => ?_
  have st2 := st'.up k2
  have vk2 := vk'.trans (vw_hk (kp_hk k2)).vk
  cases hb : b c with
  | false =>
    simp only [Bool.false_eq_true, if_false]
    exact wpAny_execs_nil (done c s2 hok hb st2 vk2)
  | true =>
    simp only [if_true]
    refine wpAny_mono (turn c s2 hok hb st2 vk2) (fun f s3 h3 => ?_) fun _ _ e => e.elim
    cases f with
    | next => obtain ⟨c', h1, h2, h3, h4⟩ := h3; exact ⟨_, h2, c', rfl, h1, h3, vk2.trans h4⟩
    | cont => obtain ⟨c', h1, h2, h3, h4⟩ := h3; exact ⟨_, h2, c', rfl, h1, h3, vk2.trans h4⟩
    | brk => exact h3.elim
    | ret u => exact h3
end Mine

/-! part B6 -/
namespace Mine
open PySem PySem.W PySem.Calls PyProof.Rows
set_option maxRecDepth 100000
set_option linter.unusedVariables false

theorem owned_go {M : Model} {A : Around} {s : Shared} {target : Expr} {I : Addr} {v : Value} {Q : Unit → Shared → Prop} {o : Obj} {vs : Array Value} {c : String}
    (ho : s.heap.get? I = some o) (hd : o.data = .fields vs) (hc : o.cls = .type c) (hn : ownsTup c = false) (h : Q () s) : wpAny M A (letOwnedTupleGo target (.ref I) v) Q NoE s := by
  unfold letOwnedTupleGo
  split
  all_goals first
    | exact wpAny_pure h
    | (cases v <;> first
        | exact wpAny_pure h
        | (refine wpAny_bind (wpAny_load ho ?_)
           rw [hc, hd]
           unfold ownsTup at hn
           dsimp only
           rw [hn]
           exact wpAny_pure h))

/-- the tests of a comprehension -/
def Tst (M : Model) (A : Around) (ifs : List Expr) (env : Env) (b : Bool) (s : Shared) : Prop :=
  ∀ s1, Keeps s s1 → wpAny M A (forIn ifs true fun c r => if r = true then do let ok ← isTrue c env (eval c env); pure (ForInStep.yield ok) else pure (ForInStep.yield r)) (fun ok s2 => ok = b ∧ Keeps s1 s2) NoE s1
theorem tst_nil {prog : Program} {w : World} {A : Around} {env : Env} {s : Shared} : Tst (model prog w) A [] env true s := fun s1 _ => wpAny_tests_nil ⟨rfl, kp_refl _⟩
theorem tst_one {prog : Program} {w : World} {A : Around} {env : Env} {s : Shared} {c : Expr} {b : Bool} (h : Bv (model prog w) A (isTrue c env (eval c env)) b s) : Tst (model prog w) A [c] env b s :=
  fun s1 k1 => wpAny_tests_one (h s1 k1)

theorem comp_loop {prog : Program} {w : World} {A : Around} {R : Result → Shared → Prop} {s : Shared} {elt target iter : Expr} {ifs : List Expr} {scope : Scope} {pos : Pos} {it acc : Value} {env : Env} (J : Nat → Shared → Prop)
    (turn : ∀ n s, J n s → wpAny (model prog w) A (pyNext it) (fun r s₁ => match r with
      | none => R (.ok .next) s₁
      | some v => wpAny (model prog w) A (letOwnedTupleGo target it v) (fun _ s₁' => wpAny (model prog w) A (assign target env v) (fun _ s₂ =>
          wpAny (model prog w) A (forIn ifs true fun c r => if r = true then do let ok ← isTrue c env (eval c env); pure (ForInStep.yield ok) else pure (ForInStep.yield r)) (fun ok s₃ =>
            if ok = true then wpAny (model prog w) A (eval elt env) (fun x s₄ =>
              wpAny (model prog w) A (call (.builtin "list.append") [acc, x]) (fun _ s₅ => ∃ m, m < n ∧ J m s₅) NoE s₄) NoE s₃
            else ∃ m, m < n ∧ J m s₃) NoE s₂) NoE s₁') NoE s₁) NoE s)
    (n : Nat) (h : J n s) : codeAny (model prog w) A (.compLoop (.ListComp elt [⟨target, iter, ifs, 0⟩] scope pos) 0 it acc env) R s := by
  refine codeAny_loop rfl J (fun n s hI => ?_) n h
  show wpAny _ A ((compTurn (.ListComp elt [⟨target, iter, ifs, 0⟩] scope pos) 0 it acc env).onRaise (fun x => do noteFrame x env; theTreesLotGoes x)) _ _ s
  refine wpAny_noted ?_
  rw [compTurn_list]
  refine wpAny_bind (wpAny_standAt (wpAny_bind (wpAny_mono (turn n s hI) (fun r s₁ h₁ => ?_) fun _ _ h' => h'.elim)))
  cases r with
  | none => exact wpAny_pure h₁
  | some v =>
    refine wpAny_bind (wpAny_mono h₁ (fun _ s₁' h₁' => ?_) fun _ _ h' => h'.elim)
    refine wpAny_bind (wpAny_mono h₁' (fun _ s₂ h₂ => wpAny_bind (wpAny_mono h₂ (fun ok s₃ h₃ => ?_) fun _ _ h' => h'.elim)) fun _ _ h' => h'.elim)
    cases ok with
    | false => exact wpAny_pure ⟨rfl, h₃⟩
    | true =>
      exact wpAny_bind (wpAny_bind (wpAny_mono h₃ (fun x s₄ h₄ => wpAny_bind (wpAny_mono h₄ (fun _ s₅ h₅ => wpAny_pure (wpAny_pure ⟨rfl, h₅⟩)) fun _ _ h' => h'.elim)) fun _ _ h' => h'.elim))

theorem cells_acc : ∀ (names : List (Str × NameKind)) (n : Nat) (acc : List (Str × Addr)), cellsFrom n names acc = cellsFrom n names [] ++ acc
  | [], _, _ => rfl
  | (name, kind) :: r, n, acc => by
    unfold cellsFrom
    split
    · rw [cells_acc r (n + 1) ((name, n) :: acc), cells_acc r (n + 1) [(name, n)], List.append_assoc]; rfl
    · exact cells_acc r n acc

theorem comp_env {M : Model} {A : Around} {s : Shared} {scope : Scope} {cl : List (Str × Addr)} {outer : Env} {Q : Env → Shared → Prop}
    (h : ∀ h', h'.Ns s.heap.objs.size (fun _ => none) → HK s.heap h' → CellsOk h' (s.heap.objs.size + 1) (cellsFrom (s.heap.objs.size + 1) scope.names []) →
      Q (newEnv scope s.heap.objs.size outer.globals (cellsFrom (s.heap.objs.size + 1) scope.names [] ++ cl) outer.qual none .none (some outer) builtinsNs) { s with heap := h' }) :
    wpAny M A (newFunctionEnv scope outer.globals cl [] outer.qual none .none (some outer)) Q NoE s := by
  simp only [newFunctionEnv, Option.isSome_some, if_true]
  refine wpAny_bind (wpAny_alloc ?_)
  refine wpAny_bind (wpAny_layCells _ (fun name kind cells => by cases hkc : kind == NameKind.cell <;> simp [hkc]) _ _ _ _ ?_)
  have ok := cellsFrom_ok scope.names (s.heap.push { cls := .type "dict", data := .dict #[] }) (s.heap.objs.size + 1) [] ⟨fun _ _ hm => (nomatch hm), List.Pairwise.nil⟩ (by rw [Heap.size_push]; exact Nat.le_refl _)
  rw [Heap.size_push] at ok
  rw [show ({ s with heap := s.heap.push { cls := .type "dict", data := .dict #[] } } : Shared).heap.objs.size = s.heap.objs.size + 1 from Heap.size_push ..]
  rw [cells_acc]
  simp only [List.forIn_nil]
  refine wpAny_bind (wpAny_pure (wpAny_pure ?_))
  exact h _ ((Heap.Ns.new s.heap (.type "dict")).keeps (pushCells_keeps _ _)) (fun b o e => pushCells_keeps _ _ b o (Heap.get?_push_of_some _ e)) ok
end Mine

/-! part B7 -/
namespace Mine
open PySem PySem.W PySem.Calls PyProof.Rows
set_option maxRecDepth 100000
set_option linter.unusedVariables false

section
variable {env : Env} {ow X : List Addr} {G : List VarE} {hrs : List Heap} {s0 s : Shared}
/-- a hidden object is turned -/
theorem St.hid {D : Addr} {h' : Heap} {t : Nat} (st : St env ow X G hrs s0 s) (hD : D ∈ X) (hs : Heap.SameBut D s.heap h') (h0 : s0.heap.get? D = none) (hx : ∃ o, h'.get? D = some o) (hq : ∃ ys, s.heap.PlainList D ys) :
    St env ow X G hrs s0 { s with heap := h', toks := t } ∧ VA (vw X s.heap) (vw X h') := by
  have va : VA (vw X s.heap) (vw X h') := vw_but fun b o hb e => by rw [hs.2 b (by rintro rfl; exact hb hD)]; exact e
  have hne : ∀ b ∈ ow, b ≠ D := fun b hb e => st.ox b hb (e ▸ hD)
  refine ⟨⟨kp_but st.kp hs h0, st.oL, st.ok, st.fr, st.ox, ?_, ?_, st.cd, st.sc.va va, ?_, ?_⟩, va⟩
  · obtain ⟨m, hn⟩ := st.ns
    exact ⟨m, hn.sameBut hs (hne _ st.oL)⟩
  · intro n c hc
    obtain ⟨v, hv⟩ := st.ce n c hc
    have hcd : c ≠ D := by
      rintro rfl
      obtain ⟨ys, n, hq⟩ := hq
      obtain ⟨o, ho, hd⟩ := hv
      rw [hq] at ho; cases ho
      cases hd
    exact ⟨v, hv.sameBut hs hcd⟩
  · intro x hx'
    by_cases e : x = D
    · subst e; exact hx
    · obtain ⟨o, ho⟩ := st.xb x hx'
      exact ⟨o, (hs.2 x e).trans ho⟩
  · intro h hh b o h1 h2 e
    have := st.rf h hh b o h1 h2 e
    rw [show ({ s with heap := h', toks := t } : Shared).heap = h' from rfl, hs.2 b (by rintro rfl; exact h1 hD)]
    exact this
end
theorem lk_mono {G : List VarE} {e0 : VarE} (h : lk G e0.n = none) : ∀ x e, lk G x = some e → lk (e0 :: G) x = some e := fun x e he => by
  rw [lk_cons_ne]
  · exact he
  · rintro rfl; rw [h] at he; cases he
theorem plainList_at {h h' : Heap} {D : Addr} {ys : Array Value} (x : h.PlainList D ys) (e : h'.get? D = h.get? D) : h'.PlainList D ys := by
  obtain ⟨n, hn⟩ := x
  exact ⟨n, e.trans hn⟩

theorem comp_core {α β : Type} {T : Ty α} {U : Ty β} {xs : List α} {w : World} {A : Around} {env : Env} {X : List Addr} {target iter elt : Expr} {ifs : List Expr} {scope : Scope} {pos : Pos} {cl : List (Str × Addr)} {h1 : Heap} {s2 : Shared} {I : Addr} {RR : Value → Addr → Result → Shared → Prop}
    (p : α → Bool) (f : α → β) (Gf : List VarE) (Gy : α → List VarE)
    (ok : ItOk w A T xs X h1 s2.heap I) (xb : XB X h1) (hlen : xs.length ≤ 100)
    (hclc : ∀ n c, (n, c) ∈ cl → ∃ v, h1.IsCell c v) (hcd : cl.Pairwise fun x y => x.2 ≠ y.2)
    (hsc : ∀ C D h, VA (vw X h1) (vw (D :: X) h) → Sc (compEnvC scope (cellsFrom (C + 1) scope.names [] ++ cl) C env) (vw (D :: X) h) Gf)
    (hG : ∀ y x e, lk Gf x = some e → lk (Gy y) x = some e)
    (asg : ∀ C D y v s0 s hrs (Q : Unit → Shared → Prop), y ∈ xs → St (compEnvC scope (cellsFrom (C + 1) scope.names [] ++ cl) C env) (C :: (cellsFrom (C + 1) scope.names []).map (·.2)) (D :: X) Gf hrs s0 s → T.rel (vw (D :: X) s.heap) v y →
      (∀ s', St (compEnvC scope (cellsFrom (C + 1) scope.names [] ++ cl) C env) (C :: (cellsFrom (C + 1) scope.names []).map (·.2)) (D :: X) (Gy y) hrs s0 s' → Stp (D :: X) s s' → Q () s') →
      wpAny (model PR w) A (assign target (compEnvC scope (cellsFrom (C + 1) scope.names [] ++ cl) C env) v) Q NoE s)
    (tst : ∀ C D y s0 s hrs, y ∈ xs → HK h1 s.heap → St (compEnvC scope (cellsFrom (C + 1) scope.names [] ++ cl) C env) (C :: (cellsFrom (C + 1) scope.names []).map (·.2)) (D :: X) (Gy y) hrs s0 s →
      Tst (model PR w) A ifs (compEnvC scope (cellsFrom (C + 1) scope.names [] ++ cl) C env) (p y) s)
    (helt : ∀ C D y s0 s hrs, y ∈ xs → p y = true → HK h1 s.heap → St (compEnvC scope (cellsFrom (C + 1) scope.names [] ++ cl) C env) (C :: (cellsFrom (C + 1) scope.names []).map (·.2)) (D :: X) (Gy y) hrs s0 s →
      Ev (model PR w) A (D :: X) (eval elt (compEnvC scope (cellsFrom (C + 1) scope.names [] ++ cl) C env)) U (f y) s)
    (hRR : ∀ D C h' tk out, h1.get? D = none → h1.get? C = none → C ≠ D → (∃ m, h'.Ns C m) → h'.PlainList D out.toArray → Paired (U.rel (vw (D :: X) h')) out ((xs.filter p).map f) → HK h1 h' →
      RR (.ref D) C (.ok .next) { s2 with heap := h', toks := tk }) :
    wpAny (model PR w) A (newList []) (fun acc s3 => wpAny (model PR w) A (newFunctionEnv scope env.globals cl [] env.qual none .none (some env)) (fun cenv s4 =>
      codeAny (model PR w) A (.compStart (.ListComp elt [⟨target, iter, ifs, 0⟩] scope pos) 0 (.ref I) acc { cenv with scope := relabel scope env }) (RR acc cenv.locals) s4) NoE s3) NoE s2 := by
  obtain ⟨fp, P, Sx, W, hst, hfp, hfl, hrel⟩ := ok.ex
  have f1 : ∀ b, s2.heap.objs.size ≤ b → h1.get? b = none := fun b hb => by
    cases e : h1.get? b with
    | none => rfl
    | some o => exact absurd (Heap.lt_size (ok.keep b o e)) (Nat.not_lt.mpr hb)
  refine wpAny_newObj_type (comp_env fun h4 hns hk4 cok => ?_)
  have kD : HK s2.heap h4 := fun b o e => hk4 b o (Heap.get?_push_of_some _ e)
  have hCs : (s2.heap.push { cls := .type "list", data := .seq ([] : List Value).toArray }).objs.size = s2.heap.objs.size + 1 := Heap.size_push ..
  have hDl : h4.PlainList s2.heap.objs.size ([] : List Value).toArray := ⟨0, hk4 _ _ (Heap.get?_push_size _ rfl)⟩
  generalize hDe : s2.heap.objs.size = D at *
  have hC0 : ∃ C, (s2.heap.push { cls := .type "list", data := .seq ([] : List Value).toArray }).objs.size = C ∧ C = D + 1 := ⟨_, rfl, hCs⟩
  obtain ⟨C, hCe, hCD⟩ := hC0
  have hns' : h4.Ns C (fun _ => none) := by rw [← hCe]; exact hns
  have cok' : CellsOk h4 (C + 1) (cellsFrom (C + 1) scope.names []) := by rw [← hCe]; exact cok
  have hDX : D ∉ X := fun hm => by obtain ⟨o, e⟩ := xb D hm; rw [f1 D (Nat.le_refl _)] at e; cases e
  have hI4 : I ≠ D := by
    obtain ⟨o, _, _, ho, _⟩ := hfl _ _ hst
    have := Heap.lt_size ho
    rw [hDe] at this
    exact Nat.ne_of_lt this
  have nX : I ∉ D :: X := by
    intro hm
    rcases List.mem_cons.mp hm with e | hm
    · exact hI4 e
    · exact xb.new ok.fresh hm
  have k14 : HK h1 h4 := HK.trans ok.keep kD
  have va14 : VA (vw X h1) (vw (D :: X) h4) := vw_hide (Y := [D]) k14 (by intro y hy; rw [List.mem_singleton.mp hy]; exact f1 D (Nat.le_refl _))
  have nwge : ∀ n c, (n, c) ∈ cellsFrom (C + 1) scope.names [] → C + 1 ≤ c := fun n c hm => (cok'.empty n c hm).2
  have st4 : St (compEnvC scope (cellsFrom (C + 1) scope.names [] ++ cl) C env) (C :: (cellsFrom (C + 1) scope.names []).map (·.2)) (D :: X) Gf [] { s2 with heap := h1 } { s2 with heap := h4 } := by
    have owge : ∀ b ∈ C :: (cellsFrom (C + 1) scope.names []).map (·.2), C ≤ b := by
      intro b hb
      rcases List.mem_cons.mp hb with rfl | hb
      · exact Nat.le_refl _
      · obtain ⟨⟨n, c⟩, hm, rfl⟩ := List.mem_map.mp hb
        have := nwge n c hm
        show C ≤ c; omega
    refine ⟨⟨h4, _, rfl, k14⟩, List.mem_cons_self, ?_, ?_, ?_, ⟨_, hns'⟩, ?_, ?_, hsc C D h4 va14, ?_, fun _ hh => by cases hh⟩
    · intro b hb
      rcases List.mem_cons.mp hb with rfl | hb
      · exact .inl rfl
      · obtain ⟨⟨n, c⟩, hm, rfl⟩ := List.mem_map.mp hb
        exact .inr ⟨n, List.mem_append.mpr (.inl hm)⟩
    · intro b hb
      exact f1 b (by have := owge b hb; omega)
    · intro b hb hx
      have h1' := owge b hb
      rcases List.mem_cons.mp hx with rfl | hx
      · omega
      · obtain ⟨o, e⟩ := xb b hx
        rw [f1 b (by omega)] at e; cases e
    · intro n c hm
      rcases List.mem_append.mp hm with hm | hm
      · exact ⟨_, (cok'.empty n c hm).1⟩
      · obtain ⟨v, hv⟩ := hclc n c hm
        exact ⟨v, hv.keeps k14⟩
    · refine List.pairwise_append.mpr ⟨cok'.apart, hcd, ?_⟩
      rintro ⟨n, c⟩ hm ⟨n', c'⟩ hm' e
      have h1' := nwge n c hm
      obtain ⟨v, o, ho, _⟩ := hclc n' c' hm'
      have h2' := Heap.lt_size (ok.keep _ _ ho)
      rw [hDe] at h2'
      have e' : c = c' := e
      subst e'
      exact absurd h2' (Nat.not_lt.mpr (Nat.le_trans (by rw [hCD]; exact Nat.le_add_right D 2) h1'))
    · intro x hx
      rcases List.mem_cons.mp hx with rfl | hx
      · obtain ⟨n, hn⟩ := hDl; exact ⟨_, hn⟩
      · obtain ⟨o, e⟩ := xb x hx; exact ⟨o, k14 _ _ e⟩
  have hst4 : Sx 0 h4 := W.frame _ _ _ hst fun b _ o e => kD b o e
  have loop : codeAny (model PR w) A (.compLoop (.ListComp elt [⟨target, iter, ifs, 0⟩] scope pos) 0 (.ref I) (.ref D) (compEnvC scope (cellsFrom (C + 1) scope.names [] ++ cl) C env)) (RR (.ref D) C) { s2 with heap := h4 } := by
    refine comp_loop (fun n s' => ∃ i out, n = xs.length + 1 - i ∧ i ≤ xs.length ∧ St (compEnvC scope (cellsFrom (C + 1) scope.names [] ++ cl) C env) (C :: (cellsFrom (C + 1) scope.names []).map (·.2)) (D :: X) Gf [] { s2 with heap := h1 } s' ∧
      Sx i s'.heap ∧ s'.heap.PlainList D out.toArray ∧ Paired (U.rel (vw (D :: X) s'.heap)) out (((xs.take i).filter p).map f) ∧ VK (vw X h1) (vw (D :: X) s'.heap)) ?_ (xs.length + 1)
      ⟨0, [], rfl, Nat.zero_le _, st4, hst4, hDl, by simpa using Paired.nil, va14.vk⟩
    rintro n s' ⟨i, out, rfl, hi, st', hst', hD', hout, vk'⟩
    obtain ⟨oI, vsI, cI, hoI, hdI, _, _⟩ := hfl _ _ hst'
    by_cases hlt : i < xs.length
    · refine wpAny_mono (Q := _) (W.item i s' _ NoE hlt hst' fun v h' tk hP hst1 hk1 => ?_) (fun _ _ q => q) fun _ _ e => e.elim
      have hk1' : ∀ b o, b ≠ I → s'.heap.get? b = some o → h'.get? b = some o := fun b o hb => hk1 b o (by simpa using hb)
      obtain ⟨st1, sp1⟩ := st'.iter (t := tk) hoI hdI nX ok.fresh (fun _ hh => by cases hh) hk1'
      have vk1 := vk'.trans sp1.2
      have hym : xs[i]'hlt ∈ xs := List.getElem_mem hlt
      have hyg : xs[i]? = some (xs[i]'hlt) := List.getElem?_eq_getElem hlt
      obtain ⟨oI', vsI', cI', hoI', hdI', hcI', hnI'⟩ := hfl _ _ hst1
      refine owned_go (s := { s' with heap := h', toks := tk }) hoI' hdI' hcI' hnI' ?_
      refine asg C D (xs[i]'hlt) v _ _ [h'] _ hym st1.push (hrel _ vk1 i v _ hP hyg) fun s3 st3 sp3 => ?_
      refine wpAny_mono (tst C D (xs[i]'hlt) _ s3 [h'] hym (kp_hk st3.kp) st3 s3 (kp_refl _)) (fun okb s4 q => ?_) fun _ _ e => e.elim
      obtain ⟨rfl, k4⟩ := q
      have st4' := st3.up k4
      have hD4 : s4.heap.PlainList D out.toArray := by
        obtain ⟨n, hn⟩ := hD'
        exact ⟨n, kp_hk k4 _ _ (sp3.1 D List.mem_cons_self _ (sp1.1 D List.mem_cons_self _ hn))⟩
      have vk4 : VK (vw (D :: X) s'.heap) (vw (D :: X) s4.heap) := sp1.2.trans (sp3.2.trans (vw_hk (kp_hk k4)).vk)
      have out4 := paired_imp (fun _ _ r => U.mono vk4 r) hout
      have tk : xs.take (i + 1) = xs.take i ++ [xs[i]'hlt] := by rw [List.take_add_one, hyg]; rfl
      have fin : ∀ (s5 : Shared) out', St (compEnvC scope (cellsFrom (C + 1) scope.names [] ++ cl) C env) (C :: (cellsFrom (C + 1) scope.names []).map (·.2)) (D :: X) (Gy (xs[i]'hlt)) [h'] { s2 with heap := h1 } s5 → s5.heap.PlainList D out'.toArray →
          Paired (U.rel (vw (D :: X) s5.heap)) out' (((xs.take (i + 1)).filter p).map f) → VK (vw (D :: X) s4.heap) (vw (D :: X) s5.heap) →
          ∃ m, m < xs.length + 1 - i ∧ ∃ j out, m = xs.length + 1 - j ∧ j ≤ xs.length ∧ St (compEnvC scope (cellsFrom (C + 1) scope.names [] ++ cl) C env) (C :: (cellsFrom (C + 1) scope.names []).map (·.2)) (D :: X) Gf [] { s2 with heap := h1 } s5 ∧
            Sx j s5.heap ∧ s5.heap.PlainList D out.toArray ∧ Paired (U.rel (vw (D :: X) s5.heap)) out (((xs.take j).filter p).map f) ∧ VK (vw X h1) (vw (D :: X) s5.heap) := by
        intro s5 out' st5 hD5 hp5 vk5
        refine ⟨xs.length + 1 - (i + 1), by omega, i + 1, out', rfl, hlt, (st5.sub (hG _)).pop, W.frame _ _ _ hst1 fun b hb o e => ?_, hD5, hp5, vk'.trans (vk4.trans vk5)⟩
        have hb' : b ∉ D :: X ∧ b ∉ C :: (cellsFrom (C + 1) scope.names []).map (·.2) := by
          rcases hfp b hb with rfl | ⟨o', ho', hd'⟩
          · exact ⟨nX, st1.not_own hoI' (.inl ⟨_, hdI'⟩)⟩
          · have := vk1 b o' ho' hd'
            exact ⟨vw_notin this, st1.not_own (vw_get this) (.inr hd')⟩
        exact st5.rf h' List.mem_cons_self b o hb'.1 hb'.2 e
      cases hpy : p (xs[i]'hlt) with
      | false =>
        simp only [Bool.false_eq_true, if_false]
        refine fin s4 out st4' hD4 ?_ VK.rfl'
        rw [tk, List.filter_append]
        simpa [hpy] using out4
      | true =>
        simp only [if_true]
        refine (helt C D (xs[i]'hlt) _ s4 [h'] hym hpy (kp_hk st4'.kp) st4').wp fun u s5 k5 r5 => ?_
        have st5 := st4'.up k5
        have hD5 : s5.heap.PlainList D out.toArray := hD4.at fun o e => kp_hk k5 _ _ e
        have hol := hout.length
        have hfl' : ((xs.take i).filter p).length ≤ (xs.take i).length := List.length_filter_le _ _
        have htl : (xs.take i).length ≤ xs.length := by rw [List.length_take]; omega
        rw [List.length_map] at hol
        refine wpAny_list_append_plain hD5 (fun h6 hD6 hs6 => ?_) (by rw [List.size_toArray, sizeLine_eq]; omega)
        obtain ⟨st6, va6⟩ := st5.hid (t := s5.toks) List.mem_cons_self hs6 (f1 D (Nat.le_refl _)) (let ⟨n, hn⟩ := hD6; ⟨_, hn⟩) ⟨_, hD5⟩
        have e6 : out.toArray.push u = (out ++ [u]).toArray := by simp
        rw [e6] at hD6
        refine fin _ (out ++ [u]) st6 hD6 ?_ ((vw_hk (kp_hk k5)).vk.trans va6.vk)
        rw [tk, List.filter_append, List.map_append]
        have e7 : ((List.filter p [xs[i]'hlt]).map f) = [f (xs[i]'hlt)] := by simp [hpy]
        rw [e7]
        exact Paired.snoc (paired_imp (fun _ _ r => U.mono ((vw_hk (kp_hk k5)).vk.trans va6.vk) r) out4) (U.mono va6.vk r5)
    · have hie : i = xs.length := by omega
      subst hie
      refine wpAny_mono (Q := _) (W.done s' _ NoE hst' fun h' tk hk1 => ?_) (fun _ _ q => q) fun _ _ e => e.elim
      have hk1' : ∀ b o, b ≠ I → s'.heap.get? b = some o → h'.get? b = some o := fun b o hb => hk1 b o (by simpa using hb)
      obtain ⟨st1, sp1⟩ := st'.iter (t := tk) hoI hdI nX ok.fresh (fun _ hh => by cases hh) hk1'
      obtain ⟨hx, tx, e, _⟩ := st1.kp
      have hs' : s'.gens = s2.gens ∧ s'.drawn = s2.drawn ∧ s'.os = s2.os := by
        obtain ⟨hx, tx, rfl, _⟩ := st'.kp
        exact ⟨rfl, rfl, rfl⟩
      have e2 : ({ s' with heap := h', toks := tk } : Shared) = { s2 with heap := h', toks := tk } := by
        obtain ⟨a, b, c, d, e⟩ := s'
        obtain ⟨rfl, rfl, rfl⟩ := hs'
        rfl
      show RR (.ref D) C (.ok .next) { s' with heap := h', toks := tk }
      rw [e2]
      rw [List.take_length] at hout
      refine hRR D C h' tk out (f1 D (Nat.le_refl _)) (f1 C (by rw [hCD]; exact Nat.le_succ D)) (by rw [hCD]; exact Nat.succ_ne_self D) st1.ns ?_ (paired_imp (fun _ _ r => U.mono sp1.2 r) hout) (kp_hk st1.kp)
      obtain ⟨n, hn⟩ := hD'
      exact ⟨n, sp1.1 D List.mem_cons_self _ hn⟩
  have := codeAny_compStart_list (elt := elt) (target := target) (iter := iter) (ifs := ifs) (rest := []) (scope := scope) (pos := pos) (acc := .ref D) loop (W.self 0 _ _ _ hst4 loop)
  rw [hCe]
  exact this

end Mine

/-! part B8 -/
namespace Mine
open PySem PySem.W PySem.Calls PyProof.Rows
set_option maxRecDepth 100000
set_option linter.unusedVariables false

section
variable {env : Env} {ow X : List Addr} {G : List VarE} {hrs : List Heap} {s0 s : Shared}
/-- a dict that no frame of ours owns is turned -/
theorem St.dct {C : Addr} {m : Str → Option Value} {h' : Heap} (st : St env ow X G hrs s0 s) (hs : Heap.SameBut C s.heap h') (hn : s.heap.Ns C m) (hw : C ∉ ow) (hX : C ∉ X) (h0 : s0.heap.get? C = none) (hr : ∀ h ∈ hrs, h.get? C = none) :
    St env ow X G hrs s0 { s with heap := h' } ∧ Stp X s { s with heap := h' } := by
  have hk := sk_ns hn hs
  have hL : env.locals ≠ C := fun e => hw (e ▸ st.oL)
  refine ⟨⟨kp_but st.kp hs h0, st.oL, st.ok, st.fr, st.ox, ?_, ?_, st.cd, ?_, xb_but st.xb hs hX, ?_⟩, ⟨fun b hb o e => ?_, vw_sk hk⟩⟩
  · obtain ⟨m', hn'⟩ := st.ns
    exact ⟨m', hn'.sameBut hs hL⟩
  · intro n c hc
    obtain ⟨v, hv⟩ := st.ce n c hc
    exact ⟨v, hv.sameBut hs (ns_cell hn hv)⟩
  · intro x e he
    obtain ⟨v, ha, hr'⟩ := st.sc x e he
    refine ⟨v, ?_, e.T.mono (vw_sk hk) hr'⟩
    rcases ha with ⟨h1, m', h2, h3⟩ | ⟨h1, c, h2, h3⟩
    · exact .inl ⟨h1, m', nsV_of (h2.ns.sameBut hs hL) (let ⟨o', _, _, ho', _⟩ := h2; vw_notin ho'), h3⟩
    · exact .inr ⟨h1, c, h2, cellV_of (h3.cell.sameBut hs (ns_cell hn h3.cell)) (let ⟨o', ho', _⟩ := h3; vw_notin ho')⟩
  · intro h hh b o h1 h2 e
    have := st.rf h hh b o h1 h2 e
    rw [show ({ s with heap := h' } : Shared).heap = h' from rfl, hs.2 b (by rintro rfl; rw [hr h hh] at e; cases e)]
    exact this
  · rw [show ({ s with heap := h' } : Shared).heap = h' from rfl, hs.2 b (by rintro rfl; exact hX hb)]
    exact e
end

/-- what a comprehension is to be told; cenv: its frame -/
structure CompOk {α β : Type} (w : World) (A : Around) (env : Env) (X : List Addr) (T : Ty α) (U : Ty β) (target iter elt : Expr) (ifs : List Expr) (scope : Scope) (cl : List (Str × Addr)) (xs : List α) (p : α → Bool) (f : α → β) (Gf : List VarE) (Gy : α → List VarE) (s : Shared) : Prop where
  itb : Itb w A X (eval iter env) T xs s
  xb : XB X s.heap
  len : xs.length ≤ 100
  clc : ∀ n c, (n, c) ∈ cl → ∃ v, s.heap.IsCell c v
  cd : cl.Pairwise fun x y => x.2 ≠ y.2
  sc : ∀ C D h, VA (vw X s.heap) (vw (D :: X) h) → Sc (compEnvC scope (cellsFrom (C + 1) scope.names [] ++ cl) C env) (vw (D :: X) h) Gf
  hG : ∀ y x e, lk Gf x = some e → lk (Gy y) x = some e
  asg : ∀ C D y v s0 s hrs (Q : Unit → Shared → Prop), y ∈ xs → St (compEnvC scope (cellsFrom (C + 1) scope.names [] ++ cl) C env) (C :: (cellsFrom (C + 1) scope.names []).map (·.2)) (D :: X) Gf hrs s0 s → T.rel (vw (D :: X) s.heap) v y →
      (∀ s', St (compEnvC scope (cellsFrom (C + 1) scope.names [] ++ cl) C env) (C :: (cellsFrom (C + 1) scope.names []).map (·.2)) (D :: X) (Gy y) hrs s0 s' → Stp (D :: X) s s' → Q () s') →
      wpAny (model PR w) A (assign target (compEnvC scope (cellsFrom (C + 1) scope.names [] ++ cl) C env) v) Q NoE s
  tst : ∀ C D y s0 s1 hrs, y ∈ xs → HK s.heap s1.heap → St (compEnvC scope (cellsFrom (C + 1) scope.names [] ++ cl) C env) (C :: (cellsFrom (C + 1) scope.names []).map (·.2)) (D :: X) (Gy y) hrs s0 s1 →
      Tst (model PR w) A ifs (compEnvC scope (cellsFrom (C + 1) scope.names [] ++ cl) C env) (p y) s1
  elt : ∀ C D y s0 s1 hrs, y ∈ xs → p y = true → HK s.heap s1.heap → St (compEnvC scope (cellsFrom (C + 1) scope.names [] ++ cl) C env) (C :: (cellsFrom (C + 1) scope.names []).map (·.2)) (D :: X) (Gy y) hrs s0 s1 →
      Ev (model PR w) A (D :: X) (eval elt (compEnvC scope (cellsFrom (C + 1) scope.names [] ++ cl) C env)) U (f y) s1

theorem comp_go {α β : Type} {w : World} {A : Around} {env : Env} {X : List Addr} {T : Ty α} {U : Ty β} {target iter elt : Expr} {ifs : List Expr} {scope : Scope} {pos : Pos} {cl : List (Str × Addr)} {xs : List α} {p : α → Bool} {f : α → β} {Gf : List VarE} {Gy : α → List VarE} {s : Shared}
    {use : Option (Value → Sem Unit)} {Q : Value → Shared → Prop}
    (co : CompOk w A env X T U target iter elt ifs scope cl xs p f Gf Gy s)
    (hclos : closureFor scope env = pure cl) (hkind : scope.kind = .function) (hnames : ∀ x ∈ scope.names, x.2 = .local → scope.names.lookup x.1 = some .local) (hs : ∀ x, foldedSetIterable iter env x = pure x)
    (hQ : ∀ D C s', Keeps s s' → s.heap.get? C = none → (∃ m, s'.heap.Ns C m) → (tList U).rel (vw X s'.heap) (.ref D) ((xs.filter p).map f) → compPost (model PR w) A NoE use Q (.ref D) C (.ok .next) s') :
    wpAny (model PR w) A (comprehension (.ListComp elt [⟨target, iter, ifs, 0⟩] scope pos) scope env (firstIterPos [⟨target, iter, ifs, 0⟩] pos) (newList []) false (eval iter env) use) Q NoE s := by
  refine wpAny_comprehension_free rfl hs hclos hkind hnames (wpAny_mono (co.itb s (kp_refl s)) (fun v s1 p => wpAny_mono p.2 (fun it s2 q => ?_) fun _ _ e => e) fun _ _ e => e)
  obtain ⟨k2, I, rfl, ok⟩ := q
  have k1 := p.1
  refine comp_core (RR := fun acc C => compPost (model PR w) A NoE use Q acc C) _ _ Gf Gy ok (co.xb.up (kp_hk k1)) co.len (fun n c hc => let ⟨v, h⟩ := co.clc n c hc; ⟨v, h.keeps (kp_hk k1)⟩) co.cd
    (fun C D h hv => co.sc C D h ((vw_hk (kp_hk k1)).trans hv)) co.hG co.asg (fun C D y s0 s hrs hy hk => co.tst C D y s0 s hrs hy (HK.trans (kp_hk k1) hk)) (fun C D y s0 s hrs hy hp hk => co.elt C D y s0 s hrs hy hp (HK.trans (kp_hk k1) hk)) ?_
  intro D C h' tk out hD hC hCD hn hpl hout hk
  have hDX : D ∉ X := (co.xb.up (kp_hk k1)).new hD
  have hC0 : s.heap.get? C = none := by
    cases e : s.heap.get? C with
    | none => rfl
    | some o => have := kp_hk k1 _ _ e; rw [hC] at this; cases this
  refine hQ D C _ (kp_trans k1 ?_) hC0 hn ?_
  · obtain ⟨h2, t2, rfl, _⟩ := k2
    exact ⟨h', tk, rfl, hk⟩
  · exact ⟨D, out, rfl, lstV_of hpl.isList hDX, paired_imp (fun _ _ r => U.mono (vw_show (Y := [D])).vk r) hout⟩

theorem ev_comp {α β : Type} {w : World} {A : Around} {env : Env} {X : List Addr} {T : Ty α} {U : Ty β} {target iter elt : Expr} {ifs : List Expr} {scope : Scope} {pos : Pos} {cl : List (Str × Addr)} {xs : List α} {p : α → Bool} {f : α → β} {Gf : List VarE} {Gy : α → List VarE} {s : Shared}
    (co : ∀ s1, Keeps s s1 → CompOk w A env X T U target iter elt ifs scope cl xs p f Gf Gy s1)
    (hclos : closureFor scope env = pure cl) (hkind : scope.kind = .function := by rfl) (hnames : ∀ x ∈ scope.names, x.2 = .local → scope.names.lookup x.1 = some .local := by decide +kernel) (hs : ∀ x, foldedSetIterable iter env x = pure x := by intro _; rfl) :
    Ev (model PR w) A X (eval (.ListComp elt [⟨target, iter, ifs, 0⟩] scope pos) env) (tList U) ((xs.filter p).map f) s := by
  intro s1 k1
  rw [eval_ListComp]
  refine comp_go (use := none) (co s1 k1) hclos hkind hnames hs fun D C s' k hC hn hr => ?_
  obtain ⟨m, hn⟩ := hn
  refine ⟨m, hn, fun h' hs' => ⟨?_, (tList U).mono (vw_sk (sk_ns hn hs')) hr⟩⟩
  exact kp_but (t := s'.toks) k hs' hC

theorem st_assign_comp {α β : Type} {w : World} {A : Around} {env : Env} {ow X : List Addr} {G : List VarE} {hrs : List Heap} {s0 : Shared} {T : Ty α} {U : Ty β} {target iter elt : Expr} {ifs : List Expr} {scope : Scope} {pos : Pos} {cl : List (Str × Addr)} {xs : List α} {p : α → Bool} {f : α → β} {Gf : List VarE} {Gy : α → List VarE} {s : Shared}
    {y : Str} {py spos : Pos} {rest : List Stmt} {Q : Flow → Shared → Prop} (st : St env ow X G hrs s0 s)
    (co : CompOk w A env X T U target iter elt ifs scope cl xs p f Gf Gy s)
    (k : ∀ s', St env ow X (⟨y, List β, tList U, (xs.filter p).map f⟩ :: G) hrs s0 s' → Stp X s s' → wpAny (model PR w) A (execs rest env) Q NoE s')
    (hclos : closureFor scope env = pure cl) (hkind : scope.kind = .function := by rfl) (hnames : ∀ x ∈ scope.names, x.2 = .local → scope.names.lookup x.1 = some .local := by decide +kernel) (hs : ∀ x, foldedSetIterable iter env x = pure x := by intro _; rfl)
    (hsw : swapsWith (.ListComp elt [⟨target, iter, ifs, 0⟩] scope pos) (some (.Name y py)) spos.line env = pure true := by rfl)
    (hl : env.kindOf y = some .local := by rfl) (hk : env.scope.kind = .function := by rfl) :
    wpAny (model PR w) A (execs (.Assign [.Name y py] (.ListComp elt [⟨target, iter, ifs, 0⟩] scope pos) spos :: rest) env) Q NoE s := by
  refine wpAny_execs_cons ?_
  rw [exec_Assign_Name_used _ _ _ _ hsw]
  refine wpAny_bind (wpAny_standAt (wpAny_bind ?_))
  show wpAny _ A (do let _ ← comprehension (.ListComp elt [⟨target, iter, ifs, 0⟩] scope pos) scope env _ (newList []) false (eval iter env) (some (assign (.Name y py) env))) _ _ s
  refine wpAny_bind (wpAny_mono (comp_go (use := some (assign (.Name y py) env)) (Q := fun _ s' => wpAny (model PR w) A (execs rest env) Q NoE s') co hclos hkind hnames hs fun D C s' kp hC hn hr => ?_) (fun _ s' hq => wpAny_pure (wpAny_pure hq)) fun _ _ e => e)
  have st' := st.up kp
  show wpAny _ A (assign (.Name y py) env (.ref D)) _ _ _
  obtain ⟨m, hn⟩ := hn
  obtain ⟨n0, nX, nr⟩ := st.new_ref hC
  have nw : C ∉ ow := by
    intro hm
    rcases st.ok C hm with rfl | ⟨n, hc⟩
    · obtain ⟨m', o', es, ep, ho', _⟩ := st.ns; rw [hC] at ho'; cases ho'
    · obtain ⟨v, o', ho', _⟩ := st.ce n C hc; rw [hC] at ho'; cases ho'
  have hLC : C ≠ env.locals := fun e => nw (e ▸ st.oL)
  refine wpAny_assign_Name ?_
  obtain ⟨mL, hnL⟩ := st'.ns
  refine wpAny_mono (Q := fun _ s'' => St env ow X (⟨y, List β, tList U, (xs.filter p).map f⟩ :: G) hrs s0 s'' ∧ Stp X s' s'' ∧ s''.heap.Ns C m) ?_ (fun _ s'' q => ?_) fun _ _ e => e
  · have own : env.locals ∈ ow := st.oL
    refine wpAny_mono (Q := fun _ s'' => (St env ow X (⟨y, List β, tList U, (xs.filter p).map f⟩ :: G) hrs s0 s'' ∧ Stp X s' s'') ∧ s''.heap.Ns C m) ?_ (fun _ _ q => ⟨q.1.1, q.1.2, q.2⟩) fun _ _ e => e
    refine st_store (st'.push) hr hl hk fun s'' st'' sp => ⟨⟨st''.pop, sp⟩, ?_⟩
    obtain ⟨o, es, ep, ho, r⟩ := hn
    exact ⟨o, es, ep, st''.rf _ List.mem_cons_self C o nX nw ho, r⟩
  · obtain ⟨st'', sp, hn''⟩ := q
    refine ⟨m, hn'', fun h3 hs3 => ?_⟩
    obtain ⟨st3, sp3⟩ := st''.dct hs3 hn'' nw nX n0 nr
    exact k _ st3 ((stp_kp kp).trans (sp.trans sp3))

/-- a name of the frame's that is a cell -/
theorem st_assignC {α : Type} {T : Ty α} {d : α} {M : Model} {A : Around} {env : Env} {ow X : List Addr} {G : List VarE} {hrs : List Heap} {s0 s : Shared} {x : Str} {c : Addr} {p pos : Pos} {value : Expr} {rest : List Stmt} {Q : Flow → Shared → Prop} (st : St env ow X G hrs s0 s) (e : Ev M A X (eval value env) T d s)
    (own : c ∈ ow) (k : ∀ s', St env ow X (⟨x, α, T, d⟩ :: G) hrs s0 s' → Stp X s s' → wpAny M A (execs rest env) Q NoE s')
    (hl : env.kindOf x = some .cell := by rfl) (hc : env.cells.lookup x = some c := by rfl) (hk : env.scope.kind = .function := by rfl)
    (hs : swapsWith value (some (.Name x p)) pos.line env = pure false := by rfl) :
    wpAny M A (execs (.Assign [.Name x p] value pos :: rest) env) Q NoE s := by
  refine wpAny_execs_cons (wpAny_Assign_Name (hs := hs) (e.wp fun v s1 k1 r => ?_))
  exact st_storeC (st.up k1) r hl hc own hk fun s' st' t => k s' st' ((stp_kp k1).trans t)
end Mine

/-! part B9 -/
namespace Mine
open PySem PySem.W PySem.Calls PyProof.Rows
set_option maxRecDepth 100000
set_option linter.unusedVariables false

theorem cells_fst : ∀ (names : List (Str × NameKind)) (n k : Nat) (acc acc' : List (Str × Addr)), acc.map (·.1) = acc'.map (·.1) → (cellsFrom n names acc).map (·.1) = (cellsFrom k names acc').map (·.1)
  | [], _, _, _, _, h => h
  | (name, kind) :: r, n, k, acc, acc', h => by
    unfold cellsFrom
    split
    · exact cells_fst r _ _ _ _ (by simp [h])
    · exact cells_fst r _ _ _ _ h
theorem lookup_nodup {α : Type} : ∀ {l : List (Str × α)}, (l.map (·.1)).Nodup → ∀ x v, (x, v) ∈ l → l.lookup x = some v
  | [], _, _, _, h => by cases h
  | (y, u) :: l, hn, x, v, hm => by
    rw [List.map_cons, List.nodup_cons] at hn
    rcases List.mem_cons.mp hm with e | hm
    · cases e; simp
    · have hne : (x == y) = false := by
        rw [beq_eq_false_iff_ne]
        rintro rfl
        exact hn.1 (List.mem_map.mpr ⟨(x, v), by assumption, rfl⟩)
      simp only [List.lookup_cons, hne]
      exact lookup_nodup hn.2 x v hm

theorem bindL_notin (k : Str → Option NameKind) : ∀ (bs : List (Str × Value)) (m : Str → Option Value) (x : Str), x ∉ bs.map (·.1) → bindL k bs m x = m x
  | [], _, _, _ => rfl
  | (n, v) :: r, m, x, h => by
    rw [List.map_cons, List.mem_cons, not_or] at h
    unfold bindL
    rw [bindL_notin k r _ x h.2]
    split
    · simp [h.1]
    · rfl
theorem bindL_mem (k : Str → Option NameKind) : ∀ (bs : List (Str × Value)) (m : Str → Option Value) (x : Str) (v : Value), (bs.map (·.1)).Nodup → (x, v) ∈ bs → k x = some .local → bindL k bs m x = some v
  | [], _, _, _, _, h, _ => by cases h
  | (n, u) :: r, m, x, v, hn, hm, hk => by
    rw [List.map_cons, List.nodup_cons] at hn
    unfold bindL
    rcases List.mem_cons.mp hm with e | hm
    · cases e
      rw [bindL_notin k r _ _ hn.1, if_pos hk]
      simp
    · exact bindL_mem k r _ x v hn.2 hm hk
theorem bindC_notin (k : Str → Option NameKind) : ∀ (bs : List (Str × Value)) (m : Str → Option Value) (x : Str), x ∉ bs.map (·.1) → bindC k bs m x = m x
  | [], _, _, _ => rfl
  | (n, v) :: r, m, x, h => by
    rw [List.map_cons, List.mem_cons, not_or] at h
    unfold bindC
    rw [bindC_notin k r _ x h.2]
    split
    · rfl
    · simp [h.1]
theorem bindC_mem (k : Str → Option NameKind) : ∀ (bs : List (Str × Value)) (m : Str → Option Value) (x : Str) (v : Value), (bs.map (·.1)).Nodup → (x, v) ∈ bs → k x ≠ some .local → bindC k bs m x = some v
  | [], _, _, _, _, h, _ => by cases h
  | (n, u) :: r, m, x, v, hn, hm, hk => by
    rw [List.map_cons, List.nodup_cons] at hn
    unfold bindC
    rcases List.mem_cons.mp hm with e | hm
    · cases e
      rw [bindC_notin k r _ _ hn.1, if_neg hk]
      simp
    · exact bindC_mem k r _ x v hn.2 hm hk
theorem zip_nodup : ∀ (names : List Str) (vs : List Value), names.Nodup → ((names.zip vs).map (·.1)).Nodup
  | [], _, _ => by simp
  | _ :: _, [], _ => by simp
  | a :: l, b :: vs, hn => by
    rw [List.nodup_cons] at hn
    rw [List.zip_cons_cons, List.map_cons, List.nodup_cons]
    refine ⟨fun hm => hn.1 ?_, zip_nodup l vs hn.2⟩
    obtain ⟨p, hp, e⟩ := List.mem_map.mp hm
    have := (List.of_mem_zip hp).1
    rw [e] at this; exact this

theorem fn_introC {w : World} {f : Addr} {n : Nat} {ds : List Dt} {r : Dt} {o : Obj} {fd : FuncData} {body : List Stmt} (names : List Str)
    (ho : (hd.heap_39 w.params).lookup f = some o) (hfd : o.data = .func fd) (hbody : fd.body = .stmts body) (hcode : codeIn (hd.heap_39 w.params) fd.code fd.qualname = true)
    (hlen : names.length = ds.length)
    (hbind : ∀ vs : List Value, vs.length = ds.length → bindArgs fd ⟨vs, []⟩ = pure (names.zip vs))
    (hnd : names.Nodup) (hpar : ∀ x ∈ names, fd.scope.names.lookup x = some .local ∨ (fd.scope.names.lookup x = some .cell ∧ x ∈ (cellsFrom 0 fd.scope.names []).map (·.1))) (hcn : ((cellsFrom 0 fd.scope.names []).map (·.1)).Nodup)
    (hcl : fd.closure = []) (hco : fd.scope.isCoroutine = false) (hgen : fd.scope.isGenerator = false) (hk : fd.scope.kind = .function)
    (h : ∀ A X s0 s1, AOk n A → Bas w s0.heap → St (callEnvC fd s0.heap.objs.size f) (s0.heap.objs.size :: (cellsFrom (s0.heap.objs.size + 1) fd.scope.names []).map (·.2)) X (binG names ds) [] s0 s1 →
      wpAny (model PR w) A (execs body (callEnvC fd s0.heap.objs.size f)) (fun fl s' => ∃ v, fl = .ret v ∧ Keeps s0 s' ∧ r.T.rel (vw X s'.heap) v r.d) NoE s1) :
    Fn w f (n + 1) ds r := by
  intro A X s vs hA B xb hds
  have hvl := hds.length
  have hcn' : ((cellsFrom (s.heap.objs.size + 1) fd.scope.names []).map (·.1)).Nodup := by rw [cells_fst fd.scope.names _ 0 [] [] rfl]; exact hcn
  have some_of : ∀ x, x ∈ (cellsFrom 0 fd.scope.names []).map (·.1) → ∃ c, (cellsFrom (s.heap.objs.size + 1) fd.scope.names []).lookup x = some c := by
    intro x hx
    rw [cells_fst fd.scope.names 0 (s.heap.objs.size + 1) [] [] rfl] at hx
    obtain ⟨⟨y, c⟩, hm, rfl⟩ := List.mem_map.mp hx
    exact ⟨c, lookup_nodup hcn' _ _ hm⟩
  refine wpAny_call ?_
  refine codeAny_call_cells (fd := fd) (body := body) (binds := names.zip vs) (by have := hA.2.1; omega) (B.K _ _ ho) hfd B.lim (codeRec_of B.K hcode) hbody (hbind vs hvl) hcl
    (fun x hx => ?_) (fun s₁ ic => ?_) hco hgen hk
  · rcases hpar x.1 (List.of_mem_zip hx).1 with h1 | ⟨h1, h2⟩
    · exact .inl h1
    · obtain ⟨c, hc⟩ := some_of x.1 h2
      exact .inr ⟨h1, by rw [hc]; rfl⟩
  have ns0 : ∀ b, s.heap.objs.size ≤ b → s.heap.get? b = none := fun b hb => by
    cases e : s.heap.get? b with
    | none => rfl
    | some o => exact absurd (Heap.lt_size e) (Nat.not_lt.mpr hb)
  have owge : ∀ b ∈ s.heap.objs.size :: (cellsFrom (s.heap.objs.size + 1) fd.scope.names []).map (·.2), s.heap.objs.size ≤ b := by
    intro b hb
    rcases List.mem_cons.mp hb with rfl | hb
    · exact Nat.le_refl _
    · obtain ⟨⟨m, c⟩, hm, rfl⟩ := List.mem_map.mp hb
      exact Nat.le_of_lt (ic.above m c hm)
  have hkp : Keeps s s₁ := by
    obtain ⟨h', t, e⟩ := ic.toInCall.same
    exact ⟨h', t, e, fun b o hb => by have := ic.toInCall.keep b o hb; rw [e] at this; exact this⟩
  have st : St (callEnvC fd s.heap.objs.size f) (s.heap.objs.size :: (cellsFrom (s.heap.objs.size + 1) fd.scope.names []).map (·.2)) X (binG names ds) [] s s₁ := by
    refine ⟨hkp, List.mem_cons_self, ?_, fun b hb => ns0 b (owge b hb), fun b hb => xb.new (ns0 b (owge b hb)), ⟨_, ic.toInCall.ns⟩, fun m c hc => ⟨_, ic.cell m c (lookup_nodup hcn' _ _ hc)⟩, ic.apart, fun x e he => ?_, xb.up (kp_hk hkp), fun _ hh => by cases hh⟩
    · intro b hb
      rcases List.mem_cons.mp hb with rfl | hb
      · exact .inl rfl
      · obtain ⟨⟨m, c⟩, hm, rfl⟩ := List.mem_map.mp hb
        exact .inr ⟨m, hm⟩
    · have hx : e.n = x := by simpa using List.find?_some he
      subst hx
      obtain ⟨v, hv, hr⟩ := binG_mem hds e (List.mem_of_find?_eq_some he)
      refine ⟨v, ?_, e.T.mono (vw_hk (kp_hk hkp)).vk hr⟩
      have hz := zip_nodup names vs hnd
      rcases hpar _ (List.of_mem_zip hv).1 with h1 | ⟨h1, h2⟩
      · exact .inl ⟨h1, _, nsV_of ic.toInCall.ns (xb.new (ns0 _ (Nat.le_refl _))), bindL_mem _ _ _ _ _ hz hv h1⟩
      · obtain ⟨c, hc⟩ := some_of _ h2
        refine .inr ⟨.inl h1, c, hc, ?_⟩
        have hcell := ic.cell _ c hc
        rw [bindC_mem _ _ _ _ _ hz hv (by show fd.scope.names.lookup e.n ≠ _; rw [h1]; decide)] at hcell
        exact cellV_of hcell (xb.new (ns0 c (Nat.le_of_lt (ic.above _ c (mem_of_lookup hc)))))
  refine wpAny_mono (h _ _ _ _ (hA.deeper _) B st) (fun fl s' q => ?_) (fun _ _ q => q.elim)
  obtain ⟨v, rfl, k, hr⟩ := q
  exact ⟨k, hr⟩
end Mine

/-! part C0 -/
namespace Mine
open PySem PySem.W PySem.Calls PyProof.Rows
set_option maxRecDepth 100000
set_option linter.unusedVariables false

theorem len2 {P : List Value → Prop} (h : ∀ a b, P [a, b]) : ∀ vs : List Value, vs.length = 2 → P vs
  | [a, b], _ => h a b
theorem len1 {P : List Value → Prop} (h : ∀ a, P [a]) : ∀ vs : List Value, vs.length = 1 → P vs
  | [a], _ => h a
theorem len5 {P : List Value → Prop} (h : ∀ a b c d e, P [a, b, c, d, e]) : ∀ vs : List Value, vs.length = 5 → P vs
  | [a, b, c, d, e], _ => h a b c d e

section
variable {prog : Program} {w : World} {A : Around} {X : List Addr} {s2 : Shared} {v1 v2 : Value} {a b : Int}
theorem iop_and (r1 : tInt.rel (vw X s2.heap) v1 a) (r2 : tInt.rel (vw X s2.heap) v2 b) : wpAny (model prog w) A (inplaceOp .BitAnd v1 v2) (fun v s3 => Keeps s2 s3 ∧ tInt.rel (vw X s3.heap) v (Builtin.bitAnd a b)) NoE s2 := by
  obtain ⟨t, rfl⟩ := r1; obtain ⟨u, rfl⟩ := r2; exact iand_int ⟨kp_tok _ _, _, rfl⟩
theorem iop_rsh (hb : 0 ≤ b) (r1 : tInt.rel (vw X s2.heap) v1 a) (r2 : tInt.rel (vw X s2.heap) v2 b) : wpAny (model prog w) A (inplaceOp .RShift v1 v2) (fun v s3 => Keeps s2 s3 ∧ tInt.rel (vw X s3.heap) v (a.fdiv (2 ^ b.toNat))) NoE s2 := by
  obtain ⟨t, rfl⟩ := r1; obtain ⟨u, rfl⟩ := r2; exact irshift_int hb ⟨kp_tok _ _, _, rfl⟩
theorem iop_add (r1 : tInt.rel (vw X s2.heap) v1 a) (r2 : tInt.rel (vw X s2.heap) v2 b) : wpAny (model prog w) A (inplaceOp .Add v1 v2) (fun v s3 => Keeps s2 s3 ∧ tInt.rel (vw X s3.heap) v (a + b)) NoE s2 := by
  obtain ⟨t, rfl⟩ := r1; obtain ⟨u, rfl⟩ := r2; exact iadd_int ⟨kp_tok _ _, _, rfl⟩
end

theorem fn_iand (w : World) (a b : Int) : Fn w 57 1 [⟨Int, tInt, a⟩, ⟨Int, tInt, b⟩] ⟨Int, tInt, Builtin.bitAnd a b⟩ := by
  refine fn_intro (n := 0) [Str.ofString "a", Str.ofString "b"] rfl rfl rfl rfl rfl (len2 fun _ _ => rfl) (by decide +kernel) (by decide +kernel) (by decide +kernel) rfl rfl rfl rfl ?_
  intro A X s0 s1 hA B st
  refine st_aug st (ev_load st.sc) (ev_name st.sc) (fun _ _ s2 _ r1 r2 => iop_and r1 r2) fun s2 st2 _ => ?_
  exact st_ret st2 (ev_name st2.sc)
theorem fn_irshift (w : World) (a b : Int) (hb : 0 ≤ b) : Fn w 64 1 [⟨Int, tInt, a⟩, ⟨Int, tInt, b⟩] ⟨Int, tInt, a.fdiv (2 ^ b.toNat)⟩ := by
  refine fn_intro (n := 0) [Str.ofString "a", Str.ofString "b"] rfl rfl rfl rfl rfl (len2 fun _ _ => rfl) (by decide +kernel) (by decide +kernel) (by decide +kernel) rfl rfl rfl rfl ?_
  intro A X s0 s1 hA B st
  refine st_aug st (ev_load st.sc) (ev_name st.sc) (fun _ _ s2 _ r1 r2 => iop_rsh hb r1 r2) fun s2 st2 _ => ?_
  exact st_ret st2 (ev_name st2.sc)

section
variable {w : World} {A : Around} {X : List Addr} {s : Shared} {env : Env}
theorem ev_gint {x : Str} {i : Int} {t : Tok} {pos : Pos} {o : Obj} {es : Array DictEntry} {k : Nat} (B : Bas w s.heap)
    (ho : (hd.heap_39 w.params).lookup mainGlobals = some o := by rfl) (hdo : o.data = .dict es k := by rfl) (hf : (es.toList.find? (·.key.isStr x)).map (·.val) = some (.int i t) := by rfl)
    (hk : env.scope.kind = .function := by rfl) (hx : env.kindOf x = some .globalImplicit := by rfl) (hg : env.globals = mainGlobals := by rfl)
    (hdb : (x == ("__debug__" : Str)) = false := by decide) : Ev (model PR w) A X (eval (.Name x pos) env) tInt i s := by
  intro s1 k1
  have B1 := B.up (kp_hk k1)
  obtain ⟨mean, mg, mb, T⟩ := B1.T
  exact Name_function_global hk hx (loadGlobal_global (hg ▸ T.g) (mg_of B1.K T.g ho hdo hf) ⟨kp_refl _, _, rfl⟩) hdb
end

theorem fn_isterm (w : World) (x : Int) : Fn w 71 1 [⟨Int, tInt, x⟩] ⟨Bool, tBool, decide (x < 256)⟩ := by
  refine fn_intro (n := 0) [Str.ofString "x"] rfl rfl rfl rfl rfl (len1 fun _ => rfl) (by decide +kernel) (by decide +kernel) (by decide +kernel) rfl rfl rfl rfl ?_
  intro A X s0 s1 hA B st
  exact st_ret st (ev_cmp (ev_name st.sc) (ev_gint (i := 256) (B.up (kp_hk st.kp))) fun _ _ s2 _ r1 r2 => cmp_lt s2 r1 r2)

theorem fn_contains (w : World) (ns : List Int) (k : Int) : Fn w 50 1 [⟨List Int, tList tInt, ns⟩, ⟨Int, tInt, k⟩] ⟨Bool, tBool, ns.any (· == k)⟩ := by
  refine fn_intro (n := 0) [Str.ofString "a", Str.ofString "b"] rfl rfl rfl rfl rfl (len2 fun _ _ => rfl) (by decide +kernel) (by decide +kernel) (by decide +kernel) rfl rfl rfl rfl ?_
  intro A X s0 s1 hA B st
  refine st_ret st (ev_cmp (ev_name st.sc) (ev_name st.sc) fun v1 v2 s2 _ r1 r2 => ?_)
  obtain ⟨t, rfl⟩ := r1
  obtain ⟨a, vs, rfl, hl, hp⟩ := r2
  exact in_list_ints hl.list (ints_of hp) ⟨kp_refl _, rfl⟩
end Mine

/-! part R0 -/
namespace Mine
open PySem PySem.W PySem.Calls PyProof.Rows PySem.Builtin
set_option maxRecDepth 100000
set_option linter.unusedVariables false
theorem plainRe : PlainAttrs "re.Pattern" :=
  ⟨⟨"object.__getattribute__", by rw [typeLookup_type, builtinLookup_eq_fast]; kernel_rfl, by decide +kernel⟩, by rw [typeLookup_type, builtinLookup_eq_fast]; kernel_rfl⟩
theorem plainMo : PlainAttrs "re.Match" :=
  ⟨⟨"object.__getattribute__", by rw [typeLookup_type, builtinLookup_eq_fast]; kernel_rfl, by decide +kernel⟩, by rw [typeLookup_type, builtinLookup_eq_fast]; kernel_rfl⟩
theorem type_match : typeOf (.builtin "re.Pattern.match") = pure (.type "method_descriptor") := by show builtinType _ = _; rw [builtinType_eq_fast]; kernel_rfl
theorem entry_match : entryFor table "re.Pattern.match" = some Builtin.«re.Pattern.match» := entryFor_of_tree (by kernel_rfl)
theorem slot_match : Slot "re.Pattern" "match" "re.Pattern.match" :=
  .of (owner := "re.Pattern") (n := "match") (by rw [typeLookup_type, builtinLookup_eq_fast]; kernel_rfl) (by decide +kernel) (by decide +kernel) (by decide +kernel)
    (by first | exact .inl (by decide +kernel) | exact .inr (by decide +kernel)) (by rw [isSubtype_type]; kernel_rfl)
theorem type_group : typeOf (.builtin "re.Match.group") = pure (.type "method_descriptor") := by show builtinType _ = _; rw [builtinType_eq_fast]; kernel_rfl
theorem entry_group : entryFor table "re.Match.group" = some Builtin.«re.Match.group» := entryFor_of_tree (by kernel_rfl)
theorem slot_group : Slot "re.Match" "group" "re.Match.group" :=
  .of (owner := "re.Match") (n := "group") (by rw [typeLookup_type, builtinLookup_eq_fast]; kernel_rfl) (by decide +kernel) (by decide +kernel) (by decide +kernel)
    (by first | exact .inl (by decide +kernel) | exact .inr (by decide +kernel)) (by rw [isSubtype_type]; kernel_rfl)
theorem type_split : typeOf (.builtin "bytes.split") = pure (.type "method_descriptor") := by show builtinType _ = _; rw [builtinType_eq_fast]; kernel_rfl
theorem entry_split : entryFor table "bytes.split" = some Builtin.«bytes.split» := entryFor_of_tree (by kernel_rfl)
theorem slot_split : Slot "bytes" "split" "bytes.split" :=
  .of (owner := "bytes") (n := "split") (by rw [typeLookup_type, builtinLookup_eq_fast]; kernel_rfl) (by decide +kernel) (by decide +kernel) (by decide +kernel)
    (by first | exact .inl (by decide +kernel) | exact .inr (by decide +kernel)) (by rw [isSubtype_type]; kernel_rfl)
theorem args_match (a b : Value) : argsOk "re.Pattern.match" ⟨[a, b], []⟩ := by
  first
  | rfl
  | (unfold argsOk; rw [signature?_of (id := "re.Pattern.match") (n := ['h','c','t','a','m']) (o := ['n','r','e','t','t','a','P','.','e','r']) (by kernel_rfl) (by kernel_rfl)]; kernel_rfl)
theorem args_group (a b : Value) : argsOk "re.Match.group" ⟨[a, b], []⟩ := by
  first
  | rfl
  | (unfold argsOk; rw [signature?_of (id := "re.Match.group") (n := ['p','u','o','r','g']) (o := ['h','c','t','a','M','.','e','r']) (by kernel_rfl) (by kernel_rfl)]; kernel_rfl)
theorem args_split (a : Value) : argsOk "bytes.split" ⟨[a], []⟩ := by
  first
  | rfl
  | (unfold argsOk; rw [signature?_of (id := "bytes.split") (n := ['t','i','l','p','s']) (o := ['s','e','t','y','b']) (by kernel_rfl) (by kernel_rfl)]; kernel_rfl)
end Mine

/-! part R1 -/
namespace Mine
open PySem PySem.W PySem.Calls PyProof.Rows PySem.Builtin PySem.Builtin.Re
set_option maxRecDepth 100000
set_option linter.unusedVariables false

def drv : Nat → Sre.M → Option Sre.M
  | 0, _ => none
  | k + 1, m => if (m.runFor 4).outcome.isSome = true then some (m.runFor 4) else drv k (m.runFor 4)

section
variable {M : Model} {A : Around} {E : Value → Shared → Prop} {s : Shared}
theorem drive_ok : ∀ (k : Nat) (m m' : Sre.M) (n : Nat) {Q : Sre.M → Shared → Prop}, drv k m = some m' → Q m' s → wpAny M A (reDrive (n + k) m) Q E s
  | 0, m, m', n, Q, h, hq => by cases h
  | k + 1, m, m', n, Q, h, hq => by
    show wpAny M A (if (m.runFor 4).outcome.isSome = true then pure (m.runFor 4) else do rule "sre.turn"; reDrive (n + k) (m.runFor 4)) Q E s
    unfold drv at h
    by_cases ho : (m.runFor 4).outcome.isSome = true
    · rw [if_pos ho] at h ⊢
      cases h
      exact wpAny_pure hq
    · rw [if_neg ho] at h ⊢
      exact wpAny_bind (wpAny_rule (drive_ok k _ m' n h hq))
theorem rules_ok {l : List Nat} {f : Nat → PUnit → Sem (ForInStep PUnit)} (hf : ∀ i (Q : ForInStep PUnit → Shared → Prop), Q (.yield ⟨⟩) s → wpAny M A (f i ⟨⟩) Q E s) {Q : PUnit → Shared → Prop} (h : Q ⟨⟩ s) : wpAny M A (forIn l ⟨⟩ f) Q E s := by
  induction l with
  | nil => exact wpAny_pure h
  | cons a l ih =>
    rw [List.forIn_cons]
    exact wpAny_bind (hf a _ ih)
theorem run_ok (k : Nat) (hk : k ≤ 1000) {m m' : Sre.M} {Q : Option Sre.M → Shared → Prop} (hd : drv k m = some m') (ho : m'.outcome = some .matched) (h : Q (some m') s) : wpAny M A (reRunToEnd m) Q E s := by
  unfold reRunToEnd
  refine wpAny_bind ?_
  rw [show (2 ^ 64 : Nat) = (2 ^ 64 - k) + k by omega]
  refine drive_ok k m m' _ hd ?_
  refine wpAny_bind (rules_ok (fun i Q hq => ?_) ?_)
  · show wpAny M A (if m'.seen.has i = true then _ else _) _ _ _
    split
    · exact wpAny_bind (wpAny_rule (wpAny_pure hq))
    · exact wpAny_pure hq
  · rw [ho]; exact wpAny_pure h
theorem run_fails (k : Nat) (hk : k ≤ 1000) {m m' : Sre.M} {Q : Option Sre.M → Shared → Prop} (hd : drv k m = some m') (ho : m'.outcome = some .failed) (h : Q none s) : wpAny M A (reRunToEnd m) Q E s := by
  unfold reRunToEnd
  refine wpAny_bind ?_
  rw [show (2 ^ 64 : Nat) = (2 ^ 64 - k) + k by omega]
  refine drive_ok k m m' _ hd ?_
  refine wpAny_bind (rules_ok (fun i Q hq => ?_) ?_)
  · show wpAny M A (if m'.seen.has i = true then _ else _) _ _ _
    split
    · exact wpAny_bind (wpAny_rule (wpAny_pure hq))
    · exact wpAny_pure hq
  · rw [ho]; exact wpAny_pure h
end

def reCode : Array Nat := #[14, 4, 0, 8, 4294967295, 24, 5, 0, 4294967295, 2, 1, 16, 70, 16, 76, 16, 65, 16, 71, 16, 83, 16, 32, 16, 40, 17, 0, 24, 6, 0, 4294967295, 20, 41, 1, 17, 1, 16, 41, 1]
theorem reCode_eq : (Array.map (fun x : Int => x.toNat) (Array.map reRawOf ((some #[Value.int 14 0, Value.int 4 0, Value.int 0 0, Value.int 8 0, Value.int 4294967295 0, Value.int 24 0,
            Value.int 5 0, Value.int 0 0, Value.int 4294967295 0, Value.int 2 0, Value.int 1 0, Value.int 16 0,
            Value.int 70 0, Value.int 16 0, Value.int 76 0, Value.int 16 0, Value.int 65 0, Value.int 16 0, Value.int 71 0,
            Value.int 16 0, Value.int 83 0, Value.int 16 0, Value.int 32 0, Value.int 16 0, Value.int 40 0, Value.int 17 0,
            Value.int 0 0, Value.int 24 0, Value.int 6 0, Value.int 0 0, Value.int 4294967295 0, Value.int 20 0,
            Value.int 41 0, Value.int 1 0, Value.int 17 0, Value.int 1 0, Value.int 16 0, Value.int 41 0, Value.int 1 0] : Option (Array Value)).getD #[]))) = reCode := by decide +kernel
def mTgt (b : Array UInt8) : Sre.M := Sre.forMatch reCode (b.map (·.toNat)) 1 (min (0:Int).toNat (b.map (·.toNat)).size) (min (2 ^ 63 - 1 : Int).toNat (b.map (·.toNat)).size) false false

theorem target_ok {w : World} {A : Around} {E : Value → Shared → Prop} {s : Shared} {b : Array UInt8} {t : Tok} {Q : ReTarget → Shared → Prop} (K : (hd.heap_39 w.params).In s.heap)
    (h : Q { pattern := .ref 36, string := .bytes b t, code := reCode, text := b.map (·.toNat), kind := 1, groups := 1, pos := min (0:Int).toNat (b.map (·.toNat)).size, lim := min (2 ^ 63 - 1 : Int).toNat (b.map (·.toNat)).size } s) :
    wpAny (model PR w) A (reTarget "re.Pattern.match" "match" ⟨[.ref 36, .bytes b t], []⟩) Q E s := by
  unfold reTarget
  simp only []
  have h36 := K 36 _ rfl
  have h35 := K 35 _ rfl
  have hn : reNamed "re.Pattern.match" "match" ["string", "pos", "endpos"] 1 [.bytes b t] [] = pure [some (.bytes b t), none, none] := by rfl
  rw [hn]
  refine wpAny_bind (wpAny_pure ?_)
  simp only []
  refine wpAny_bind (wpAny_pure ?_)
  refine wpAny_bind (wpAny_pure ?_)
  refine wpAny_bind (wpAny_fieldsOf h36 rfl ?_)
  refine wpAny_bind ?_
  · refine wpAny_mono (Q := fun r s' => r = (b.map (·.toNat), 1) ∧ s' = s) ?_ ?_ fun _ _ e => e
    · unfold reTextOf
      refine wpAny_bind (wpAny_pure (a := none) ?_)
      simp only []
      have hq : Bytes.bufferQuiet? "_sre" (.bytes b t) = pure (some b) := KBy.quiet_eq
      rw [hq]
      exact wpAny_bind (wpAny_pure (wpAny_pure ⟨rfl, rfl⟩))
    · rintro r s' ⟨rfl, rfl⟩
      simp only []
      rw [if_neg (by simp [reRawNat])]
      have e2 : ∀ x : Bool, ¬ ((x && ((1:Nat) == 0)) = true) := by decide
      rw [if_neg (e2 _)]
      refine wpAny_bind ?_
      unfold reNoCollectionInside
      rw [if_pos (by rfl)]
      refine wpAny_bind (wpAny_isInstance (typeIs_bytes _ _ _) F.sub_bytes_bytes ?_)
      refine wpAny_pure ?_
      refine wpAny_bind ?_
      unfold reRawItems
      refine wpAny_bind (wpAny_seqItems h35 rfl (wpAny_pure ?_))
      refine wpAny_pure ?_
      exact Eq.mp (congrArg (fun c => Q { pattern := .ref 36, string := .bytes b t, code := c, text := b.map (·.toNat), kind := 1, groups := 1, pos := min (0:Int).toNat (b.map (·.toNat)).size, lim := min (2 ^ 63 - 1 : Int).toNat (b.map (·.toNat)).size } s') reCode_eq.symm) h

section
variable {w : World} {A : Around} {E : Value → Shared → Prop} {s : Shared} {b : Array UInt8} {t : Tok}
theorem match_none (k : Nat) (hk : k ≤ 1000) {m' : Sre.M} (hd : drv k (mTgt b) = some m') (ho : m'.outcome = some .failed) {Q : Value → Shared → Prop} (K : (Mine.hd.heap_39 w.params).In s.heap)
    (h : Q .none s) : wpAny (model PR w) A (call (.builtin "re.Pattern.match") [.ref 36, .bytes b t]) Q E s := by
  refine wpAny_call_entry slot_match ⟨_, K 36 _ rfl, rfl⟩ entry_match ?_ (args_match _ _)
  unfold «re.Pattern.match»
  refine wpAny_bind (target_ok K ?_)
  unfold reAnswer
  refine wpAny_bind (run_fails k hk hd ho ?_)
  exact wpAny_pure ⟨_, rfl, h⟩
theorem match_some (k : Nat) (hk : k ≤ 1000) {m' : Sre.M} {i j : Nat} (hd : drv k (mTgt b) = some m') (ho : m'.outcome = some .matched) (hl : (1 : Int) ≤ m'.lastmark) (h1 : m'.marks.getD 0 none = some i) (h2 : m'.marks.getD 1 none = some j) (hij : i ≤ j)
    {Q : Value → Shared → Prop} (K : (Mine.hd.heap_39 w.params).In s.heap)
    (h : ∀ x1 x2 x3 x4 x5, Q (.ref (s.heap.objs.size + 1)) { s with heap := (s.heap.push { cls := .type "tuple", data := .seq [x1, x2, rawInt i, rawInt j].toArray }).push { cls := .type "re.Match", data := .fields [.bytes b t, .ref 36, x3, x4, x5, .ref s.heap.objs.size].toArray } }) :
    wpAny (model PR w) A (call (.builtin "re.Pattern.match") [.ref 36, .bytes b t]) Q E s := by
  refine wpAny_call_entry slot_match ⟨_, K 36 _ rfl, rfl⟩ entry_match ?_ (args_match _ _)
  unfold «re.Pattern.match»
  refine wpAny_bind (target_ok K ?_)
  unfold reAnswer
  refine wpAny_bind (run_ok k hk hd ho ?_)
  refine wpAny_bind ?_
  unfold reNewMatch
  have hl' : ((2 * 0 + 1 : Nat) : Int) ≤ m'.lastmark := by simpa using hl
  have es : (List.flatMap
    (fun g =>
      match if ((2 * g + 1 : Nat) : Int) ≤ m'.lastmark then (m'.marks.getD (2 * g) none, m'.marks.getD (2 * g + 1) none) else (none, none) with
      | (some b, some e) => [rawInt b, rawInt e]
      | _ => [rawInt (-1), rawInt (-1)]) (List.range 1)) = [rawInt i, rawInt j] := by
    show List.flatMap _ [0] = _
    rw [List.flatMap_cons, List.flatMap_nil, List.append_nil]
    rw [if_pos hl', show 2 * 0 = 0 from rfl, show 0 + 1 = 1 from rfl, h1, h2]
  have eb : ((List.range 1).any fun g => match m'.marks.getD (2 * g) none, m'.marks.getD (2 * g + 1) none with | some b, some e => ((2 * g + 1 : Nat) : Int) ≤ m'.lastmark && e < b | _, _ => false) = false := by
    show List.any [0] _ = _
    rw [List.any_cons, List.any_nil, Bool.or_false]
    rw [show 2 * 0 = 0 from rfl, show 0 + 1 = 1 from rfl, h1, h2]
    simp; omega
  show wpAny _ _ (if ((List.range 1).any fun g => match m'.marks.getD (2 * g) none, m'.marks.getD (2 * g + 1) none with | some b, some e => ((2 * g + 1 : Nat) : Int) ≤ m'.lastmark && e < b | _, _ => false) = true then _ else _) _ _ _
  rw [eb, if_neg Bool.false_ne_true]
  show wpAny _ _ (do let x ← newTuple (rawInt m'.start :: rawInt m'.handed :: List.flatMap
    (fun g =>
      match if ((2 * g + 1 : Nat) : Int) ≤ m'.lastmark then (m'.marks.getD (2 * g) none, m'.marks.getD (2 * g + 1) none) else (none, none) with
      | (some b, some e) => [rawInt b, rawInt e]
      | _ => [rawInt (-1), rawInt (-1)]) (List.range 1)); _) _ _ _
  rw [es]
  refine wpAny_bind (wpAny_newTuple ?_ (by show 4 ≤ sizeLine; decide))
  unfold newFields
  refine wpAny_newObj_type ?_
  refine wpAny_pure ⟨_, rfl, ?_⟩
  have hsz : (s.heap.push { cls := .type "tuple", data := .seq [rawInt m'.start, rawInt m'.handed, rawInt i, rawInt j].toArray }).objs.size = s.heap.objs.size + 1 := Heap.size_push ..
  have := h (rawInt m'.start) (rawInt m'.handed)
  show Q (.ref (Heap.objs (s.heap.push { cls := .type "tuple", data := .seq [rawInt m'.start, rawInt m'.handed, rawInt i, rawInt j].toArray })).size) _
  rw [hsz]
  exact h _ _ _ _ _
end

def MoAt (h : Heap) (a : Addr) (b : Array UInt8) (i j : Nat) : Prop := ∃ t o x1 x2 x3 x4 x5 T o2 n, h.get? a = some o ∧ o.cls = .type "re.Match" ∧ o.dict = none ∧ o.data = .fields [.bytes b t, .ref 36, x3, x4, x5, .ref T].toArray ∧
  h.get? T = some o2 ∧ o2.data = .seq [x1, x2, rawInt i, rawInt j].toArray n

theorem strMap {w : World} {h : Heap} (K : (hd.heap_39 w.params).In h) : h.MapOf (strKind PR w) 33 (fun k => if k = Str.ofString "flags" then some (.int 1 328) else none) := by
  refine ⟨_, _, _, K 33 _ rfl, ⟨rfl, rfl, rfl⟩, rfl, ?_, ?_⟩
  · intro e he
    have he' := Array.mem_singleton.mp he
    subst he'
    exact ⟨Str.ofString "flags", strKind_is _ _ _ _, rfl⟩
  · intro k
    by_cases hk : k = Str.ofString "flags"
    · subst hk
      simp only [if_true]
      rfl
    · simp only [if_neg hk]
      unfold findBy
      have : (strKind PR w).is k (Value.str (Str.ofString "flags") 327) = false := by
        cases hb : (strKind PR w).is k (Value.str (Str.ofString "flags") 327) with
        | false => rfl
        | true => exact absurd ((strKind PR w).inj _ _ _ hb (strKind_is _ _ _ _)) hk
      simp [this]

section
variable {w : World} {A : Around} {E : Value → Shared → Prop} {s : Shared} {b : Array UInt8} {t : Tok}
theorem group_ok {a : Addr} {i j : Nat} {Q : Value → Shared → Prop} (K : (Mine.hd.heap_39 w.params).In s.heap) (hm : MoAt s.heap a b i j)
    (h : ∀ tk t', Q (.bytes ((b.map (·.toNat)).extract i j |>.map (·.toUInt8)) t') { s with toks := tk }) (hf : b.size ≤ 1000) :
    wpAny (model PR w) A (call (.builtin "re.Match.group") [.ref a, .str (Str.ofString "flags") t]) Q E s := by
  obtain ⟨t0, o, x1, x2, x3, x4, x5, T, o2, n, ho, hc, hdn, hd, ho2, hd2⟩ := hm
  refine wpAny_call_entry slot_group ⟨_, ho, hc⟩ entry_group ?_ (args_group _ _)
  unfold «re.Match.group»
  refine wpAny_bind (wpAny_pure ?_)
  simp only []
  refine wpAny_bind ?_
  unfold reFound
  refine wpAny_bind (wpAny_fieldsOf ho hd ?_)
  refine wpAny_bind ?_
  unfold reRawItems
  refine wpAny_bind (wpAny_seqItems ho2 hd2 (wpAny_pure ?_))
  refine wpAny_pure ?_
  refine wpAny_bind ?_
  unfold reGroupNumber
  refine wpAny_bind (wpAny_pure (a := none) ?_)
  refine wpAny_bind (wpAny_specialOf (typeIs_str _ _ _) (r := none) (by rw [typeLookup_type, builtinLookup_eq_fast]; kernel_rfl) ?_)
  refine wpAny_bind (wpAny_fieldsOf (K 36 _ rfl) rfl ?_)
  show wpAny _ _ (dictGet 33 (.str (Str.ofString "flags") t) >>= _) _ _ _
  refine wpAny_bind (wpAny_dictGet_of (knd := strKind PR w) (strKind_is _ _ _ _) (strMap K) ?_)
  rw [if_pos rfl]
  refine wpAny_bind (wpAny_pure (a := some 1) ?_)
  refine wpAny_bind (wpAny_pure ?_)
  have esz : (Array.map reRawOf ((some #[x1, x2, rawInt (i:Int), rawInt (j:Int)] : Option (Array Value)).getD #[])) = #[reRawOf x1, reRawOf x2, (i : Int), (j : Int)] := by simp [reRawOf, rawInt]
  rw [esz]
  simp only []
  rw [if_neg (by simp)]
  refine wpAny_pure ?_
  unfold reGroupText
  refine wpAny_bind ?_
  have e1 : (#[reRawOf x1, reRawOf x2, (i : Int), (j : Int)] : Array Int).getD (2 * (((some (1:Int)).getD (-1)).toNat)) (-1) = (i : Int) := by rfl
  have e2 : (#[reRawOf x1, reRawOf x2, (i : Int), (j : Int)] : Array Int).getD (2 * (((some (1:Int)).getD (-1)).toNat) + 1) (-1) = (j : Int) := by rfl
  simp only [e1, e2]
  rw [if_neg (by simp)]
  refine wpAny_bind ?_
  refine wpAny_mono (Q := fun r s' => r = (b.map (·.toNat), 1) ∧ s' = { s with toks := s.toks + 1 }) ?_ ?_ fun _ _ e => e
  · unfold reTextOf
    refine wpAny_bind (wpAny_pure (a := none) ?_)
    simp only []
    have hq : Bytes.bufferQuiet? "_sre" (.bytes b t0) = pure (some b) := KBy.quiet_eq
    show wpAny _ _ (Bytes.bufferQuiet? "_sre" (.bytes b t0) >>= _) _ _ _
    rw [hq]
    exact wpAny_bind (wpAny_pure (wpAny_pure ⟨rfl, rfl⟩))
  rintro r s' ⟨rfl, rfl⟩
  simp only []
  unfold reSlice
  refine wpAny_mkBytes ?_ ?_
  · exact wpAny_pure ⟨_, rfl, h _ _⟩
  · rw [Array.size_map, Array.size_extract, Array.size_map, sizeLine_eq]
    omega
end
end Mine

/-! part R2 -/
namespace Mine
open PySem PySem.W PySem.Calls PyProof.Rows PySem.Builtin
set_option maxRecDepth 100000
set_option linter.unusedVariables false

theorem mk_all {M : Model} {A : Around} {E : Value → Shared → Prop} : ∀ (ws : List (List UInt8)) (s : Shared) {Q : List Value → Shared → Prop}, (∀ l ∈ ws, l.length ≤ 1000) →
    (∀ vs tk, vs.length = ws.length → (∀ g, Paired (tBytes.rel g) vs (ws.map List.toArray)) → Q vs { s with toks := tk }) → wpAny M A (ws.mapM fun l => Bytes.Kind.bytes.new l.toArray) Q E s
  | [], s, Q, hl, h => by
    rw [List.mapM_nil]
    exact wpAny_pure (h [] s.toks rfl fun _ => .nil)
  | l :: ws, s, Q, hl, h => by
    rw [List.mapM_cons]
    refine wpAny_bind ?_
    show wpAny M A (mkBytes l.toArray) _ E s
    refine wpAny_mkBytes ?_ (by have := hl l List.mem_cons_self; rw [sizeLine_eq]; simp; omega)
    refine wpAny_bind (mk_all ws _ (fun l' hl' => hl l' (List.mem_cons_of_mem _ hl')) fun vs tk hv hp => ?_)
    refine wpAny_pure (h _ _ (by simp [hv]) fun g => ?_)
    exact .cons ⟨_, rfl⟩ (hp g)

section
variable {w : World} {A : Around} {E : Value → Shared → Prop} {s : Shared} {b : Array UInt8} {t : Tok}
theorem split_ok {ws : List (List UInt8)} {Q : Value → Shared → Prop} (hws : Bytes.words (b.size + 1) (b.size + 1) b.toList = ws) (hsp : b.any Bytes.isSpace = true) (hl : ∀ l ∈ ws, l.length ≤ 1000) (hn : ws.length ≤ 100)
    (h : ∀ vs tk, (∀ g, Paired (tBytes.rel g) vs (ws.map List.toArray)) → Q (.ref s.heap.objs.size) { s with heap := s.heap.push { cls := .type "list", data := .seq vs.toArray }, toks := tk }) :
    wpAny (model PR w) A (call (.builtin "bytes.split") [.bytes b t]) Q E s := by
  refine wpAny_call_entry slot_split (typeIs_bytes _ _ _) entry_split ?_ (args_split _)
  unfold «bytes.split» Bytes.splitM
  simp only []
  have hb : Bytes.bindOptional (toString (Bytes.Kind.bytes.name) ++ toString "." ++ toString "split") "split" ["sep", "maxsplit"] [] [] = pure [none, none] := rfl
  show wpAny _ _ (Bytes.bindOptional _ "split" ["sep", "maxsplit"] [] [] >>= _) _ _ _
  rw [show ∀ i, Bytes.bindOptional i "split" ["sep", "maxsplit"] [] [] = pure [none, none] from fun _ => rfl]
  refine wpAny_bind (wpAny_pure ?_)
  simp only []
  refine wpAny_bind (wpAny_pure ?_)
  rw [show Bytes.payload (.bytes b t) = pure b from rfl]
  refine wpAny_bind (wpAny_pure ?_)
  refine wpAny_bind (wpAny_rule ?_)
  rw [if_neg (by simp [hsp])]
  rw [if_neg Bool.false_ne_true, if_pos (show (-1 : Int) < 0 by decide), hws]
  refine wpAny_bind ?_
  refine mk_all ws s hl fun vs tk hv hp => ?_
  refine wpAny_bind (wpAny_newObj_type ?_ (by show vs.toArray.size ≤ sizeLine; rw [List.size_toArray, sizeLine_eq]; omega))
  exact wpAny_pure ⟨_, rfl, h vs tk hp⟩
end
end Mine

/-! part R3 -/
namespace Mine
open PySem PySem.Sre
set_option maxRecDepth 100000
set_option linter.unusedVariables false

inductive Rn : Nat → M → M → Prop
  | nil (m : M) : Rn 0 m m
  | cons {n : Nat} {m m' : M} : m.outcome = none → Rn n m.step m' → Rn (n + 1) m m'
theorem Rn.trans {a b : Nat} {m m' m'' : M} (h : Rn a m m') (h' : Rn b m' m'') : Rn (a + b) m m'' := by
  induction h with
  | nil => rw [Nat.zero_add]; exact h'
  | cons ho _ ih => rw [Nat.add_right_comm]; exact .cons ho (ih h')
theorem Rn.one {m m' : M} (h : m.outcome = none) (e : m.step = m') : Rn 1 m m' := .cons h (e ▸ .nil _)

theorem runFor_rn : ∀ (k n : Nat) (m m' : M), Rn n m m' → m'.outcome.isSome = true → (n ≤ k ∧ m.runFor k = m') ∨ (k < n ∧ (m.runFor k).outcome = none ∧ Rn (n - k) (m.runFor k) m')
  | 0, 0, m, m', h, ho => by cases h; exact .inl ⟨Nat.le_refl _, rfl⟩
  | 0, n + 1, m, m', h, ho => by
    refine .inr ⟨Nat.succ_pos _, ?_, h⟩
    cases h with
    | cons h1 _ => exact h1
  | k + 1, 0, m, m', h, ho => by
    cases h
    refine .inl ⟨Nat.zero_le _, ?_⟩
    show (if m.outcome.isSome = true then m else _) = m
    rw [if_pos ho]
  | k + 1, n + 1, m, m', h, ho => by
    cases h with
    | cons h1 h2 =>
      have e : m.runFor (k + 1) = m.step.runFor k := by
        show (if m.outcome.isSome = true then m else m.step.runFor k) = _
        rw [h1]; rfl
      rw [e]
      rcases runFor_rn k n m.step m' h2 ho with ⟨a, b⟩ | ⟨a, b, c⟩
      · exact .inl ⟨Nat.succ_le_succ a, b⟩
      · exact .inr ⟨Nat.succ_lt_succ a, b, by rw [Nat.add_sub_add_right]; exact c⟩
theorem drv_rn : ∀ (f n : Nat) (m m' : M), n < f → Rn n m m' → m'.outcome.isSome = true → drv f m = some m'
  | 0, n, m, m', h, _, _ => absurd h (Nat.not_lt_zero _)
  | f + 1, n, m, m', h, hr, ho => by
    unfold drv
    rcases runFor_rn 4 n m m' hr ho with ⟨a, b⟩ | ⟨a, b, c⟩
    · rw [b, if_pos ho]
    · rw [b]
      exact drv_rn f (n - 4) _ _ (by omega) c ho

theorem run_any (t : Array Nat) (seen : Seen) : ∀ (n p found : Nat), (∀ i, p ≤ i → i < p + n → t.getD i 0 ≠ 10) → Sre.run reCode t 9 n p found seen = .ok (found + n, seen)
  | 0, p, found, _ => rfl
  | n + 1, p, found, h => by
    have hc : (t.getD p 0 != 10) = true := by
      have := h p (Nat.le_refl _) (by omega)
      simpa using this
    have ha : accepts reCode 9 (t.getD p 0) seen = .ok (true, seen) := by
      show Except.ok (t.getD p 0 != 10, seen) = _
      rw [hc]
    show (do let (yes, seen) ← accepts reCode 9 (t.getD p 0) seen; if yes then Sre.run reCode t 9 n (p + 1) (found + 1) seen else pure (found, seen)) = _
    rw [ha]
    show Sre.run reCode t 9 n (p + 1) (found + 1) seen = _
    rw [run_any t seen n (p + 1) (found + 1) fun i h1 h2 => h i (by omega) (by omega)]
    rw [Nat.add_assoc, Nat.add_comm 1 n]
theorem run_not (t : Array Nat) (seen : Seen) : ∀ (n p found k : Nat), (∀ i, p ≤ i → i < p + k → t.getD i 0 ≠ 41) → t.getD (p + k) 0 = 41 → k < n → Sre.run reCode t 31 n p found seen = .ok (found + k, seen)
  | 0, p, found, k, _, _, h => absurd h (Nat.not_lt_zero _)
  | n + 1, p, found, 0, _, h1, _ => by
    have ha : accepts reCode 31 (t.getD p 0) seen = .ok (false, seen) := by
      show Except.ok (t.getD p 0 != 41, seen) = _
      rw [show t.getD p 0 = 41 from h1]; rfl
    show (do let (yes, seen) ← accepts reCode 31 (t.getD p 0) seen; if yes then Sre.run reCode t 31 n (p + 1) (found + 1) seen else pure (found, seen)) = _
    rw [ha]; rfl
  | n + 1, p, found, k + 1, h, h1, hk => by
    have hc : (t.getD p 0 != 41) = true := by
      have := h p (Nat.le_refl _) (by omega)
      simpa using this
    have ha : accepts reCode 31 (t.getD p 0) seen = .ok (true, seen) := by
      show Except.ok (t.getD p 0 != 41, seen) = _
      rw [hc]
    show (do let (yes, seen) ← accepts reCode 31 (t.getD p 0) seen; if yes then Sre.run reCode t 31 n (p + 1) (found + 1) seen else pure (found, seen)) = _
    rw [ha]
    show Sre.run reCode t 31 n (p + 1) (found + 1) seen = _
    rw [run_not t seen n (p + 1) (found + 1) k (fun i h1 h2 => h i (by omega) (by omega)) (by rw [Nat.add_assoc, Nat.add_comm 1 k]; exact h1) (by omega)]
    rw [Nat.add_assoc, Nat.add_comm 1 k]

def fr1 (k : Nat) : Sre.Frame := { wait := .giveBack, pc := 5, pos := k, outermost := true, count := k, kept := { lastmark := -1, lastindex := -1, whole := false, marks := #[] } }
/-- at a literal, behind k characters -/
def stA (t : Array Nat) (seen : Seen) (k : Nat) : M :=
  { code := reCode, text := t, lim := t.size, start := 0, pc := 11, pos := k, handed := k, marks := #[none, none], frames := [fr1 k], weight := 1, seen }
def stB (t : Array Nat) (seen : Seen) (k : Nat) : M :=
  { code := reCode, text := t, lim := t.size, start := 0, pc := 11, pos := k, handed := k, marks := #[none, none], frames := [fr1 k], weight := 1, seen, answer := some false }
def st0 (t : Array Nat) : M := { code := reCode, text := t, lim := t.size, start := 0, pc := 5, pos := 0, handed := 0, marks := #[none, none], seen := ({} : Seen).add 14 }
def sn1 : Seen := (({} : Seen).add 14 |>.add 24 |>.add 2)
def sn2 : Seen := sn1.add 16

theorem step0 (t : Array Nat) (h : ∀ i, i < t.size → t.getD i 0 ≠ 10) (hn : t.size ≤ 4294967295) : (st0 t).step = stA t sn1 t.size := by
  have hr := run_any t sn1 t.size 0 0 (fun i _ h2 => h i (by omega))
  rw [Nat.zero_add] at hr
  have hm : min 4294967295 ((t.size : Int) - (0 : Nat)).toNat = t.size := by omega
  have e : (st0 t).step = (st0 t).exec := rfl
  rw [e]
  unfold M.exec
  have hop : ops[(st0 t).word 0]? = some .REPEAT_ONE := rfl
  simp only [hop]
  split
  · rename_i hc
    have hc' : ((0 : Nat) : Int) > (t.size : Int) - (0 : Nat) := hc
    omega
  · split
    · rename_i hq
      have hq' : Sre.run reCode t 9 (min 4294967295 ((t.size : Int) - (0 : Nat)).toNat) 0 0 sn1 = _ := hq
      rw [hm, hr] at hq'
      cases hq'
    · rename_i n seen hq
      have hq' : Sre.run reCode t 9 (min 4294967295 ((t.size : Int) - (0 : Nat)).toNat) 0 0 sn1 = _ := hq
      rw [hm, hr] at hq'
      cases hq'
      refine (if_neg (show ¬ t.size < 0 from Nat.not_lt_zero _)).trans ?_
      unfold M.afterRun M.attempt
      refine (if_neg (show ¬ 0 + 1 + (#[] : Array (Option Nat)).size > 16777216 by decide)).trans ?_
      · show ({ code := reCode, text := t, lim := t.size, start := 0, pc := 11, pos := 0 + t.size, handed := 0 + t.size, marks := #[none, none], frames := [{ wait := .giveBack, pc := 5, pos := 0 + t.size, outermost := true, count := t.size, kept := { lastmark := -1, lastindex := -1, whole := false, marks := #[] } }], weight := 1, seen := sn1 } : M) = _
        rw [Nat.zero_add]
        rfl

theorem stepA_end (t : Array Nat) (seen : Seen) : (stA t seen t.size).step = stB t (seen.add 16) t.size := by
  have e : (stA t seen t.size).step = (stA t seen t.size).exec := rfl
  rw [e]
  unfold M.exec
  have hop : ops[(stA t seen t.size).word 0]? = some .LITERAL := rfl
  simp only [hop]
  split
  · rfl
  · rename_i hc
    exact absurd (Nat.le_refl t.size) hc
theorem stepA_no (t : Array Nat) (seen : Seen) (k : Nat) (hk : k < t.size) (h : t.getD k 0 ≠ 70) : (stA t seen k).step = stB t (seen.add 16) k := by
  have e : (stA t seen k).step = (stA t seen k).exec := rfl
  rw [e]
  unfold M.exec
  have hop : ops[(stA t seen k).word 0]? = some .LITERAL := rfl
  simp only [hop]
  have ha : accepts reCode 11 (t.getD k 0) (seen.add 16) = .ok (false, seen.add 16) := by
    show Except.ok (t.getD k 0 == 70, seen.add 16) = _
    rw [show (t.getD k 0 == 70) = false by simpa using h]
  split
  · rename_i hc
    exact absurd hk (Nat.not_lt.mpr hc)
  · split
    · rename_i hq
      have hq' : accepts reCode 11 (t.getD k 0) (seen.add 16) = _ := hq
      rw [ha] at hq'; cases hq'
    · rename_i sn hq
      have hq' : accepts reCode 11 (t.getD k 0) (seen.add 16) = _ := hq
      rw [ha] at hq'; cases hq'
      rfl
    · rename_i sn hq
      have hq' : accepts reCode 11 (t.getD k 0) (seen.add 16) = _ := hq
      rw [ha] at hq'; cases hq'
theorem stepB (t : Array Nat) (seen : Seen) (k : Nat) : (stB t seen (k + 1)).step = stA t seen k := by
  show M.resume _ (fr1 (k + 1)) false = _
  unfold M.resume
  dsimp only [fr1]
  rw [if_neg Bool.false_ne_true]
  refine (if_neg (show ¬ ((k + 1 : Nat) : Int) - 1 < ((0 : Nat) : Int) by omega)).trans ?_
  · unfold M.afterRun M.attempt
    refine (if_neg (show ¬ 0 + 1 + (#[] : Array (Option Nat)).size > 16777216 by decide)).trans ?_
    · show ({ code := reCode, text := t, lim := t.size, start := 0, pc := 11, pos := (k + 1) - 1, handed := (k + 1) - 1, marks := #[none, none], frames := [{ wait := .giveBack, pc := 5, pos := (k + 1) - 1, outermost := true, count := ((k + 1 : Nat) : Int) - 1, kept := { lastmark := -1, lastindex := -1, whole := false, marks := #[] } }], weight := 1, seen := seen } : M) = _
      have : ((k + 1 : Nat) : Int) - 1 = (k : Int) := by omega
      rw [this]
      rfl

/-- a literal that is met -/
theorem step_lit (m : M) (c : Nat) (sn : Seen) (h1 : m.outcome = none) (h2 : m.answer = none) (hp : m.pc < m.code.size) (hop : ops[m.word 0]? = some .LITERAL) (hs : m.seen.add (m.word 0) = sn) (hw : m.word 1 = c) (hl : m.pos < m.lim) (hc : m.text.getD m.pos 0 = c) :
    m.step = { m with seen := sn, pc := m.pc + 2, pos := m.pos + 1 } := by
  have e : m.step = m.exec := by
    unfold M.step
    rw [h1, h2]
    simp only [Option.isSome_none, Bool.false_eq_true, if_false]
    rw [if_pos hp]
  rw [e]
  unfold M.exec
  simp only [hop]
  have hop' : ops[m.code.getD m.pc 0]? = some .LITERAL := hop
  have ha : accepts m.code m.pc (m.text.getD m.pos 0) sn = .ok (true, sn) := by
    unfold accepts
    rw [hop']
    have hw' : m.code.getD (m.pc + 1) 0 = c := hw
    simp only [hw', hc, beq_self_eq_true]
  split
  · rename_i hc'
    exact absurd hl (Nat.not_lt.mpr hc')
  · split
    · rename_i hq
      have hq' : accepts m.code m.pc (m.text.getD m.pos 0) (m.seen.add (m.word 0)) = _ := hq
      rw [hs, ha] at hq'; cases hq'
    · rename_i sn' hq
      have hq' : accepts m.code m.pc (m.text.getD m.pos 0) (m.seen.add (m.word 0)) = _ := hq
      rw [hs, ha] at hq'; cases hq'
    · rename_i sn' hq
      have hq' : accepts m.code m.pc (m.text.getD m.pos 0) (m.seen.add (m.word 0)) = _ := hq
      rw [hs, ha] at hq'; cases hq'
      have hi : itemWidth m.code m.pc = 2 := by
        unfold itemWidth
        rw [hop']
      show ({ m with seen := sn, pc := m.pc + itemWidth m.code m.pc, pos := m.pos + 1 } : M) = _
      rw [hi]

theorem sn2_add : sn2.add 16 = sn2 := by rfl
theorem back (t : Array Nat) (h : ∀ i, 23 < i → i < t.size → t.getD i 0 ≠ 70) : ∀ d, 24 + d ≤ t.size → Rn (2 * d + 1) (stB t sn2 (24 + d)) (stA t sn2 23)
  | 0, _ => .one rfl (stepB t sn2 23)
  | d + 1, hd => by
    have e1 : Rn 1 (stB t sn2 (24 + d + 1)) (stA t sn2 (24 + d)) := .one rfl (stepB t sn2 (24 + d))
    have e2 : Rn 1 (stA t sn2 (24 + d)) (stB t sn2 (24 + d)) := .one rfl (by
      have := stepA_no t sn2 (24 + d) (by omega) (h _ (by omega) (by omega))
      rw [sn2_add] at this; exact this)
    have := (e1.trans e2).trans (back t h d (by omega))
    rw [show 2 * (d + 1) + 1 = 1 + 1 + (2 * d + 1) by omega]
    exact this

def stC (t : Array Nat) (pc pos : Nat) : M :=
  { code := reCode, text := t, lim := t.size, start := 0, pc, pos, handed := 23, marks := #[none, none], frames := [fr1 23], weight := 1, seen := sn2 }
theorem litC (t : Array Nat) (pc pos c : Nat) (hp : pc < 39) (h1 : reCode.getD (pc + 0) 0 = 16) (h2 : reCode.getD (pc + 1) 0 = c) (hl : pos < t.size) (hc : t.getD pos 0 = c) : Rn 1 (stC t pc pos) (stC t (pc + 2) (pos + 1)) := by
  refine .one rfl ?_
  have hw : (stC t pc pos).word 0 = 16 := h1
  exact step_lit (stC t pc pos) c sn2 rfl rfl hp (by rw [hw]; rfl) (by rw [hw]; exact sn2_add) h2 hl hc

def sn3 : Seen := sn2.add 17
def sn4 : Seen := (sn3.add 24).add 20
def stD (t : Array Nat) : M :=
  { code := reCode, text := t, lim := t.size, start := 0, pc := 27, pos := 30, handed := 23, marks := #[some 30, none], lastmark := 0, frames := [fr1 23], weight := 1, seen := sn3 }
theorem markC (t : Array Nat) : Rn 1 (stC t 25 30) (stD t) := .one rfl rfl
def fr2 (j : Nat) : Sre.Frame := { wait := .giveBack, pc := 27, pos := j, outermost := true, count := ((j - 30 : Nat) : Int), kept := { lastmark := 0, lastindex := -1, whole := false, marks := #[] } }
def stE (t : Array Nat) (j : Nat) : M :=
  { code := reCode, text := t, lim := t.size, start := 0, pc := 34, pos := j, handed := j, marks := #[some 30, none], lastmark := 0, frames := [fr2 j, fr1 23], weight := 2, seen := sn4 }
theorem runD (t : Array Nat) (j : Nat) (hj : 30 ≤ j) (hjn : j < t.size) (hn : t.size ≤ 4294967295) (h : ∀ i, 30 ≤ i → i < j → t.getD i 0 ≠ 41) (h1 : t.getD j 0 = 41) : Rn 1 (stD t) (stE t j) := by
  refine .one rfl ?_
  have hr := run_not t sn4 (t.size - 30) 30 0 (j - 30) (fun i a b => h i a (by omega)) (by rw [show 30 + (j - 30) = j by omega]; exact h1) (by omega)
  rw [Nat.zero_add] at hr
  have hm : min 4294967295 ((t.size : Int) - (30 : Nat)).toNat = t.size - 30 := by omega
  have e : (stD t).step = (stD t).exec := rfl
  rw [e]
  unfold M.exec
  have hop : ops[(stD t).word 0]? = some .REPEAT_ONE := rfl
  simp only [hop]
  split
  · rename_i hc
    have hc' : ((0 : Nat) : Int) > (t.size : Int) - (30 : Nat) := hc
    omega
  · split
    · rename_i hq
      have hq' : Sre.run reCode t 31 (min 4294967295 ((t.size : Int) - (30 : Nat)).toNat) 30 0 sn4 = _ := hq
      rw [hm, hr] at hq'
      cases hq'
    · rename_i n seen hq
      have hq' : Sre.run reCode t 31 (min 4294967295 ((t.size : Int) - (30 : Nat)).toNat) 30 0 sn4 = _ := hq
      rw [hm, hr] at hq'
      cases hq'
      refine (if_neg (show ¬ j - 30 < 0 from Nat.not_lt_zero _)).trans ?_
      unfold M.afterRun M.attempt
      refine (if_neg (show ¬ 1 + 1 + (#[] : Array (Option Nat)).size > 16777216 by decide)).trans ?_
      show ({ code := reCode, text := t, lim := t.size, start := 0, pc := 34, pos := 30 + (j - 30), handed := 30 + (j - 30), marks := #[some 30, none], lastmark := 0, frames := [{ wait := .giveBack, pc := 27, pos := 30 + (j - 30), outermost := true, count := ((j - 30 : Nat) : Int), kept := { lastmark := 0, lastindex := -1, whole := false, marks := #[] } }, fr1 23], weight := 2, seen := sn4 } : M) = _
      rw [show 30 + (j - 30) = j by omega]
      rfl
def sn5 : Seen := sn4.add 17
def stF (t : Array Nat) (j : Nat) : M :=
  { code := reCode, text := t, lim := t.size, start := 0, pc := 36, pos := j, handed := j, marks := #[some 30, some j], lastmark := 1, lastindex := 1, frames := [fr2 j, fr1 23], weight := 2, seen := sn5 }
theorem markE (t : Array Nat) (j : Nat) : Rn 1 (stE t j) (stF t j) := by
  refine .one rfl ?_
  have e : (stE t j).step = ({ (stE t j) with seen := sn5 } : M).mark 1 := rfl
  rw [e]
  unfold M.mark
  have e1 : (if ((1 : Nat) : Int) ≤ (0 : Int) + 1 then (#[some 30, none] : Array (Option Nat)) else (List.range 1).foldl (fun (a : Array (Option Nat)) (k : Nat) => if (k : Int) > (0 : Int) then a.setIfInBounds k none else a) #[some 30, none]) = #[some 30, none] := if_pos (by decide)
  have e2 : max (0 : Int) ((1 : Nat) : Int) = 1 := by decide
  show ({ (stE t j) with seen := sn5, marks := (if ((1 : Nat) : Int) ≤ (0 : Int) + 1 then (#[some 30, none] : Array (Option Nat)) else (List.range 1).foldl (fun (a : Array (Option Nat)) (k : Nat) => if (k : Int) > (0 : Int) then a.setIfInBounds k none else a) #[some 30, none]).setIfInBounds 1 (some j), lastmark := max (0 : Int) ((1 : Nat) : Int), lastindex := 1, pc := 36 } : M) = _
  rw [e1, e2]
  rfl
def stG (t : Array Nat) (j : Nat) : M :=
  { code := reCode, text := t, lim := t.size, start := 0, pc := 38, pos := j + 1, handed := j, marks := #[some 30, some j], lastmark := 1, lastindex := 1, frames := [fr2 j, fr1 23], weight := 2, seen := sn5.add 16 }
theorem litF (t : Array Nat) (j : Nat) (hl : j < t.size) (hc : t.getD j 0 = 41) : Rn 1 (stF t j) (stG t j) :=
  .one rfl (step_lit (stF t j) 41 (sn5.add 16) rfl rfl (show 36 < 39 by decide) rfl rfl rfl hl hc)
theorem ends (t : Array Nat) (j : Nat) : ∃ m', Rn 4 (stG t j) m' ∧ m'.outcome = some .matched ∧ m'.lastmark = 1 ∧ m'.marks = #[some 30, some j] := by
  refine ⟨_, .cons rfl (.cons rfl (.cons rfl (.cons rfl (.nil _)))), ?_, ?_, ?_⟩ <;> rfl

theorem whole (t : Array Nat) (j : Nat) (hn : t.size ≤ 400) (h10 : ∀ i, i < t.size → t.getD i 0 ≠ 10) (h70 : ∀ i, 23 < i → i < t.size → t.getD i 0 ≠ 70)
    (a0 : t.getD 23 0 = 70) (a1 : t.getD 24 0 = 76) (a2 : t.getD 25 0 = 65) (a3 : t.getD 26 0 = 71) (a4 : t.getD 27 0 = 83) (a5 : t.getD 28 0 = 32) (a6 : t.getD 29 0 = 40)
    (hj : 30 ≤ j) (hjn : j < t.size) (h41 : ∀ i, 30 ≤ i → i < j → t.getD i 0 ≠ 41) (h1 : t.getD j 0 = 41) :
    ∃ m', drv 1000 (st0 t) = some m' ∧ m'.outcome = some .matched ∧ (1 : Int) ≤ m'.lastmark ∧ m'.marks.getD 0 none = some 30 ∧ m'.marks.getD 1 none = some j := by
  obtain ⟨m', hr, ho, hl, hm⟩ := ends t j
  have r0 : Rn 1 (st0 t) (stA t sn1 t.size) := .one rfl (step0 t h10 (by omega))
  have r1 : Rn 1 (stA t sn1 t.size) (stB t sn2 t.size) := .one rfl (stepA_end t sn1)
  have r2 := back t h70 (t.size - 24) (by omega)
  rw [show 24 + (t.size - 24) = t.size by omega] at r2
  have c0 := litC t 11 23 70 (by decide) rfl rfl (by omega) a0
  have c1 := litC t 13 24 76 (by decide) rfl rfl (by omega) a1
  have c2 := litC t 15 25 65 (by decide) rfl rfl (by omega) a2
  have c3 := litC t 17 26 71 (by decide) rfl rfl (by omega) a3
  have c4 := litC t 19 27 83 (by decide) rfl rfl (by omega) a4
  have c5 := litC t 21 28 32 (by decide) rfl rfl (by omega) a5
  have c6 := litC t 23 29 40 (by decide) rfl rfl (by omega) a6
  have cc := (((((c0.trans c1).trans c2).trans c3).trans c4).trans c5).trans c6
  have r3 := (((r0.trans r1).trans r2).trans cc).trans ((((markC t).trans (runD t j hj hjn (by omega) h41 h1)).trans (markE t j)).trans ((litF t j hjn h1).trans hr))
  refine ⟨m', drv_rn 1000 _ _ _ ?_ r3 (by rw [ho]; rfl), ho, by rw [hl]; decide, by rw [hm]; rfl, by rw [hm]; rfl⟩
  omega
end Mine

/-! part C1 -/
namespace Mine
open PySem PySem.W PySem.Calls PyProof.Rows
set_option maxRecDepth 100000
set_option linter.unusedVariables false

def tRef (D : Addr) : Ty Unit := ⟨fun _ v _ => v = .ref D, fun _ h => h⟩

section
variable {env : Env} {ow X : List Addr} {G : List VarE} {hrs : List Heap} {s0 s s1 : Shared}
theorem St.not_new {D : Addr} (st : St env ow X G hrs s0 s) (hD : s.heap.get? D = none) : D ∉ ow := by
  intro hm
  rcases st.ok D hm with rfl | ⟨n, hc⟩
  · obtain ⟨m', o', es, ep, ho', _⟩ := st.ns; rw [hD] at ho'; cases ho'
  · obtain ⟨v, o', ho', _⟩ := st.ce n D hc; rw [hD] at ho'; cases ho'
theorem St.hide {D : Addr} {o : Obj} (st : St env ow X G hrs s0 s) (k : Keeps s s1) (hD : s.heap.get? D = none) (ho : s1.heap.get? D = some o) : St env ow (D :: X) G hrs s0 s1 := by
  have st1 := st.up k
  have hw := st.not_new hD
  refine ⟨st1.kp, st1.oL, st1.ok, st1.fr, fun b hb hx => ?_, st1.ns, st1.ce, st1.cd, st.sc.va (vw_hide (Y := [D]) (kp_hk k) (by intro y hy; rw [List.mem_singleton.mp hy]; exact hD)), fun x hx => ?_, fun h hh b o h1 h2 e => st1.rf h hh b o (fun hx => h1 (List.mem_cons_of_mem _ hx)) h2 e⟩
  · rcases List.mem_cons.mp hx with rfl | hx
    · exact hw hb
    · exact st1.ox b hb hx
  · rcases List.mem_cons.mp hx with rfl | hx
    · exact ⟨o, ho⟩
    · exact st1.xb x hx
theorem St.show {D : Addr} (st : St env ow (D :: X) G [] s0 s) : St env ow X G [] s0 s :=
  ⟨st.kp, st.oL, st.ok, st.fr, fun b hb hx => st.ox b hb (List.mem_cons_of_mem _ hx), st.ns, st.ce, st.cd, st.sc.va (vw_show (Y := [D])), fun x hx => st.xb x (List.mem_cons_of_mem _ hx), fun _ hh => by cases hh⟩
end

section
variable {M : Model} {A : Around} {ow X : List Addr} {hrs : List Heap} {s0 s : Shared} {env : Env} {G : List VarE}
theorem st_fresh {x : Str} {p pos : Pos} {value : Expr} {rest : List Stmt} {Q : Flow → Shared → Prop} {R : Addr → Obj → Vw → Prop} (Rm : ∀ D o g g', VK g g' → R D o g → R D o g') (st : St env ow X G hrs s0 s)
    (e : wpAny M A (eval value env) (fun v s1 => Keeps s s1 ∧ ∃ D o, v = .ref D ∧ s.heap.get? D = none ∧ s1.heap.get? D = some o ∧ R D o (vw (D :: X) s1.heap)) NoE s)
    (k : ∀ D o s', s0.heap.get? D = none → D ∉ X → (∀ h ∈ hrs, h.get? D = none) → St env ow (D :: X) (⟨x, Unit, tRef D, ()⟩ :: G) hrs s0 s' → s'.heap.get? D = some o → R D o (vw (D :: X) s'.heap) → VK (vw X s.heap) (vw (D :: X) s'.heap) →
      wpAny M A (execs rest env) Q NoE s')
    (hl : env.kindOf x = some .local := by rfl) (hk : env.scope.kind = .function := by rfl)
    (hs : swapsWith value (some (.Name x p)) pos.line env = pure false := by rfl) :
    wpAny M A (execs (.Assign [.Name x p] value pos :: rest) env) Q NoE s := by
  refine wpAny_execs_cons (wpAny_Assign_Name (hs := hs) (wpAny_mono e (fun v s1 q => ?_) fun _ _ q => q))
  obtain ⟨k1, D, o, rfl, hD, ho, hR⟩ := q
  obtain ⟨n0, nX, nr⟩ := st.new_ref hD
  have st1 := st.hide k1 hD ho
  have va : VA (vw X s.heap) (vw (D :: X) s1.heap) := vw_hide (Y := [D]) (kp_hk k1) (by intro y hy; rw [List.mem_singleton.mp hy]; exact hD)
  exact st_store (T := tRef D) (d := ()) st1 rfl hl hk fun s' st' t => k D o s' n0 nX nr st' (t.1 D List.mem_cons_self _ ho) (Rm _ _ _ _ t.2 hR) (va.vk.trans t.2)
end

/-- a global that is an object of the written part -/
theorem ev_gref {w : World} {A : Around} {X : List Addr} {s : Shared} {env : Env} {x : Str} {D : Addr} {pos : Pos} {o : Obj} {es : Array DictEntry} {k : Nat} (B : Bas w s.heap)
    (ho : (hd.heap_39 w.params).lookup mainGlobals = some o := by rfl) (hdo : o.data = .dict es k := by rfl) (hf : (es.toList.find? (·.key.isStr x)).map (·.val) = some (.ref D) := by rfl)
    (hk : env.scope.kind = .function := by rfl) (hx : env.kindOf x = some .globalImplicit := by rfl) (hg : env.globals = mainGlobals := by rfl)
    (hdb : (x == ("__debug__" : Str)) = false := by decide) : Ev (model PR w) A X (eval (.Name x pos) env) (tRef D) () s := by
  intro s1 k1
  have B1 := B.up (kp_hk k1)
  obtain ⟨mean, mg, mb, T⟩ := B1.T
  exact Name_function_global hk hx (loadGlobal_global (hg ▸ T.g) (mg_of B1.K T.g ho hdo hf) ⟨kp_refl _, rfl⟩) hdb

section
variable {prog : Program} {w : World} {A : Around} {X : List Addr} {s : Shared} {env : Env} {α β : Type} {T : Ty α} {U : Ty β} {d : α} {r : β}
/-- a method of one argument, of no argument -/
theorem ev_meth0 {o : Expr} {name : Str} {cls id : String} {apos pos : Pos} (ev : Ev (model prog w) A X (eval o env) T d s)
    (pa : PlainAttrs cls) (slot : Slot cls name id) (ty : typeOf (.builtin id) = pure (.type "method_descriptor"))
    (h : ∀ v s1, Keeps s s1 → T.rel (vw X s1.heap) v d → s1.TypeIs v cls ∧ (∀ a, v = .ref a → ∃ ob, s1.heap.get? a = some ob ∧ ob.dict = none) ∧
      wpAny (model prog w) A (call (.builtin id) [v]) (fun v s2 => Keeps s1 s2 ∧ U.rel (vw X s2.heap) v r) NoE s1)
    (hbase : attributeBase o name env (eval o env) = eval o env := by rfl) (hline : (apos.endLine == pos.line) = true := by rfl) :
    Ev (model prog w) A X (eval (.Call (.Attribute o name apos) [] [] pos) env) U r s := by
  intro s1 k1
  refine Call_method0 hbase hline ((ev.up k1).wp fun v s2 k2 r2 => ?_)
  obtain ⟨h1, h2, h3⟩ := h v s2 (kp_trans k1 k2) r2
  refine ⟨cls, id, pa, slot, ty, h1, h2, Calls.callWith_builtin rfl (PySem.evalArgs_none ?_)⟩
  exact wpAny_mono h3 (fun v s3 q => ⟨kp_trans k2 q.1, q.2⟩) fun _ _ q => q
theorem ev_meth1 {γ : Type} {V : Ty γ} {c : γ} {o e : Expr} {name : Str} {cls id : String} {apos pos : Pos} (ev : Ev (model prog w) A X (eval o env) T d s) (ev2 : Ev (model prog w) A X (eval e env) V c s)
    (pa : PlainAttrs cls) (slot : Slot cls name id) (ty : typeOf (.builtin id) = pure (.type "method_descriptor"))
    (h : ∀ v s1, Keeps s s1 → T.rel (vw X s1.heap) v d → s1.TypeIs v cls ∧ (∀ a, v = .ref a → ∃ ob, s1.heap.get? a = some ob ∧ ob.dict = none) ∧
      ∀ u s2, Keeps s1 s2 → T.rel (vw X s2.heap) v d → V.rel (vw X s2.heap) u c → wpAny (model prog w) A (call (.builtin id) [v, u]) (fun v s3 => Keeps s2 s3 ∧ U.rel (vw X s3.heap) v r) NoE s2)
    (hbase : attributeBase o name env (eval o env) = eval o env := by rfl) (hs : starEach [e] env = [(false, eval e env)] := by rfl) (hline : (apos.endLine == pos.line) = true := by rfl) :
    Ev (model prog w) A X (eval (.Call (.Attribute o name apos) [e] [] pos) env) U r s := by
  intro s1 k1
  refine Call_method1 hbase hs hline ((ev.up k1).wp fun v s2 k2 r2 => ?_)
  obtain ⟨h1, h2, h3⟩ := h v s2 (kp_trans k1 k2) r2
  refine ⟨cls, id, pa, slot, ty, h1, h2, Calls.callWith_builtin rfl (Calls.evalArgs_plain (Calls.spliced_cons ((ev2.up (kp_trans k1 k2)).wp fun u s3 k3 r3 => Calls.spliced_nil ?_)))⟩
  exact wpAny_mono (h3 u s3 k3 (T.mono (vw_hk (kp_hk k3)).vk r2) r3) (fun v s4 q => ⟨kp_trans k2 (kp_trans k3 q.1), q.2⟩) fun _ _ q => q
end
section
variable {w : World} {A : Around} {X : List Addr} {s : Shared} {env : Env}
theorem ev_callt {α : Type} {T : Ty α} {d : α} {x : Str} {id : String} {p pos : Pos} {e : Expr} {rest : List Expr} {ds : List Dt} {o : Obj} {es : Array DictEntry} {k : Nat}
    (hb : bootBuiltins x = some (.type id)) (B : Bas w s.heap) (ha : EvA (model PR w) A X (e :: rest) env ds s)
    (hcall : ∀ vs s2, Keeps s s2 → Dts (vw X s2.heap) vs ds → wpAny (model PR w) A (call (.type id) vs) (fun v s3 => Keeps s2 s3 ∧ T.rel (vw X s3.heap) v d) NoE s2)
    (ho : (hd.heap_39 w.params).lookup mainGlobals = some o := by rfl) (hdo : o.data = .dict es k := by rfl) (hf : (es.toList.find? (·.key.isStr x)).isNone = true := by rfl) (hn : x ≠ "__name__" := by decide)
    (hk : env.scope.kind = .function := by rfl) (hx : env.kindOf x = some .globalImplicit := by rfl) (hg : env.globals = mainGlobals := by rfl) (hbn : env.builtins = builtinsNs := by rfl)
    (hdb : (x == ("__debug__" : Str)) = false := by decide)
    (hc : eval (.Call (.Name x p) (e :: rest) [] pos) env = (do callWith pos (← eval (.Name x p) env) [] (backTo pos (starEach (e :: rest) env)) (backToKw pos (keywordEach [] env))) := by rfl)
    (he : starEach (e :: rest) env = (false, eval e env) :: starEach rest env := by rfl) (hplain : (backTo pos (starEach rest env)).any (·.1) = false := by rfl) :
    Ev (model PR w) A X (eval (.Call (.Name x p) (e :: rest) [] pos) env) T d s := by
  intro s1 k1
  refine wp_callt hb (B.up (kp_hk k1)) (ha.up k1) (fun vs s2 k2 hd => ?_) ho hdo hf hn hk hx hg hbn hdb hc he hplain
  exact wpAny_mono (hcall vs s2 (kp_trans k1 k2) hd) (fun v s3 q => ⟨kp_trans k2 q.1, q.2⟩) fun _ _ q => q
end
end Mine

/-! part C2 -/
namespace Mine
open PySem PySem.W PySem.Calls PyProof.Rows
set_option maxRecDepth 100000
set_option linter.unusedVariables false

def MoR (b : Array UInt8) (i j : Nat) (D : Addr) (o : Obj) (g : Vw) : Prop := ∃ t x1 x2 x3 x4 x5 T o2 n, o.cls = .type "re.Match" ∧ o.dict = none ∧ o.data = .fields [.bytes b t, .ref 36, x3, x4, x5, .ref T].toArray ∧
  g T = some o2 ∧ o2.data = .seq [x1, x2, rawInt i, rawInt j].toArray n
theorem MoR.mono {b : Array UInt8} {i j : Nat} (D : Addr) (o : Obj) (g g' : Vw) (k : VK g g') (h : MoR b i j D o g) : MoR b i j D o g' := by
  obtain ⟨t, x1, x2, x3, x4, x5, T, o2, n, h1, h2, h3, h4, h5⟩ := h
  exact ⟨t, x1, x2, x3, x4, x5, T, o2, n, h1, h2, h3, k _ _ h4 ⟨_, _, h5⟩, h5⟩
theorem MoR.at {b : Array UInt8} {i j : Nat} {D : Addr} {o : Obj} {X : List Addr} {h : Heap} (m : MoR b i j D o (vw X h)) (ho : h.get? D = some o) : MoAt h D b i j := by
  obtain ⟨t, x1, x2, x3, x4, x5, T, o2, n, h1, h2, h3, h4, h5⟩ := m
  exact ⟨t, o, x1, x2, x3, x4, x5, T, o2, n, ho, h1, h2, h3, vw_get h4, h5⟩

theorem truthy_mo {w : World} {A : Around} {s : Shared} {D : Addr} {o : Obj} (ho : s.heap.get? D = some o) (hc : o.cls = .type "re.Match") :
    wpAny (model PR w) A (truthy (.ref D)) (fun c s' => c = true ∧ Keeps s s') NoE s := by
  unfold truthy
  refine wpAny_bind (wpAny_callSpecial?_none (T := "re.Match") ⟨_, ho, hc⟩ (by rw [typeLookup_type, builtinLookup_eq_fast]; kernel_rfl) ?_)
  refine wpAny_bind (wpAny_specialOf (T := "re.Match") ⟨_, ho, hc⟩ (r := none) (by rw [typeLookup_type, builtinLookup_eq_fast]; kernel_rfl) ?_)
  exact wpAny_pure ⟨rfl, kp_refl _⟩

theorem fn_parse (w : World) {b : Array UInt8} {ws : List (List UInt8)} (k : Nat) (hk : k ≤ 1000) {m' : Sre.M} {i j : Nat} (hd' : drv k (mTgt b) = some m') (ho : m'.outcome = some .matched) (hl : (1 : Int) ≤ m'.lastmark) (h1 : m'.marks.getD 0 none = some i) (h2 : m'.marks.getD 1 none = some j) (hij : i ≤ j) (hb : b.size ≤ 1000)
    {c : Array UInt8} (hc : ((b.map (·.toNat)).extract i j).map (·.toUInt8) = c) (hws : Builtin.Bytes.words (c.size + 1) (c.size + 1) c.toList = ws) (hsp : c.any Builtin.Bytes.isSpace = true) (hwl : ∀ l ∈ ws, l.length ≤ 1000) (hn : ws.length ≤ 100) :
    Fn w 43 1 [⟨_, tBytes, b⟩] ⟨_, tTup tBytes, ws.map List.toArray⟩ := by
  refine fn_intro (n := 0) [Str.ofString "resp"] rfl rfl rfl rfl rfl (len1 fun _ => rfl) (by decide +kernel) (by decide +kernel) (by decide +kernel) rfl rfl rfl rfl ?_
  intro A X s0 s1 hA B st
  refine st_fresh (R := MoR b i j) MoR.mono st ?_ fun D o s2 n0 nX _ st2 ho2 hR vk2 => ?_
  · have B1 := B.up (kp_hk st.kp)
    refine Call_method1 rfl rfl rfl ((ev_gref (D := 36) (X := X) B1).wp fun v s2 k2 r2 => ?_)
    cases (show v = .ref 36 from r2)
    have K2 := (B1.up (kp_hk k2)).K
    refine ⟨_, _, plainRe, slot_match, type_match, ⟨_, K2 36 _ rfl, rfl⟩, fun a e => by cases e; exact ⟨_, K2 36 _ rfl, rfl⟩, Calls.callWith_builtin rfl (Calls.evalArgs_plain (Calls.spliced_cons (((ev_name (X := X) st.sc).up k2).wp fun u s3 k3 r3 => Calls.spliced_nil ?_)))⟩
    obtain ⟨t, rfl⟩ := r3
    have K3 := ((B1.up (kp_hk k2)).up (kp_hk k3)).K
    refine match_some k hk hd' ho hl h1 h2 hij K3 fun x1 x2 x3 x4 x5 => ?_
    have kk : Keeps s1 s3 := kp_trans k2 k3
    have hsz : (s3.heap.push { cls := .type "tuple", data := .seq [x1, x2, rawInt i, rawInt j].toArray }).objs.size = s3.heap.objs.size + 1 := Heap.size_push ..
    have ge : ∀ n, s3.heap.objs.size ≤ n → s1.heap.get? n = none := fun n hn => by
      cases e : s1.heap.get? n with
      | none => rfl
      | some o => exact absurd (Heap.lt_size (kp_hk kk _ _ e)) (Nat.not_lt.mpr hn)
    refine ⟨kp_trans kk (kp_trans (kp_push _ _) (kp_push _ _)), s3.heap.objs.size + 1, _, rfl, ge _ (Nat.le_succ _), by rw [← hsz]; exact Heap.get?_push_size _ rfl, ?_⟩
    refine ⟨t, x1, x2, x3, x4, x5, s3.heap.objs.size, _, _, rfl, rfl, rfl, vw_of (Heap.get?_push_of_some _ (Heap.get?_push_size _ rfl)) fun hm => ?_, rfl⟩
    rcases List.mem_cons.mp hm with e | hm
    · exact absurd e (Nat.ne_of_lt (Nat.lt_succ_self _))
    · obtain ⟨o, e⟩ := st.xb _ hm
      rw [ge _ (Nat.le_refl _)] at e; cases e
  have st2' := st2
  refine st_if (b := false) (bv_not (b := true) (bv_val (ev_name st2.sc) fun v s3 k3 r3 => ?_)) (fun e => by cases e) fun _ s3 k3 => ?_
  · cases (show v = .ref D from r3)
    obtain ⟨t, x1, x2, x3, x4, x5, T, o2, n, h1', _⟩ := hR
    exact truthy_mo (kp_hk k3 _ _ ho2) h1'
  refine st_nil ?_
  show wpAny (model PR w) A (execs _ _) _ NoE s3
  have st3 := (st2.up k3).show
  have B3 := B.up (kp_hk st3.kp)
  have m3 : MoAt s3.heap D b i j := (MoR.mono _ _ _ _ (vw_hk (kp_hk k3)).vk hR).at (kp_hk k3 _ _ ho2)
  have keep : ∀ s4, Keeps s3 s4 → MoAt s4.heap D b i j := fun s4 k4 => (MoR.mono _ _ _ _ (vw_hk (HK.trans (kp_hk k3) (kp_hk k4))).vk hR).at (kp_hk k4 _ _ (kp_hk k3 _ _ ho2))
  refine st_ret st3 (ev_callt PyProof.Rows.boot_tuple B3 (ds := [⟨_, tList tBytes, ws.map List.toArray⟩]) (eva_cons (ev_meth0 (T := tBytes) (d := c) ?_ FB.plainAttrs_bytes slot_split type_split fun v s4 k4 r4 => ?_) eva_nil) fun vs s4 k4 hds => ?_)
  · refine ev_meth1 (ev_name st3.sc) (ev_str (Str.ofString "flags")) plainMo slot_group type_group fun v s4 k4 r4 => ?_
    cases (show v = .ref D from r4)
    have m4 := keep s4 k4
    obtain ⟨t0, o', x1, x2, x3, x4, x5, T, o2, n, ho', hc', hdn, _⟩ := m4
    refine ⟨⟨_, ho', hc'⟩, fun a e => by cases e; exact ⟨_, ho', hdn⟩, ?_⟩
    rintro u s5 k5 _ ⟨t', rfl⟩
    refine group_ok (B3.up (HK.trans (kp_hk k4) (kp_hk k5))).K (keep s5 (kp_trans k4 k5)) (fun tk t' => ?_) hb
    exact ⟨kp_tok _ _, _, by rw [hc]⟩
  · obtain ⟨t, rfl⟩ := r4
    refine ⟨typeIs_bytes _ _ _, (fun _ e => nomatch e), ?_⟩
    refine split_ok hws hsp hwl hn fun vs tk hp => ?_
    exact ⟨kp_push' _ _ _, _, vs, rfl, push_lst "list" (st3.xb.up (kp_hk k4)) vs, hp _⟩
  · obtain ⟨v, rfl, a, us, rfl, hl', hp⟩ := dts1 hds
    refine call_tuple_list hl'.list (fun h' hk' => ?_) (by rw [List.size_toArray, hp.length, List.length_map, sizeLine_eq]; omega)
    have hk2 : HK s4.heap (h'.push { cls := .type "tuple", data := .seq us.toArray }) := fun b o e => Heap.get?_push_of_some _ (hk' b o e)
    refine ⟨⟨_, s4.toks, rfl, hk2⟩, _, us, rfl, push_lst "tuple" (h := h') (st3.xb.up (HK.trans (kp_hk k4) hk')) us, ?_⟩
    exact paired_imp (fun _ _ r => tBytes.mono (vw_hk hk2).vk r) hp
end Mine

/-! part C3 -/
namespace Mine
open PySem PySem.W PySem.Calls PyProof.Rows PySem.Builtin PySem.Builtin._codecs
set_option maxRecDepth 100000
set_option linter.unusedVariables false

theorem narrow_ok {M : Model} {A : Around} {E : Value → Shared → Prop} {s : Shared} {id : String} {self : Value} {x : Str} {out : Array UInt8} {Q : Array UInt8 → Shared → Prop} {c0 : Nat} {r : List Nat} (n : Nat) (h2 : x.length = n + 2) (h0 : x.cps[0]? = some c0) (hb0 : utf8Codec.bad c0 = false)
    (hc : (x.cps.extract 0 x.cps.size).findIdx? utf8Codec.bad = none)
    (ho : ((x.cps.extract 0 x.cps.size).extract 0 (x.cps.extract 0 x.cps.size).size).foldl (fun acc y => acc ++ (utf8Codec.bytesOf y).toArray) #[] = out) (hs : out.size ≤ sizeLine)
    (h : Q out s) : wpAny M A (encodeNarrow id utf8Codec none self x) Q E s := by
  unfold encodeNarrow
  simp only []
  rw [Std.Legacy.Range.forIn_eq_forIn_range']
  have hr : List.range' (0:Nat) (Std.Legacy.Range.size [0 : x.length]) 1 = 0 :: 1 :: List.range' 2 n := by
    rw [h2]
    rw [show Std.Legacy.Range.size [0 : n + 2] = n + 2 by simp [Std.Legacy.Range.size], List.range'_succ, List.range'_succ]
  show wpAny M A (forIn (List.range' 0 (Std.Legacy.Range.size [0 : x.length]) 1) _ _ >>= _) Q E s
  rw [hr, List.forIn_cons]
  refine wpAny_bind (wpAny_bind ?_)
  dsimp only
  rw [if_neg (show ¬ (#[] : Array UInt8).size > sizeLine by rw [sizeLine_eq]; simp)]
  rw [h0]
  dsimp only
  rw [if_pos (show (!utf8Codec.bad c0) = true by rw [hb0]; rfl), hc]
  dsimp only [Option.getD]
  rw [ho]
  refine wpAny_pure ?_
  dsimp only
  rw [List.forIn_cons]
  refine wpAny_bind ?_
  dsimp only
  rw [if_neg (show ¬ out.size > sizeLine from Nat.not_lt.mpr hs)]
  have e : x.cps[0 + (x.cps.extract 0 x.cps.size).size]? = none := by
    rw [Array.getElem?_eq_none]
    simp
  rw [e]
  dsimp only
  refine wpAny_pure ?_
  dsimp only
  refine wpAny_pure ?_
  exact wpAny_pure h

theorem utf8_ascii : ∀ c, c < 128 → utf8Codec.bytesOf c = [c.toUInt8] := by decide +kernel
theorem bad_ascii : ∀ c, c < 128 → utf8Codec.bad c = false := by decide +kernel
theorem fold_ascii : ∀ (l : List Nat) (acc : Array UInt8), (∀ c ∈ l, c < 128) → l.foldl (fun acc y => acc ++ (utf8Codec.bytesOf y).toArray) acc = acc ++ (l.map Nat.toUInt8).toArray
  | [], acc, _ => by simp
  | c :: l, acc, h => by
    rw [List.foldl_cons, utf8_ascii c (h c List.mem_cons_self), fold_ascii l _ fun c' hc => h c' (List.mem_cons_of_mem _ hc)]
    simp

def toB (x : Str) : Array UInt8 := (x.cps.toList.map Nat.toUInt8).toArray

theorem encode_ok {w : World} {A : Around} {E : Value → Shared → Prop} {s : Shared} {x : Str} {t : Tok} {Q : Value → Shared → Prop} (h2 : 2 ≤ x.length) (h3 : x.length ≤ 1000) (ha : ∀ c ∈ x.cps.toList, c < 128)
    (h : ∀ t' tk, Q (.bytes (toB x) t') { s with toks := tk }) : wpAny (model PR w) A (call (.builtin "str.encode") [.str x t]) Q E s := by
  refine wpAny_call_entry F.slot_str_encode (typeIs_str _ _ _) F.entry_str_encode ?_ (F.args_str_encode_1 _)
  rw [encode_tree, encodeRoad_utf8]
  have h3' : x.cps.size ≤ 1000 := h3
  have hs : (toB x).size ≤ sizeLine := by
    unfold toB
    rw [sizeLine_eq]
    simp; omega
  have h2' : 2 ≤ x.cps.size := h2
  have hx : x.cps.extract 0 x.cps.size = x.cps := by simp
  refine wpAny_bind (wpAny_bind (narrow_ok (c0 := x.cps[0]) (r := []) (x.length - 2) (by omega) (Array.getElem?_eq_getElem (by omega)) (bad_ascii _ (ha _ (by simp))) ?_ (out := toB x) ?_ hs ?_))
  · rw [hx, Array.findIdx?_eq_none_iff]
    intro c hc
    rw [bad_ascii c (ha c (by simpa using hc))]
  · rw [hx, hx, ← Array.foldl_toList, fold_ascii _ _ ha]
    simp [toB]
  · refine wpAny_mkBytes ?_ hs
    exact wpAny_pure ⟨_, rfl, h _ _⟩
end Mine

/-! part C4 -/
namespace Mine
open PySem PySem.W PySem.Calls PyProof.Rows
set_option maxRecDepth 100000
set_option linter.unusedVariables false

theorem Ev.map {α β : Type} {M : Model} {A : Around} {X : List Addr} {t : Sem Value} {T : Ty α} {U : Ty β} {x : α} {y : β} {s : Shared} (h : Ev M A X t T x s) (f : ∀ g v, T.rel g v x → U.rel g v y) : Ev M A X t U y s :=
  fun s1 k1 => wpAny_mono (h s1 k1) (fun v s2 p => ⟨p.1, f _ _ p.2⟩) fun _ _ q => q

theorem paired_of {α β : Type} {F : α → β → Prop} : ∀ {l : List α} {m : List β}, l.length = m.length → (∀ (i : Nat) x y, l[i]? = some x → m[i]? = some y → F x y) → Paired F l m
  | [], [], _, _ => .nil
  | x :: l, y :: m, h, hf => .cons (hf 0 x y rfl rfl) (paired_of (by simpa using h) fun i a b ha hb => hf (i + 1) a b (by simpa using ha) (by simpa using hb))
  | [], _ :: _, h, _ => by cases h
  | _ :: _, [], h, _ => by cases h
theorem strs_of {g : Vw} : ∀ {vs : List Value} {ns : List Str}, Paired (tStr.rel g) vs ns → StrsAre vs ns
  | _, _, .nil => .nil
  | _, _, .cons ⟨t, e⟩ r => by subst e; exact .cons _ t (strs_of r)

section
variable {w : World} {A : Around} {X : List Addr} {s : Shared} {env : Env} {e value slice l r : Expr} {p pos : Pos} {α β : Type} {T : Ty α} {U : Ty β}
theorem ev_none : Ev (model PR w) A X (eval (.Constant .none 0 pos) env) tOB none s := fun s1 _ => wpAny_Constant_none ⟨kp_refl _, rfl⟩

theorem ev_chr {i : Int} (B : Bas w s.heap) (h : Ev (model PR w) A X (eval e env) tInt i s) (h0 : 0 ≤ i) (h1 : i ≤ 1114111)
    (hk : env.scope.kind = .function := by rfl) (hx : env.kindOf "chr" = some .globalImplicit := by rfl) (hg : env.globals = mainGlobals := by rfl) (hbn : env.builtins = builtinsNs := by rfl)
    (hc : eval (.Call (.Name "chr" p) [e] [] pos) env = (do callWith pos (← eval (.Name "chr" p) env) [] (backTo pos (starEach [e] env)) (backToKw pos (keywordEach [] env))) := by rfl)
    (he : starEach [e] env = (false, eval e env) :: starEach [] env := by rfl) :
    Ev (model PR w) A X (eval (.Call (.Name "chr" p) [e] [] pos) env) tStr ⟨#[i.toNat]⟩ s := by
  refine ev_callb PyProof.Rows.boot_chr B (eva_cons h eva_nil he) (fun vs s2 k2 hd => ?_) (hk := hk) (hx := hx) (hg := hg) (hbn := hbn) (hc := hc) (he := he)
  obtain ⟨v, rfl, t, rfl⟩ := dts1 hd
  exact PyProof.Rows.chr_of_range h0 h1 ⟨kp_tok _ _, _, rfl⟩

theorem ev_sidx {x : Str} {k : Int} {c : Nat} (e1 : Ev (model PR w) A X (eval value env) tStr x s) (e2 : Ev (model PR w) A X (eval slice env) tInt k s) (h0 : 0 ≤ k) (hfit : k < 2 ^ 63) (hc : x.cps[k.toNat]? = some c)
    (hs : ∀ x t i u, subscripted slice false (.str x t) (.int i u) = operate [.str x t, .int i u] (getItem (.str x t) (.int i u)) := by intro _ _ _ _; with_unfolding_all rfl) :
    Ev (model PR w) A X (eval (.Subscript value slice pos) env) tStr ⟨#[c]⟩ s := by
  intro s1 k1
  refine Subscript_ ((e1.up k1).wp fun v1 s2 k2 r1 => (e2.up (kp_trans k1 k2)).wp fun v2 s3 k3 r2 => ?_)
  obtain ⟨t, rfl⟩ := r1
  obtain ⟨u, rfl⟩ := r2
  have hlt : k.toNat < x.cps.size := by
    rcases Nat.lt_or_ge k.toNat x.cps.size with h | h
    · exact h
    · rw [Array.getElem?_eq_none h] at hc; cases hc
  refine tail_any (typeIs_str _ _ _) PySem.F.slot_str_getitem.lookup (P.getItem_str (c := c) ?_ ?_ ⟨kp_trans k2 (kp_trans k3 (kp_tok _ _)), _, rfl⟩) (hs _ _ _ _)
  · rw [decide_eq_false (by omega), decide_eq_false (by omega)]; rfl
  · have hl : (k : Int) < x.length := by show k < (x.cps.size : Int); omega
    have : seqIndex? k x.length = some k.toNat := by
      have hn : ¬ k < 0 := by omega
      simp [seqIndex?, hn, h0, hl]
    rw [this]; exact hc
theorem ev_bidx {b : Array UInt8} {k : Int} (e1 : Ev (model PR w) A X (eval value env) tBytes b s) (e2 : Ev (model PR w) A X (eval slice env) tInt k s) (h0 : 0 ≤ k) (hk : k < b.size) (hfit : b.size ≤ 1000)
    (hs : ∀ x t i u, subscripted slice false (.bytes x t) (.int i u) = operate [.bytes x t, .int i u] (getItem (.bytes x t) (.int i u)) := by intro _ _ _ _; with_unfolding_all rfl) :
    Ev (model PR w) A X (eval (.Subscript value slice pos) env) tInt ((b.toList.getD k.toNat 0).toNat : Int) s := by
  intro s1 k1
  refine Subscript_ ((e1.up k1).wp fun v1 s2 k2 r1 => (e2.up (kp_trans k1 k2)).wp fun v2 s3 k3 r2 => ?_)
  obtain ⟨t, rfl⟩ := r1
  obtain ⟨u, rfl⟩ := r2
  obtain ⟨l⟩ := b
  refine tail_any (typeIs_bytes _ _ _) FB.slot_bytes_getitem.lookup ?_ (hs _ _ _ _)
  refine PySem.W.getItem_bytes (prog := PR) (w := w) (l := l) (by have : l.length ≤ 1000 := hfit; omega) h0 hk ?_
  exact ⟨kp_trans k2 (kp_trans k3 (kp_tok _ _)), _, rfl⟩

theorem ev_sadd {x y : Str} (h : x.length + y.length ≤ 10000) (e1 : Ev (model PR w) A X (eval l env) tStr x s) (e2 : Ev (model PR w) A X (eval r env) tStr y s) : Ev (model PR w) A X (eval (.BinOp l .Add r pos) env) tStr (x ++ y) s :=
  ev_bin e1 e2 (by rintro _ _ s2 _ ⟨t, rfl⟩ ⟨u, rfl⟩; exact PyProof.Rows.add_str (fun t' tk => ⟨kp_tok _ _, _, rfl⟩) (by rw [sizeLine_eq]; omega))

theorem ev_ladd {xs ys : List α} (xb : XB X s.heap) (hn : xs.length + ys.length ≤ 100) (e1 : Ev (model PR w) A X (eval l env) (tList T) xs s) (e2 : Ev (model PR w) A X (eval r env) (tList T) ys s) :
    Ev (model PR w) A X (eval (.BinOp l .Add r pos) env) (tList T) (xs ++ ys) s :=
  ev_bin e1 e2 (by
    rintro _ _ s2 k2 ⟨a, vs, rfl, hl, hp⟩ ⟨b, us, rfl, hl2, hp2⟩
    obtain ⟨⟨cls, dd, data, sl⟩, ho, hc, n, hd⟩ := hl.list
    obtain ⟨⟨cls2, dd2, data2, sl2⟩, ho2, hc2, n2, hd2⟩ := hl2.list
    simp only at hc hd hc2 hd2
    subst hc hd hc2 hd2
    have e : vs.toArray ++ us.toArray = (vs ++ us).toArray := by simp
    refine concat_meets ⟨_, ho, rfl⟩ ⟨_, ho2, rfl⟩ noFill_list_add seq_list_add PySem.F.slot_list_add PySem.F.entry_list_add (PySem.F.args_list_add_2 _ _) (list_addW a b vs.toArray us.toArray n n2 dd dd2 sl sl2 (by simp [hp.length, hp2.length, sizeLine_eq]; omega)) ⟨ho, ho2, ?_⟩
    rw [e]
    have kk : Keeps s2 { s2 with heap := s2.heap.push { cls := .type "list", data := .seq (vs ++ us).toArray } } := kp_push _ _
    refine ⟨kk, _, vs ++ us, rfl, push_lst "list" (xb.up (kp_hk k2)) _, ?_⟩
    have app : ∀ {l : List Value} {m : List α} {l' : List Value} {m' : List α}, Paired (T.rel (vw X s2.heap)) l m → Paired (T.rel (vw X s2.heap)) l' m' → Paired (T.rel (vw X s2.heap)) (l ++ l') (m ++ m') := by
      intro l m l' m' h h'
      induction h with
      | nil => exact h'
      | cons a _ ih => exact .cons a ih
    exact paired_imp (fun _ _ r => T.mono (vw_hk (kp_hk kk)).vk r) (app hp hp2))

theorem ev_join {x : Str} {ys : List Str} {o : Expr} {apos : Pos} (hok : (ys.map (·.length)).sum + ys.length * x.length ≤ 10000) (e1 : Ev (model PR w) A X (eval o env) tStr x s) (e2 : Ev (model PR w) A X (eval e env) (tList tStr) ys s)
    (hbase : attributeBase o "join" env (eval o env) = eval o env := by rfl) (hs : starEach [e] env = [(false, eval e env)] := by rfl) (hline : (apos.endLine == pos.line) = true := by rfl) :
    Ev (model PR w) A X (eval (.Call (.Attribute o "join" apos) [e] [] pos) env) tStr (Txt.join x ys) s := by
  refine ev_meth1 e1 e2 PySem.F.plainAttrs_str PySem.F.slot_str_join PySem.F.type_str_join (fun v s1 k1 r1 => ?_) hbase hs hline
  obtain ⟨t, rfl⟩ := r1
  refine ⟨typeIs_str _ _ _, (fun _ e => nomatch e), ?_⟩
  rintro u s2 k2 _ ⟨a, vs, rfl, hl, hp⟩
  exact join_list hl.list (by simpa using strs_of hp) (by omega) fun t' k => ⟨kp_tok _ _, _, rfl⟩
theorem ev_encode {x : Str} {o : Expr} {apos : Pos} (h2 : 2 ≤ x.length) (h3 : x.length ≤ 1000) (ha : ∀ c ∈ x.cps.toList, c < 128) (e1 : Ev (model PR w) A X (eval o env) tStr x s)
    (hbase : attributeBase o "encode" env (eval o env) = eval o env := by rfl) (hline : (apos.endLine == pos.line) = true := by rfl) :
    Ev (model PR w) A X (eval (.Call (.Attribute o "encode" apos) [] [] pos) env) tBytes (toB x) s := by
  refine ev_meth0 e1 PySem.F.plainAttrs_str PySem.F.slot_str_encode PySem.F.type_str_encode (fun v s1 k1 r1 => ?_) hbase hline
  obtain ⟨t, rfl⟩ := r1
  refine ⟨typeIs_str _ _ _, (fun _ e => nomatch e), ?_⟩
  exact encode_ok h2 h3 ha fun t' tk => ⟨kp_tok _ _, _, rfl⟩
theorem ev_lower {x : Str} {o : Expr} {apos : Pos} (h3 : x.length ≤ 1000) (e1 : Ev (model PR w) A X (eval o env) tStr x s)
    (hbase : attributeBase o "lower" env (eval o env) = eval o env := by rfl) (hline : (apos.endLine == pos.line) = true := by rfl) :
    Ev (model PR w) A X (eval (.Call (.Attribute o "lower" apos) [] [] pos) env) tStr (Txt.lower x) s := by
  refine ev_meth0 e1 PySem.F.plainAttrs_str PySem.F.slot_str_lower PySem.F.type_str_lower (fun v s1 k1 r1 => ?_) hbase hline
  obtain ⟨t, rfl⟩ := r1
  refine ⟨typeIs_str _ _ _, (fun _ e => nomatch e), ?_⟩
  exact SC.lower (fit_lower (by omega)) ⟨kp_tok _ _, _, rfl⟩

/-- list(range(n)) -/
theorem ev_lrange {n : Nat} {p2 pos2 : Pos} (hA : A.handled = none) (B : Bas w s.heap) (xb : XB X s.heap) (hn : n ≤ 8) (h : Ev (model PR w) A X (eval e env) tInt (n : Int) s)
    (hk : env.scope.kind = .function := by rfl) (hx : env.kindOf "range" = some .globalImplicit := by rfl) (hx2 : env.kindOf "list" = some .globalImplicit := by rfl) (hg : env.globals = mainGlobals := by rfl) (hbn : env.builtins = builtinsNs := by rfl)
    (hc : eval (.Call (.Name "range" p) [e] [] pos) env = (do callWith pos (← eval (.Name "range" p) env) [] (backTo pos (starEach [e] env)) (backToKw pos (keywordEach [] env))) := by rfl)
    (he : starEach [e] env = (false, eval e env) :: starEach [] env := by rfl)
    (hc2 : eval (.Call (.Name "list" p2) [.Call (.Name "range" p) [e] [] pos] [] pos2) env = (do callWith pos2 (← eval (.Name "list" p2) env) [] (backTo pos2 (starEach [.Call (.Name "range" p) [e] [] pos] env)) (backToKw pos2 (keywordEach [] env))) := by rfl)
    (he2 : starEach [.Call (.Name "range" p) [e] [] pos] env = (false, eval (.Call (.Name "range" p) [e] [] pos) env) :: starEach [] env := by rfl) :
    Ev (model PR w) A X (eval (.Call (.Name "list" p2) [.Call (.Name "range" p) [e] [] pos] [] pos2) env) (tList tInt) (rng n) s := by
  intro s1 k1
  have B1 := B.up (kp_hk k1)
  obtain ⟨mean, mg, mb, T1⟩ := B1.T
  refine Call_ (he := hc2) ?_
  refine Name_function_global hk hx2 (loadGlobal_builtin (hg ▸ T1.g) (mg_none B1.K T1.g rfl rfl rfl) (hbn ▸ T1.b) ((T1.builtins _ (by decide)).trans PyProof.Rows.boot_list) ?_) (by decide)
  refine PyProof.Rows.callWith_type1 ?_ he2 rfl
  refine args_cons (he := he2) ?_
  refine wp_callt PyProof.Rows.boot_range B1 (eva_cons (h.up k1) eva_nil he) (fun vs s2 k2 hd => ?_) (hk := hk) (hx := hx) (hg := hg) (hbn := hbn) (hc := hc) (he := he)
  obtain ⟨v, rfl, t, rfl⟩ := dts1 hd
  refine call_range_1 ?_
  refine args_nil ?_
  obtain ⟨h1, h2⟩ := rng_ok n hn
  refine call_list_range hA (IsRange.new ..) h1 h2 (by omega) fun h' tk acc' c' hk' ho' hit => ?_
  have hkk : HK s2.heap h' := fun b o e => hk' b o (Heap.get?_push_of_some _ e)
  have e : acc' = acc'.toList.toArray := by simp
  refine ⟨kp_trans k2 ⟨h', tk, rfl, hkk⟩, _, acc'.toList, rfl, ⟨_, vw_of ho' ?_, rfl, c', by rw [← e]⟩, ?_⟩
  · refine (xb.up (HK.trans (kp_hk k1) (HK.trans (kp_hk k2) ?_))).new (size_none _)
    exact fun b o e => Heap.get?_push_of_some _ e
  · refine paired_of (by rw [rng_len]; simpa using hit.1) fun i v x hv hx => ?_
    obtain ⟨t', rfl⟩ := hit.2 i v (by simpa using hv)
    obtain ⟨_, rfl⟩ := rng_get hx
    exact ⟨t', by simp⟩
end
end Mine

/-! part C5 -/
namespace Mine
open PySem PySem.W PySem.Calls PyProof.Rows
set_option maxRecDepth 100000
set_option linter.unusedVariables false

theorem all_range (xs ys : List Int) (h : xs.length = ys.length) : ((List.range xs.length).all fun j => xs.getD j 0 == ys.getD j 0) = decide (xs = ys) := by
  rw [Bool.eq_iff_iff, List.all_eq_true, decide_eq_true_iff]
  constructor
  · intro hj
    apply List.ext_getElem h
    intro i h1 h2
    have := hj i (List.mem_range.mpr h1)
    simpa [List.getD_eq_getElem?_getD, List.getElem?_eq_getElem h1, List.getElem?_eq_getElem h2] using this
  · rintro rfl i _
    simp

section
variable {w : World} {A : Around} {X : List Addr} {s2 : Shared} {v1 v2 : Value} {α β : Type} {T : Ty α} {U : Ty β}
theorem ints_eqAt {vs us : List Value} {xs ys : List Int} {g g' : Vw} (h1 : Paired (tInt.rel g) vs xs) (h2 : Paired (tInt.rel g') us ys) (j : Nat) (l1 : j < vs.toArray.size) (l2 : j < us.toArray.size) :
    SeqAt.EqAt A.in1 s2 vs.toArray[j] us.toArray[j] (xs.getD j 0 == ys.getD j 0) := by
  have l1' : j < vs.length := by simpa using l1
  have l2' : j < us.length := by simpa using l2
  obtain ⟨x, hx, t, e1⟩ := paired_fst h1 j vs[j] (List.getElem?_eq_getElem l1')
  obtain ⟨y, hy, u, e2⟩ := paired_fst h2 j us[j] (List.getElem?_eq_getElem l2')
  have e1' : vs.toArray[j] = .int x t := by simpa using e1
  have e2' : us.toArray[j] = .int y u := by simpa using e2
  rw [e1', e2', List.getD_eq_getElem?_getD, List.getD_eq_getElem?_getD, hx, hy]
  exact SeqAt.EqAt.int_int x t y u
theorem cmp_eql {xs ys : List Int} (hA : A.units < cLine) (r1 : (tList tInt).rel (vw X s2.heap) v1 xs) (r2 : (tList tInt).rel (vw X s2.heap) v2 ys) : wpAny (model PR w) A (compareOp .Eq v1 v2) (fun v s3 => Keeps s2 s3 ∧ v = .bool (decide (xs = ys))) NoE s2 := by
  obtain ⟨a, vs, rfl, hl, hp⟩ := r1
  obtain ⟨b, us, rfl, hl2, hp2⟩ := r2
  by_cases h : xs.length = ys.length
  · refine SeqAt.eq_listAt (e := fun j => xs.getD j 0 == ys.getD j 0) hl.list hl2.list (by simp [hp.length, hp2.length, h]) hA (fun j l1 l2 => ints_eqAt hp hp2 j l1 l2) ⟨kp_refl _, ?_⟩
    rw [show vs.toArray.size = xs.length by simp [hp.length], all_range xs ys h]
  · refine SeqAt.eq_list_lengthsAt hl.list hl2.list (by simp [hp.length, hp2.length, h]) hA ⟨kp_refl _, ?_⟩
    rw [decide_eq_false (fun e => h (by rw [e]))]
theorem cmp_nel {xs ys : List Int} (hA : A.units < cLine) (r1 : (tList tInt).rel (vw X s2.heap) v1 xs) (r2 : (tList tInt).rel (vw X s2.heap) v2 ys) : wpAny (model PR w) A (compareOp .NotEq v1 v2) (fun v s3 => Keeps s2 s3 ∧ v = .bool (!decide (xs = ys))) NoE s2 := by
  obtain ⟨a, vs, rfl, hl, hp⟩ := r1
  obtain ⟨b, us, rfl, hl2, hp2⟩ := r2
  by_cases h : xs.length = ys.length
  · refine SeqAt.RcNeAt.lists (e := fun j => xs.getD j 0 == ys.getD j 0) hl.list hl2.list (by simp [hp.length, hp2.length, h]) hA (fun j l1 l2 => ints_eqAt hp hp2 j l1 l2) PR w NoE _ ⟨kp_refl _, ?_⟩
    rw [show vs.toArray.size = xs.length by simp [hp.length], all_range xs ys h]
  · refine SeqAt.RcNeAt.lists_lengths hl.list hl2.list (by simp [hp.length, hp2.length, h]) hA PR w NoE _ ⟨kp_refl _, ?_⟩
    rw [decide_eq_false (fun e => h (by rw [e]))]; rfl
theorem cmp_eqn {xs : List α} (hA : A.units < cLine) (r1 : (tList T).rel (vw X s2.heap) v1 xs) (r2 : (tList U).rel (vw X s2.heap) v2 []) : wpAny (model PR w) A (compareOp .Eq v1 v2) (fun v s3 => Keeps s2 s3 ∧ v = .bool xs.isEmpty) NoE s2 := by
  obtain ⟨a, vs, rfl, hl, hp⟩ := r1
  obtain ⟨b, us, rfl, hl2, hp2⟩ := r2
  cases xs with
  | nil =>
    cases hp; cases hp2
    exact SeqAt.eq_listAt (e := fun _ => true) hl.list hl2.list rfl hA (fun j l1 l2 => absurd l1 (Nat.not_lt_zero _)) ⟨kp_refl _, rfl⟩
  | cons x xs => exact SeqAt.eq_list_lengthsAt hl.list hl2.list (by simp [hp.length, hp2.length]) hA ⟨kp_refl _, rfl⟩
theorem cmp_nen {xs : List α} (hA : A.units < cLine) (r1 : (tList T).rel (vw X s2.heap) v1 xs) (r2 : (tList U).rel (vw X s2.heap) v2 []) : wpAny (model PR w) A (compareOp .NotEq v1 v2) (fun v s3 => Keeps s2 s3 ∧ v = .bool (!xs.isEmpty)) NoE s2 := by
  obtain ⟨a, vs, rfl, hl, hp⟩ := r1
  obtain ⟨b, us, rfl, hl2, hp2⟩ := r2
  cases xs with
  | nil =>
    cases hp; cases hp2
    exact SeqAt.RcNeAt.lists (e := fun _ => true) hl.list hl2.list rfl hA (fun j l1 l2 => absurd l1 (Nat.not_lt_zero _)) PR w NoE _ ⟨kp_refl _, rfl⟩
  | cons x xs => exact SeqAt.RcNeAt.lists_lengths hl.list hl2.list (by simp [hp.length, hp2.length]) hA PR w NoE _ ⟨kp_refl _, rfl⟩
theorem cmp_neb {a b : Bool} : wpAny (model PR w) A (compareOp .NotEq (.bool a) (.bool b)) (fun v s3 => Keeps s2 s3 ∧ v = .bool (!(a == b))) NoE s2 :=
  SeqAt.RcNeAt.bool_bool a b PR w NoE _ ⟨kp_refl _, rfl⟩
theorem cmp_ge' {a b : Int} (r1 : tInt.rel (vw X s2.heap) v1 a) (r2 : tInt.rel (vw X s2.heap) v2 b) : wpAny (model PR w) A (compareOp .GtE v1 v2) (fun v s3 => Keeps s2 s3 ∧ v = .bool (decide (b ≤ a))) NoE s2 := cmp_ge s2 r1 r2
end

section
variable {w : World} {A : Around} {ow X : List Addr} {hrs : List Heap} {s0 s : Shared} {env : Env} {G : List VarE} {α β : Type} {T : Ty α} {U : Ty β} {d : α}
theorem asg_name {x : Str} {p : Pos} {v : Value} {Q : Unit → Shared → Prop} (st : St env ow X G hrs s0 s) (hr : T.rel (vw X s.heap) v d)
    (k : ∀ s', St env ow X (⟨x, α, T, d⟩ :: G) hrs s0 s' → Stp X s s' → Q () s') (hl : env.kindOf x = some .local := by rfl) (hk : env.scope.kind = .function := by rfl) : wpAny (model PR w) A (assign (.Name x p) env v) Q NoE s :=
  wpAny_assign_Name (st_store st hr hl hk k)
theorem asg_cell {x : Str} {p : Pos} {c : Addr} {v : Value} {Q : Unit → Shared → Prop} (st : St env ow X G hrs s0 s) (hr : T.rel (vw X s.heap) v d) (own : c ∈ ow)
    (k : ∀ s', St env ow X (⟨x, α, T, d⟩ :: G) hrs s0 s' → Stp X s s' → Q () s') (hl : env.kindOf x = some .cell := by rfl) (hc : env.cells.lookup x = some c := by rfl) (hk : env.scope.kind = .function := by rfl) : wpAny (model PR w) A (assign (.Name x p) env v) Q NoE s :=
  wpAny_assign_Name (st_storeC st hr hl hc own hk k)
theorem asg_pair {x y : Str} {p q pos : Pos} {j : Nat} {v : Value} {z : α × β} {Q : Unit → Shared → Prop} (hA : A.handled = none) (st : St env ow X G hrs s0 s) (hr : (tPair T U).rel (vw X s.heap) v z)
    (k : ∀ s', St env ow X (⟨y, β, U, z.2⟩ :: ⟨x, α, T, z.1⟩ :: G) hrs s0 s' → Stp X s s' → Q () s') (hl : env.kindOf x = some .local := by rfl) (hl2 : env.kindOf y = some .local := by rfl) (hk : env.scope.kind = .function := by rfl)
    (he : assignEach [.Name x p, .Name y q] env = [(false, assign (.Name x p) env), (false, assign (.Name y q) env)] := by rfl) : wpAny (model PR w) A (assign (.Tuple [.Name x p, .Name y q] j pos) env v) Q NoE s := by
  obtain ⟨a, v1, v2, rfl, hl', r1, r2⟩ := hr
  refine wpAny_assign_Tuple hA hl'.tup (by rw [he]; rfl) (by rw [he]; rfl) fun h' hx => ?_
  have kk : Keeps s { s with heap := h' } := ⟨h', s.toks, rfl, fun b o e => hx b o (Nat.ne_of_lt (Heap.lt_size e)) e⟩
  rw [he]
  have hv := (vw_hk (X := X) (kp_hk kk)).vk
  refine wpAny_assignInOrder_more (asg_name (st.up kk) (T.mono hv r1) (fun s1 st1 sp1 => ?_) hl hk)
  refine wpAny_assignInOrder_more (asg_name st1 (U.mono (hv.trans sp1.2) r2) (fun s2 st2 sp2 => ?_) hl2 hk)
  exact wpAny_assignInOrder_none (k s2 st2 ((stp_kp kk).trans (sp1.trans sp2)))

/-- a hidden list of ours -/
def LL {α : Type} (T : Ty α) (X : List Addr) (D : Addr) (xs : List α) (h : Heap) : Prop := ∃ vs, h.PlainList D vs.toArray ∧ Paired (T.rel (vw X h)) vs xs
theorem LL.stp {xs : List α} {D : Addr} {s s' : Shared} (h : LL T X D xs s.heap) (hD : D ∈ X) (k : Stp X s s') : LL T X D xs s'.heap :=
  let ⟨vs, h1, h2⟩ := h; ⟨vs, h1.at fun o e => k.1 D hD o e, paired_imp (fun _ _ r => T.mono k.2 r) h2⟩
def LLi {α : Type} (T : Ty α) (X : List Addr) (D : Addr) (xs : List α) (h : Heap) : Prop := ∃ vs, h.IsList D vs.toArray ∧ Paired (T.rel (vw X h)) vs xs
theorem LLi.stp {xs : List α} {D : Addr} {s s' : Shared} (h : LLi T X D xs s.heap) (hD : D ∈ X) (k : Stp X s s') : LLi T X D xs s'.heap :=
  let ⟨vs, ⟨o, h1, h3⟩, h2⟩ := h; ⟨vs, ⟨o, k.1 D hD o h1, h3⟩, paired_imp (fun _ _ r => T.mono k.2 r) h2⟩
theorem LL.i {xs : List α} {D : Addr} {h : Heap} (x : LL T X D xs h) : LLi T X D xs h := let ⟨vs, h1, h2⟩ := x; ⟨vs, h1.isList, h2⟩
theorem LLi.show {xs : List α} {D : Addr} {h : Heap} (x : LLi T (D :: X) D xs h) (hD : D ∉ X) : (tList T).rel (vw X h) (.ref D) xs :=
  let ⟨vs, h1, h2⟩ := x; ⟨D, vs, rfl, lstV_of h1 hD, paired_imp (fun _ _ r => T.mono (vw_show (Y := [D])).vk r) h2⟩

def LR {α : Type} (T : Ty α) (xs : List α) (D : Addr) (o : Obj) (g : Vw) : Prop := ∃ vs : List Value, o = { cls := .type "list", data := .seq vs.toArray } ∧ Paired (T.rel g) vs xs
theorem LR.mono {xs : List α} (D : Addr) (o : Obj) (g g' : Vw) (k : VK g g') (h : LR T xs D o g) : LR T xs D o g' :=
  let ⟨vs, h1, h2⟩ := h; ⟨vs, h1, paired_imp (fun _ _ r => T.mono k r) h2⟩
theorem st_newlist {xs : List α} {x : Str} {p pos pos2 : Pos} {elts : List Expr} {ds : List Dt} {rest : List Stmt} {Q : Flow → Shared → Prop} (st : St env ow X G hrs s0 s)
    (e : EvA (model PR w) A X elts env ds s)
    (k : ∀ D s', s0.heap.get? D = none → D ∉ X → St env ow (D :: X) (⟨x, Unit, tRef D, ()⟩ :: G) hrs s0 s' → LL T (D :: X) D xs s'.heap → VK (vw X s.heap) (vw (D :: X) s'.heap) → wpAny (model PR w) A (execs rest env) Q NoE s')
    (hds : ds = xs.map (fun x => (⟨α, T, x⟩ : Dt)) := by rfl) (hsz : xs.length ≤ 100 := by decide)
    (hl : env.kindOf x = some .local := by rfl) (hk : env.scope.kind = .function := by rfl)
    (hs : swapsWith (.List elts pos2) (some (.Name x p)) pos.line env = pure false := by rfl) :
    wpAny (model PR w) A (execs (.Assign [.Name x p] (.List elts pos2) pos :: rest) env) Q NoE s := by
  refine st_fresh (R := LR T xs) LR.mono st ?_ (fun D o s' h0 hX _ st' ho hR hv => ?_) hl hk hs
  · refine List_ (wpAny_mono (e pos2 s (kp_refl _)) (fun vs s2 p => ?_) fun _ _ p => p)
    have hp := dts_paired (hds ▸ p.2)
    have hl := hp.length
    refine wpAny_newObj_type ?_ (by show vs.toArray.size ≤ sizeLine; rw [List.size_toArray, sizeLine_eq]; omega)
    have hn : s.heap.get? s2.heap.objs.size = none := by
      cases e : s.heap.get? s2.heap.objs.size with
      | none => rfl
      | some o => exact absurd (Heap.lt_size (kp_hk p.1 _ _ e)) (Nat.lt_irrefl _)
    refine ⟨kp_trans p.1 (kp_push _ _), _, _, rfl, hn, Heap.get?_push_size _ rfl, vs, rfl, paired_imp (fun _ _ r => T.mono (vw_hide (Y := [s2.heap.objs.size]) (kp_hk (kp_push s2 _)) ?_).vk r) hp⟩
    intro y hy
    rw [List.mem_singleton.mp hy]; exact size_none _
  · obtain ⟨vs, rfl, hp⟩ := hR
    exact k D s' h0 hX st' ⟨vs, ⟨_, ho⟩, hp⟩ hv

theorem St.hidL {D : Addr} {h' : Heap} {t : Nat} {ys : Array Value} (st : St env ow X G hrs s0 s) (hD : D ∈ X) (hs : Heap.SameBut D s.heap h') (h0 : s0.heap.get? D = none) (hx : ∃ o, h'.get? D = some o) (hq : s.heap.IsList D ys) :
    St env ow X G hrs s0 { s with heap := h', toks := t } ∧ VA (vw X s.heap) (vw X h') := by
  have va : VA (vw X s.heap) (vw X h') := vw_but fun b o hb e => by rw [hs.2 b (by rintro rfl; exact hb hD)]; exact e
  have hne : ∀ b ∈ ow, b ≠ D := fun b hb e => st.ox b hb (e ▸ hD)
  refine ⟨⟨kp_but st.kp hs h0, st.oL, st.ok, st.fr, st.ox, ?_, ?_, st.cd, st.sc.va va, ?_, ?_⟩, va⟩
  · obtain ⟨m, hn⟩ := st.ns
    exact ⟨m, hn.sameBut hs (hne _ st.oL)⟩
  · intro n c hc
    obtain ⟨v, hv⟩ := st.ce n c hc
    have hcd : c ≠ D := by
      rintro rfl
      obtain ⟨q, hq, _, n, hqd⟩ := hq
      obtain ⟨o, ho, hd⟩ := hv
      rw [hq] at ho; cases ho
      rw [hqd] at hd; cases hd
    exact ⟨v, hv.sameBut hs hcd⟩
  · intro x hx'
    by_cases e : x = D
    · subst e; exact hx
    · obtain ⟨o, ho⟩ := st.xb x hx'
      exact ⟨o, (hs.2 x e).trans ho⟩
  · intro h hh b o h1 h2 e
    have := st.rf h hh b o h1 h2 e
    rw [show ({ s with heap := h', toks := t } : Shared).heap = h' from rfl, hs.2 b (by rintro rfl; exact h1 hD)]
    exact this

theorem st_append {y : α} {xs : List α} {x : Str} {D : Addr} {elt : Expr} {p apos pos pos2 : Pos} {rest : List Stmt} {Q : Flow → Shared → Prop} (st : St env ow X G hrs s0 s) (hD : D ∈ X) (h0 : s0.heap.get? D = none) (ll : LL T X D xs s.heap) (hn : xs.length ≤ 100)
    (e1 : Ev (model PR w) A X (eval (.Name x p) env) (tRef D) () s) (e2 : Ev (model PR w) A X (eval elt env) T y s)
    (k : ∀ s', St env ow X G hrs s0 s' → LL T X D (xs ++ [y]) s'.heap → VK (vw X s.heap) (vw X s'.heap) → wpAny (model PR w) A (execs rest env) Q NoE s')
    (hbase : attributeBase (.Name x p) "append" env (eval (.Name x p) env) = eval (.Name x p) env := by rfl)
    (hfew : ((backTo pos (starEach [elt] env)).all (fun x => !x.1) && (backToKw pos (keywordEach [] env)).all (fun x => x.1.isSome)
      && decide (([elt] : List Expr).length + ([] : List Keyword).length + (if ([] : List Keyword).isEmpty then 0 else 1) < 30)) = true := by rfl)
    (hline : (apos.endLine == pos.line) = true := by rfl) (htrees : backTo pos (starEach [elt] env) = [(false, eval elt env)] := by rfl)
    (hi : interactive env = false := by rfl) (hs : swapsWith (.Call (.Attribute (.Name x p) "append" apos) [elt] [] pos) none pos2.line env = pure false := by rfl) :
    wpAny (model PR w) A (execs (.Expr (.Call (.Attribute (.Name x p) "append" apos) [elt] [] pos) pos2 :: rest) env) Q NoE s := by
  refine wpAny_execs_cons (wpAny_Expr_any ?_ hi hs)
  refine wpAny_Call_append hbase hfew hline htrees (e1.wp fun v s1 k1 r1 => ?_)
  cases (show v = .ref D from r1)
  have ll1 := ll.stp hD (stp_kp k1)
  obtain ⟨vs, hpl, hp⟩ := id ll1
  refine ⟨D, vs.toArray, rfl, let ⟨n, hn⟩ := hpl; ⟨_, n, hn, rfl, rfl, rfl⟩, (e2.up k1).wp fun u s2 k2 r2 => ?_⟩
  obtain ⟨vs2, hpl2, hp2⟩ := ll1.stp hD (stp_kp k2)
  have st2 := (st.up k1).up k2
  refine wpAny_list_append_plain hpl2 (fun h6 hD6 hs6 => ?_) (by rw [List.size_toArray, hp2.length, sizeLine_eq]; omega)
  obtain ⟨st6, va6⟩ := st2.hidL (t := s2.toks) hD hs6 h0 (let ⟨n, hn⟩ := hD6; ⟨_, hn⟩) hpl2.isList
  refine k _ st6 ⟨vs2 ++ [u], ?_, ?_⟩ ((vw_hk (HK.trans (kp_hk k1) (kp_hk k2))).vk.trans va6.vk)
  · have e6 : vs2.toArray.push u = (vs2 ++ [u]).toArray := by simp
    rw [e6] at hD6; exact hD6
  · exact Paired.snoc (paired_imp (fun _ _ r => T.mono va6.vk r) hp2) (T.mono va6.vk r2)

theorem st_setadd {xs : List Int} {j d x0 : Int} {D : Addr} {o i value : Expr} {tpos pos : Pos} {rest : List Stmt} {Q : Flow → Shared → Prop} (st : St env ow X G hrs s0 s) (hD : D ∈ X) (h0 : s0.heap.get? D = none) (ll : LLi tInt X D xs s.heap)
    (hj : 0 ≤ j) (hj2 : j < xs.length) (hj3 : j < 2 ^ 63) (hx : xs[j.toNat]? = some x0) (e1 : Ev (model PR w) A X (eval o env) (tRef D) () s) (e2 : Ev (model PR w) A X (eval i env) tInt j s) (e3 : Ev (model PR w) A X (eval value env) tInt d s)
    (k : ∀ s', St env ow X G hrs s0 s' → LLi tInt X D (xs.set j.toNat (x0 + d)) s'.heap → VK (vw X s.heap) (vw X s'.heap) → wpAny (model PR w) A (execs rest env) Q NoE s')
    (hi : ∀ ov iv new, augStore i ov iv new = (do holding [new, ov, iv] (setItem ov iv new); release [new, ov, iv] []; pure .next) := by intros; rfl) :
    wpAny (model PR w) A (execs (.AugAssign (.Subscript o i tpos) .Add value pos :: rest) env) Q NoE s := by
  refine wpAny_execs_cons (wpAny_AugAssign_SubscriptAny ?_ hi)
  refine e1.wp fun ov s1 k1 r1 => (e2.up k1).wp fun iv s2 k2 r2 => ?_
  cases (show ov = .ref D from r1)
  obtain ⟨t, rfl⟩ := r2
  have k02 := kp_trans k1 k2
  obtain ⟨vs, hl, hp⟩ := id (ll.stp hD (stp_kp k02))
  obtain ⟨v0, hv0, t0, rfl⟩ := paired_get hp _ _ hx
  refine wpAny_getItem_list hl hj hj3 (by simpa using hv0) ?_
  refine (e3.up k02).wp fun v s3 k3 r3 => ?_
  have k03 := kp_trans k02 k3
  refine wpAny_mono (iop_add (X := X) (a := x0) ⟨t0, rfl⟩ r3) (fun new s4 q => ?_) fun _ _ q => q
  obtain ⟨k4, t4, rfl⟩ := q
  have k04 := kp_trans k03 k4
  obtain ⟨vs4, hl4, hp4⟩ := id (ll.stp hD (stp_kp k04))
  have hlen : vs4.length = xs.length := hp4.length
  refine wpAny_setItem_list hl4 hj hj3 (by rw [List.size_toArray, hlen]; exact hj2) fun h' hl' hs' => ?_
  obtain ⟨st5, va5⟩ := (st.up k04).hidL (t := s4.toks) hD hs' h0 (let ⟨o, ho, _⟩ := hl'; ⟨o, ho⟩) hl4
  refine k _ st5 ⟨vs4.set j.toNat (.int (x0 + d) t4), ?_, ?_⟩ ((vw_hk (kp_hk k04)).vk.trans va5.vk)
  · have e : vs4.toArray.setIfInBounds j.toNat (.int (x0 + d) t4) = (vs4.set j.toNat (.int (x0 + d) t4)).toArray := by simp
    rw [e] at hl'; exact hl'
  · refine paired_of (by simp [hlen]) fun i a b ha hb => ?_
    rw [List.getElem?_set] at ha hb
    by_cases h : j.toNat = i
    · subst h
      rw [if_pos rfl] at ha hb
      split at ha
      · split at hb
        · cases ha; cases hb; exact ⟨t4, rfl⟩
        · cases hb
      · cases ha
    · rw [if_neg h] at ha hb
      obtain ⟨y, hy, r⟩ := paired_fst hp4 _ _ ha
      rw [hb] at hy; cases hy
      exact r
end
end Mine

/-! part C6 -/
namespace Mine
open PySem PySem.W PySem.Calls PyProof.Rows
set_option maxRecDepth 100000
set_option linter.unusedVariables false

theorem st_forD {α : Type} {T : Ty α} {xs : List α} {w : World} {A : Around} {env : Env} {ow X : List Addr} {hrs : List Heap} {s0 s : Shared} {target iter : Expr} {body rest : List Stmt} {pos : Pos} {Q : Flow → Shared → Prop} {D : Addr}
    (Gi : Nat → List VarE) (hA : A.handled = none) (hD : D ∈ X)
    (st : St env ow X (Gi 0) hrs s0 s) (ll : LLi T X D xs s.heap)
    (ev : Ev (model PR w) A X (eval iter env) (tRef D) () s)
    (turn : ∀ i y v href s1, xs[i]? = some y → St env ow X (Gi i) (href :: hrs) s0 s1 → Stp X s s1 → T.rel (vw X s1.heap) v y →
      wpAny (model PR w) A (assign target env v) (fun _ s2 => wpAny (model PR w) A (execs body env) (fun f s3 => match f with
        | .next | .cont => St env ow X (Gi (i + 1)) (href :: hrs) s0 s3 ∧ Stp X s1 s3
        | .brk => False
        | .ret u => Q (.ret u) s3) NoE s2) NoE s1)
    (done : ∀ s1, St env ow X (Gi xs.length) hrs s0 s1 → Stp X s s1 → wpAny (model PR w) A (execs rest env) Q NoE s1)
    (hs : ∀ x, foldedSetIterable iter env x = pure x := by intro _; rfl) (ht : ∀ it v, letOwnedTupleGo target it v = pure () := by intro _ _; rfl) :
    wpAny (model PR w) A (execs (.For target iter body [] pos :: rest) env) Q NoE s := by
  refine wpAny_execs_cons (wpAny_For ?_ hs)
  refine ev.wp fun v s2 k2 r => ?_
  cases (show v = .ref D from r)
  have st2 := st.up k2
  obtain ⟨vs, hl, hp⟩ := id (ll.stp hD (stp_kp k2))
  have hlen := hp.length
  obtain ⟨oD, hoD, hcD, nD, hdD⟩ := id hl
  have hne : D ≠ s2.heap.objs.size := Nat.ne_of_lt (Heap.lt_size hoD)
  refine wpAny_pyIter_list hl ?_
  have W := Walks.list (prog := PR) (w := w) hA s2.heap.objs.size D hne vs.toArray
  have hsz : vs.toArray.size = xs.length := by simp [hlen]
  rw [hsz] at W
  have k3 : Keeps s2 { s2 with heap := s2.heap.push { cls := .type "list_iterator", data := .fields #[.ref D, .int 0 0] } } := kp_push _ _
  have hst0 : (s2.heap.push { cls := .type "list_iterator", data := .fields #[.ref D, .int 0 0] }).IsListIter s2.heap.objs.size D 0 ∧ (s2.heap.push { cls := .type "list_iterator", data := .fields #[.ref D, .int 0 0] }).IsList D vs.toArray := ⟨⟨_, Heap.get?_push_size _ rfl, rfl, rfl⟩, hl.push _⟩
  obtain ⟨n0, nX, nr⟩ := st2.new_ref (size_none s2.heap)
  generalize hI : s2.heap.objs.size = I at *
  generalize hs3 : ({ s2 with heap := s2.heap.push { cls := .type "list_iterator", data := .fields #[.ref D, .int 0 0] } } : Shared) = s3 at *
  refine codeAny_forLoop (fun n s' => ∃ i, n = xs.length + 1 - i ∧ i ≤ xs.length ∧ St env ow X (Gi i) hrs s0 s' ∧ (s'.heap.IsListIter I D i ∧ s'.heap.IsList D vs.toArray) ∧ Stp X s2 s') ?_ (xs.length + 1)
    ⟨0, rfl, Nat.zero_le _, st2.up k3, by rw [← hs3]; exact hst0, stp_kp k3⟩ (fun v => ht _ v)
  rintro n s' ⟨i, rfl, hi, st', hst', sp'⟩
  obtain ⟨oI, hoI, hcI, hdI⟩ := id hst'.1
  by_cases hlt : i < xs.length
  · refine wpAny_mono (Q := _) (W.item i s' _ NoE hlt hst' fun v h' tk hP hst1 hk1 => ?_) (fun _ _ q => q) fun _ _ e => e.elim
    have hk1' : ∀ b o, b ≠ I → s'.heap.get? b = some o → h'.get? b = some o := fun b o hb => hk1 b o (by simpa using hb)
    obtain ⟨st1, sp1⟩ := st'.iter (t := tk) hoI hdI nX n0 nr hk1'
    have sp01 := sp'.trans sp1
    have hv : vs[i]? = some v := by simpa using hP
    obtain ⟨y, hy, hr⟩ := paired_fst hp i v hv
    refine wpAny_mono (turn i y v h' _ hy st1.push ((stp_kp k2).trans sp01) (T.mono sp01.2 hr)) (fun _ s4 h4 => ?_) fun _ _ e => e.elim
    refine wpAny_mono h4 (fun f s5 h5 => ?_) fun _ _ e => e.elim
    have fin : St env ow X (Gi (i + 1)) (h' :: hrs) s0 s5 ∧ Stp X { s' with heap := h', toks := tk } s5 → ∃ m, m < xs.length + 1 - i ∧ ∃ j, m = xs.length + 1 - j ∧ j ≤ xs.length ∧ St env ow X (Gi j) hrs s0 s5 ∧ (s5.heap.IsListIter I D j ∧ s5.heap.IsList D vs.toArray) ∧ Stp X s2 s5 := by
      rintro ⟨st5, sp5⟩
      refine ⟨xs.length + 1 - (i + 1), by omega, i + 1, rfl, hlt, st5.pop, W.frame _ _ _ hst1 fun b hb o e => ?_, sp01.trans sp5⟩
      rcases List.mem_cons.mp hb with rfl | hb
      · obtain ⟨o1, ho1, _, hd1⟩ := id hst1.1
        exact st5.rf h' List.mem_cons_self _ o nX (st1.not_own ho1 (.inl ⟨_, hd1⟩)) e
      · rw [List.mem_singleton.mp hb] at e ⊢
        exact sp5.1 D hD o e
    cases f with
    | next => exact fin h5
    | cont => exact fin h5
    | brk => exact h5.elim
    | ret u => exact h5
  · have hie : i = xs.length := by omega
    subst hie
    refine wpAny_mono (Q := _) (W.done s' _ NoE hst' fun h' tk hk1 => ?_) (fun _ _ q => q) fun _ _ e => e.elim
    have hk1' : ∀ b o, b ≠ I → s'.heap.get? b = some o → h'.get? b = some o := fun b o hb => hk1 b o (by simpa using hb)
    obtain ⟨st1, sp1⟩ := st'.iter (t := tk) hoI hdI nX n0 nr hk1'
    exact wpAny_execs_nil (done _ st1 ((stp_kp k2).trans (sp'.trans sp1)))
end Mine

/-! part D0 -/
namespace Mine
open PySem PySem.W PySem.Calls PyProof.Rows
set_option maxRecDepth 100000
set_option linter.unusedVariables false

theorem sc_nil {env : Env} {g : Vw} : Sc env g [] := fun x e h => by cases h
theorem sc_cons {env : Env} {g : Vw} {e : VarE} {G : List VarE} (h : ∃ v, Acc env g e.n v ∧ e.T.rel g v e.d) (hs : Sc env g G) : Sc env g (e :: G) := by
  intro x e' he
  by_cases hx : e.n = x
  · rw [lk_cons_eq hx] at he
    cases he; subst hx; exact h
  · rw [lk_cons_ne hx] at he
    exact hs x e' he
theorem sc_cell {env cenv : Env} {g g' : Vw} {G : List VarE} {x : Str} {α : Type} {T : Ty α} {d : α} {c : Addr} (sc : Sc env g G) (va : VA g g') (hm : lk G x = some ⟨x, α, T, d⟩)
    (hk : env.kindOf x = some .cell ∨ env.kindOf x = some .free) (hc : env.cells.lookup x = some c) (hk' : cenv.kindOf x = some .cell ∨ cenv.kindOf x = some .free) (hc' : cenv.cells.lookup x = some c) : ∃ v, Acc cenv g' x v ∧ T.rel g' v d := by
  obtain ⟨v, ha, hr⟩ := sc x _ hm
  refine ⟨v, ?_, T.mono va.vk hr⟩
  rcases ha with ⟨h1, _⟩ | ⟨_, c', h2, h3⟩
  · rcases hk with h | h <;> rw [h] at h1 <;> cases h1
  · have h2' : env.cells.lookup x = some c' := h2
    rw [hc] at h2'; cases h2'
    exact .inr ⟨hk', c, hc', h3.va va⟩

section
variable {M : Model} {A : Around} {ow X : List Addr} {hrs : List Heap} {s0 s : Shared} {env : Env} {α : Type} {T : Ty α} {d : α} {G : List VarE}
theorem st_retT {rest rest' : List Stmt} {e : Expr} {pos : Pos} (st : St env ow X G hrs s0 s) (ev : Ev M A X (eval e env) T d s) : wpAny M A (execs (.Return (some e) pos :: rest) env) (Thn M A rest' env (RQ s0 X T d)) NoE s :=
  st_ret' ev fun v s1 k1 r => ⟨v, rfl, kp_trans st.kp k1, r⟩
end

def subst (a b : Str) : Int := if a.cps.toList == b.cps.toList then 0 else if (Txt.lower a).cps.toList == (Txt.lower b).cps.toList then 1 else 2

theorem fn_subst (w : World) (a b : Str) (ha : a.length ≤ 1000) (hb : b.length ≤ 1000) : Fn w 78 1 [⟨Str, tStr, a⟩, ⟨Str, tStr, b⟩] ⟨Int, tInt, subst a b⟩ := by
  refine fn_intro (n := 0) [Str.ofString "ch_a", Str.ofString "ch_b"] rfl rfl rfl rfl rfl (len2 fun _ _ => rfl) (by decide +kernel) (by decide +kernel) (by decide +kernel) rfl rfl rfl rfl ?_
  intro A X s0 s1 hA B st
  unfold subst
  refine st_if (bv_cmp (ev_name st.sc) (ev_name st.sc) fun _ _ s2 _ r1 r2 => cmp_eqs s2 r1 r2) (fun e s2 k2 => ?_) fun e s2 k2 => ?_
  · dsimp only
    rw [if_pos e]
    exact st_retT (st.up k2) (ev_int 0)
  dsimp only
  rw [if_neg (by rw [e]; exact Bool.false_ne_true)]
  refine st_nil ?_
  show wpAny (model PR w) A (execs _ _) _ NoE s2
  have st2 := st.up k2
  refine st_if (bv_cmp (ev_lower ha (ev_name st2.sc)) (ev_lower hb (ev_name st2.sc)) fun _ _ s2 _ r1 r2 => cmp_eqs s2 r1 r2) (fun e s3 k3 => ?_) fun e s3 k3 => ?_
  · rw [if_pos e]
    exact st_retT (st2.up k3) (ev_gint (i := 1) (B.up (kp_hk (st2.up k3).kp)))
  rw [if_neg (by rw [e]; exact Bool.false_ne_true)]
  refine st_nil ?_
  show wpAny (model PR w) A (execs _ _) _ NoE s3
  exact st_ret (st2.up k3) (ev_gint (i := 2) (B.up (kp_hk (st2.up k3).kp)))
end Mine

/-! part D1 -/
namespace Mine
open PySem PySem.W PySem.Calls PyProof.Rows
set_option maxRecDepth 100000
set_option linter.unusedVariables false

def chF (b : Array UInt8) : Str := ⟨#[((b.toList.getD (0:Int).toNat 0).toNat : Int).toNat]⟩
def flagsOf (fls : List (Array UInt8)) : List Str := (fls.filter fun _ => true).map chF
def ab (i : Int) : Str := ⟨#[97 + i.toNat]⟩
def pricesOf (flags : List Str) (i : Int) : List Int := (flags.filter fun _ => true).map fun f => subst (ab i) f
def stepH (prices : List Int) (i : Int) (h : List Int) (side : Int) : List Int := if prices.any (· == side) then h.set side.toNat (h.getD side.toNat 0 + 1 * 2 ^ i.toNat) else h
def innerH (prices : List Int) (i : Int) (h : List Int) (j : Nat) : List Int := ((rng 2).take j).foldl (stepH prices i) h
def outerH (flags : List Str) (k : Nat) : List Int := ((rng 4).take k).foldl (fun h i => innerH (pricesOf flags i) i h 2) [0, 0]

theorem fold_take {α β : Type} (f : β → α → β) (b : β) (l : List α) (j : Nat) (y : α) (h : l[j]? = some y) : (l.take (j + 1)).foldl f b = f ((l.take j).foldl f b) y := by
  rw [List.take_add_one, h]
  simp
theorem stepH_len (p : List Int) (i : Int) (h : List Int) (d : Int) : (stepH p i h d).length = h.length := by
  unfold stepH; split <;> simp
theorem innerH_len (p : List Int) (i : Int) (h : List Int) (j : Nat) : (innerH p i h j).length = h.length := by
  unfold innerH
  generalize (rng 2).take j = l
  induction l generalizing h with
  | nil => rfl
  | cons a l ih => rw [List.foldl_cons, ih, stepH_len]
theorem outerH_len (f : List Str) (k : Nat) : (outerH f k).length = 2 := by
  unfold outerH
  generalize (rng 4).take k = l
  have : ∀ h : List Int, (l.foldl (fun h i => innerH (pricesOf f i) i h 2) h).length = h.length := by
    induction l with
    | nil => intro _; rfl
    | cons a l ih => intro h; rw [List.foldl_cons, ih, innerH_len]
  exact this _

theorem flagsOf_one {fls : List (Array UInt8)} {f : Str} (h : f ∈ flagsOf fls) : f.length = 1 := by
  unfold flagsOf at h
  obtain ⟨b, _, rfl⟩ := List.mem_map.mp h
  rfl
theorem flagsOf_len (fls : List (Array UInt8)) : (flagsOf fls).length = fls.length := by simp [flagsOf]
theorem abcd_at : ∀ i : Nat, i < 4 → (Str.ofString "abcd").cps[(i : Int).toNat]? = some (97 + (i : Int).toNat) := by decide +kernel

theorem fn_read (w : World) {rep : Array UInt8} {fls : List (Array UInt8)} (hp : Fn w 43 1 [⟨_, tBytes, rep⟩] ⟨_, tTup tBytes, fls⟩) (hf : ∀ b ∈ fls, 0 < b.size ∧ b.size ≤ 1000) (hn : fls.length ≤ 100) :
    Fn w 93 2 [⟨_, tBytes, rep⟩] ⟨_, tList tInt, outerH (flagsOf fls) 4⟩ := by
  refine fn_introC (n := 1) [Str.ofString "reply"] rfl rfl rfl rfl rfl (len1 fun _ => rfl) (by decide +kernel) (by decide +kernel) (by decide +kernel) rfl rfl rfl rfl ?_
  intro A X s0 s1 hA B st
  have B1 := B.up (kp_hk st.kp)
  refine st_assign_comp st (T := tBytes) (U := tStr) (p := fun _ => true) (f := chF) (Gf := []) (Gy := fun y => [⟨"flag", _, tBytes, y⟩]) (xs := fls) (cl := []) ?_ (fun s2 st2 sp2 => ?_) rfl
  · exact {
      itb := itb_tup hA.1 (ev_call hp B1 st.xb hA (eva_cons (ev_name st.sc) eva_nil))
      xb := st.xb
      len := hn
      clc := fun _ _ h => by cases h
      cd := .nil
      sc := fun _ _ _ _ => sc_nil
      hG := fun _ _ _ h => by cases h
      asg := fun C D y v s0 s hrs Q hy st hr k => asg_name st hr k
      tst := fun C D y s0 s1 hrs hy hk st => tst_nil
      elt := fun C D y s0 s1 hrs hy _ hk st => ev_chr (B1.up hk) (ev_bidx (ev_name st.sc) (ev_int 0) (by decide) (by have := (hf y hy).1; omega) (hf y hy).2) (by omega) (by
        have := UInt8.toNat_lt (y.toList.getD (0:Int).toNat 0); omega) }
  have B2 := B.up (kp_hk st2.kp)
  refine st_newlist (T := tInt) (xs := [0, 0]) st2 (eva_cons (ev_int 0) (eva_cons (ev_int 0) eva_nil)) fun D s3 h0 hDX st3 ll3 vk3 => ?_
  have B3 := B.up (kp_hk st3.kp)
  refine st_for (T := tInt) (xs := rng 4) (fun _ => _) (fun k h => LLi tInt (D :: X) D (outerH (flagsOf fls) k) h) hA.1 st3 ll3.i (fun k s s' h sp => h.stp (s := s) List.mem_cons_self sp)
    (itb_range hA.1 B3 (n := 4) (by decide) (ev_int 4)) (fun i y v href s4 hy st4 ex4 vk4 r4 => ?_) fun s4 st4 ex4 vk4 => ?_
  · refine asg_cell st4 r4 (.tail _ (.head _)) fun s5 st5 sp5 => ?_
    obtain ⟨hi4, rfl⟩ := rng_get hy
    have B5 := B.up (kp_hk st5.kp)
    refine st_assign_comp st5 (T := tStr) (U := tInt) (xs := flagsOf fls) (p := fun _ => true) (f := fun f => subst (ab i) f) (Gf := [⟨"i", Int, tInt, i⟩]) (Gy := fun f => [⟨"flag", _, tStr, f⟩, ⟨"i", Int, tInt, i⟩]) (cl := [(Str.ofString "i", s0.heap.objs.size + 1)]) ?_ (fun s6 st6 sp6 => ?_) rfl
    · exact {
        itb := itb_list hA.1 (ev_name st5.sc)
        xb := st5.xb
        len := by rw [flagsOf_len]; exact hn
        clc := fun n c h => st5.ce n c h
        cd := List.pairwise_singleton _ _
        sc := fun C D' h va => sc_cons (sc_cell st5.sc va rfl (.inl rfl) rfl (.inl rfl) rfl) sc_nil
        hG := fun f => lk_mono (e0 := ⟨"flag", _, tStr, f⟩) rfl
        asg := fun C D y v s0 s hrs Q hy st hr k => asg_name st hr k
        tst := fun C D y s0 s1 hrs hy hk st => tst_nil
        elt := fun C D y s0 s1 hrs hy _ hk st => ev_call (fn_subst w (ab i) y (by show 1 ≤ 1000; decide) (by rw [flagsOf_one hy]; decide)) (B5.up hk) st.xb hA
          (eva_cons (ev_sidx (ev_str (Str.ofString "abcd")) (ev_name st.sc) (by omega) (by omega) (abcd_at i hi4)) (eva_cons (ev_name st.sc) eva_nil)) }
    have B6 := B.up (kp_hk st6.kp)
    have ex6 : LLi tInt (D :: X) D (outerH (flagsOf fls) i) s6.heap := LLi.stp (LLi.stp (s := s4) ex4 List.mem_cons_self sp5) List.mem_cons_self sp6
    refine st_for (T := tInt) (xs := rng 2) (fun _ => _) (fun k h => LLi tInt (D :: X) D (innerH (pricesOf (flagsOf fls) i) i (outerH (flagsOf fls) i) k) h) hA.1 st6 ex6 (fun k s s' h sp => h.stp (s := s) List.mem_cons_self sp)
      (itb_range hA.1 B6 (n := 2) (by decide) (ev_int 2)) (fun j z v' href' s7 hz st7 ex7 vk7 r7 => ?_) fun s7 st7 ex7 vk7 => ?_
    · refine asg_name st7 r7 fun s8 st8 sp8 => ?_
      obtain ⟨hj2, rfl⟩ := rng_get hz
      have B8 := B.up (kp_hk st8.kp)
      have ex8 : LLi tInt (D :: X) D (innerH (pricesOf (flagsOf fls) i) i (outerH (flagsOf fls) i) j) s8.heap := LLi.stp (s := s7) ex7 List.mem_cons_self sp8
      have hstep : innerH (pricesOf (flagsOf fls) i) i (outerH (flagsOf fls) i) (j + 1) = stepH (pricesOf (flagsOf fls) i) i (innerH (pricesOf (flagsOf fls) i) i (outerH (flagsOf fls) i) j) j := fold_take _ _ _ _ _ hz
      have hlen := innerH_len (pricesOf (flagsOf fls) i) i (outerH (flagsOf fls) i) j
      rw [outerH_len] at hlen
      refine st_if (bv_val (ev_call (fn_contains w (pricesOf (flagsOf fls) i) (j : Int)) B8 st8.xb hA (eva_cons (ev_name st8.sc) (eva_cons (ev_name st8.sc) eva_nil))) fun v s9 k9 r9 => tr_bool s9 r9) (fun e s9 k9 => ?_) fun e s9 k9 => ?_
      · have st9 := st8.up k9
        have ex9 := LLi.stp (s := s8) ex8 List.mem_cons_self (stp_kp k9)
        refine st_setadd (j := (j : Int)) (d := 1 * 2 ^ (i : Int).toNat) st9 List.mem_cons_self h0 ex9 (by omega) (by rw [hlen]; omega) (by omega) (x0 := (innerH (pricesOf (flagsOf fls) i) i (outerH (flagsOf fls) i) j).getD (j : Int).toNat 0) ?_ (ev_name st9.sc) (ev_name st9.sc) (ev_lsh (b := (i : Int)) (by omega) (by omega) (by decide) (ev_int 1) (ev_name st9.sc)) fun s10 st10 ll10 vk10 => ?_
        · rw [List.getD_eq_getElem?_getD, List.getElem?_eq_getElem (by rw [hlen]; omega)]; rfl
        · refine st_nil (st_nil ⟨st10.sub ?_, ?_, ?_⟩)
          · exact lk_mono rfl
          · show LLi _ _ _ (innerH _ _ _ (j + 1)) _
            rw [hstep]; unfold stepH
            rw [if_pos e]; exact ll10
          · exact sp8.2.trans ((stp_kp k9).2.trans vk10)
      · have st9 := st8.up k9
        refine st_nil (st_nil ⟨st9.sub ?_, ?_, ?_⟩)
        · exact lk_mono rfl
        · show LLi _ _ _ (innerH _ _ _ (j + 1)) _
          have e' : ((pricesOf (flagsOf fls) i).any fun x => x == (j : Int)) = false := e
          rw [hstep]; unfold stepH
          rw [if_neg (by rw [e']; exact Bool.false_ne_true)]; exact LLi.stp (s := s8) ex8 List.mem_cons_self (stp_kp k9)
        · exact sp8.2.trans (stp_kp k9).2
    · refine st_nil ⟨st7.sub ?_, ?_, ?_⟩
      · exact fun x e h => lk_mono rfl x e (lk_mono rfl x e h)
      · show LLi _ _ _ (outerH _ (i + 1)) _
        have : outerH (flagsOf fls) (i + 1) = innerH (pricesOf (flagsOf fls) i) i (outerH (flagsOf fls) i) 2 := fold_take _ _ _ _ _ hy
        rw [this]
        exact ex7
      · exact sp5.2.trans (sp6.2.trans vk7)
  · have st5 := st4.show
    have ll : LLi tInt (D :: X) D (outerH (flagsOf fls) 4) s4.heap := ex4
    refine st_ret st5 (fun s6 k6 => ?_)
    have e := (ev_name (M := model PR w) (A := A) (X := X) (x := "held") (pos := ⟨56, 11, 56, 15⟩) st5.sc) s6 k6
    refine wpAny_mono e (fun v s7 q => ⟨q.1, ?_⟩) fun _ _ q => q
    cases (show v = .ref D from q.2)
    exact (LLi.stp (s := s4) ll List.mem_cons_self (stp_kp (kp_trans k6 q.1))).show hDX
end Mine

/-! part D2 -/
namespace Mine
open PySem PySem.W PySem.Calls PyProof.Rows
set_option maxRecDepth 100000
set_option linter.unusedVariables false

def bit (r i : Int) : Bool := Builtin.bitAnd (r.fdiv (2 ^ i.toNat)) 1 != 0
def lettersOf (k r : Int) : List Str := ((rng 4).filter (bit r)).map fun i => ⟨#[(k + i).toNat]⟩
def namesOf (r c : Int) : List Str := lettersOf 97 r ++ lettersOf 65 c
def repStr (r c : Int) : Str := (Str.ofString "* PERMANENTFLAGS (d D) FLAGS (" ++ Txt.join (Str.ofString " ") (namesOf r c)) ++ Str.ofString ") UID (D)"
def noStr : Str := Str.ofString "* NO (a A)"

theorem rng_mem {n : Nat} {y : Int} (h : y ∈ rng n) : 0 ≤ y ∧ y < n := by
  obtain ⟨i, hi, he⟩ := List.mem_iff_getElem.mp h
  obtain ⟨h1, rfl⟩ := rng_get (i := i) (x := y) (by rw [List.getElem?_eq_getElem hi, he])
  omega
theorem letters_len (k r : Int) : (lettersOf k r).length ≤ 4 := by
  unfold lettersOf
  rw [List.length_map]
  exact Nat.le_trans (List.length_filter_le _ _) (by rw [rng_len]; exact Nat.le_refl _)
theorem letters_one {k r : Int} {x : Str} (h : x ∈ lettersOf k r) : x.length = 1 := by
  obtain ⟨i, _, rfl⟩ := List.mem_map.mp h
  rfl
theorem names_sum (r c : Int) : ((namesOf r c).map (·.length)).sum + (namesOf r c).length * (Str.ofString " ").length ≤ 10000 := by
  have h1 : ∀ l : List Str, (∀ x ∈ l, x.length = 1) → (l.map (·.length)).sum = l.length := by
    intro l
    induction l with
    | nil => intro _; rfl
    | cons a l ih => intro h; rw [List.map_cons, List.sum_cons, List.length_cons, ih fun x hx => h x (List.mem_cons_of_mem _ hx), h a List.mem_cons_self]; omega
  have h2 : (namesOf r c).length ≤ 8 := by
    unfold namesOf
    have := letters_len 97 r
    have := letters_len 65 c
    rw [List.length_append]; omega
  rw [h1 _ fun x hx => by rcases List.mem_append.mp hx with h | h <;> exact letters_one h]
  show _ + _ * 1 ≤ 10000
  omega

theorem fn_reply (w : World) {r c : Int} (h1 : 2 ≤ (repStr r c).length) (h2 : (repStr r c).length ≤ 1000) (h3 : ∀ x ∈ (repStr r c).cps.toList, x < 128) (h4 : (Str.ofString "* PERMANENTFLAGS (d D) FLAGS (" ++ Txt.join (Str.ofString " ") (namesOf r c)).length ≤ 1000) (h5 : (Txt.join (Str.ofString " ") (namesOf r c)).length ≤ 1000) :
    Fn w 88 1 [⟨_, tInt, r⟩, ⟨_, tInt, c⟩] ⟨_, tBytes, if r == 0 then toB noStr else toB (repStr r c)⟩ := by
  refine fn_introC (n := 0) [Str.ofString "rows", Str.ofString "columns"] rfl rfl rfl rfl rfl (len2 fun _ _ => rfl) (by decide +kernel) (by decide +kernel) (by decide +kernel) rfl rfl rfl rfl ?_
  intro A X s0 s1 hA B st
  dsimp only
  refine st_if (bv_cmp (ev_name st.sc) (ev_int 0) fun _ _ s2 _ r1 r2 => cmp_eq s2 r1 r2) (fun e s2 k2 => ?_) fun e s2 k2 => ?_
  · rw [if_pos e]
    exact st_retT (st.up k2) (ev_encode (by decide +kernel) (by decide +kernel) (by decide +kernel) (ev_str noStr))
  rw [if_neg (by rw [e]; exact Bool.false_ne_true)]
  refine st_nil ?_
  show wpAny (model PR w) A (execs _ _) _ NoE s2
  have st2 := st.up k2
  have B2 := B.up (kp_hk st2.kp)
  refine st_assign st2 (ev_ladd (T := tStr) (xs := lettersOf 97 r) (ys := lettersOf 65 c) st2.xb (by have := letters_len 97 r; have := letters_len 65 c; omega) ?_ ?_) fun s3 st3 sp3 => ?_
  · refine ev_comp (T := tInt) (U := tStr) (xs := rng 4) (p := bit r) (f := fun i => ⟨#[(97 + i).toNat]⟩) (cl := [(Str.ofString "rows", s0.heap.objs.size + 1)]) (Gf := [⟨"rows", Int, tInt, r⟩]) (Gy := fun i => [⟨"i", _, tInt, i⟩, ⟨"rows", Int, tInt, r⟩]) (fun s5 k5 => ?_) rfl
    have st5 := st2.up k5
    exact {
      itb := itb_range hA.1 (B2.up (kp_hk k5)) (by decide) (ev_int 4)
      xb := st5.xb
      len := by rw [rng_len]; decide
      clc := fun n c h => st5.ce n c (by rcases List.mem_singleton.mp h with h; rw [h]; exact .tail _ (.head _))
      cd := List.pairwise_singleton _ _
      sc := fun C D' h va => sc_cons (sc_cell st5.sc va rfl (.inl rfl) rfl (.inl rfl) rfl) sc_nil
      hG := fun i => lk_mono (e0 := ⟨"i", _, tInt, i⟩) rfl
      asg := fun C D y v s0 s hrs Q hy st hr k => asg_name st hr k
      tst := fun C D y s0 s1 hrs hy hk st => tst_one (bv_val (ev_and (ev_rsh (rng_mem hy).1 (ev_name st.sc) (ev_name st.sc)) (ev_int 1)) fun v s2 _ r => tr_int s2 r)
      elt := fun C D y s0 s1 hrs hy _ hk st => ev_chr ((B2.up (kp_hk k5)).up hk) (ev_add (ev_int 97) (ev_name st.sc)) (by have := rng_mem hy; omega) (by have := rng_mem hy; omega) }
  · refine ev_comp (T := tInt) (U := tStr) (xs := rng 4) (p := bit c) (f := fun i => ⟨#[(65 + i).toNat]⟩) (cl := [(Str.ofString "columns", s0.heap.objs.size + 2)]) (Gf := [⟨"columns", Int, tInt, c⟩]) (Gy := fun i => [⟨"j", _, tInt, i⟩, ⟨"columns", Int, tInt, c⟩]) (fun s5 k5 => ?_) rfl
    have st5 := st2.up k5
    exact {
      itb := itb_range hA.1 (B2.up (kp_hk k5)) (by decide) (ev_int 4)
      xb := st5.xb
      len := by rw [rng_len]; decide
      clc := fun n c h => st5.ce n c (by rcases List.mem_singleton.mp h with h; rw [h]; exact .head _)
      cd := List.pairwise_singleton _ _
      sc := fun C D' h va => sc_cons (sc_cell st5.sc va rfl (.inl rfl) rfl (.inl rfl) rfl) sc_nil
      hG := fun i => lk_mono (e0 := ⟨"j", _, tInt, i⟩) rfl
      asg := fun C D y v s0 s hrs Q hy st hr k => asg_name st hr k
      tst := fun C D y s0 s1 hrs hy hk st => tst_one (bv_val (ev_and (ev_rsh (rng_mem hy).1 (ev_name st.sc) (ev_name st.sc)) (ev_int 1)) fun v s2 _ r => tr_int s2 r)
      elt := fun C D y s0 s1 hrs hy _ hk st => ev_chr ((B2.up (kp_hk k5)).up hk) (ev_add (ev_int 65) (ev_name st.sc)) (by have := rng_mem hy; omega) (by have := rng_mem hy; omega) }
  · have hl1 : (Str.ofString "* PERMANENTFLAGS (d D) FLAGS (").length ≤ 100 := by decide +kernel
    have hl2 : (Str.ofString ") UID (D)").length ≤ 100 := by decide +kernel
    refine st_ret st3 (ev_encode h1 h2 h3 (ev_sadd (by omega) (ev_sadd (by omega) (ev_str _) (ev_join (names_sum r c) (ev_str (Str.ofString " ")) (ev_name st3.sc))) (ev_str _)))
end Mine

/-! part D3 -/
namespace Mine
open PySem PySem.W PySem.Calls PyProof.Rows
set_option maxRecDepth 100000
set_option linter.unusedVariables false

def substA (a b : Str) : Int := if a.cps.toList == b.cps.toList then 0 else if (a.cps.map lo1).toList == (b.cps.map lo1).toList then 1 else 2
def pricesA (flags : List Str) (i : Int) : List Int := flags.map fun f => substA (ab i) f
def outerA (flags : List Str) (l : List Int) (h : List Int) : List Int := l.foldl (fun h i => innerH (pricesA flags i) i h 2) h
theorem subst_eq {a b : Str} (ha : ∀ c ∈ a.cps.toList, c < 128) (hb : ∀ c ∈ b.cps.toList, c < 128) : subst a b = substA a b := by
  unfold subst substA
  rw [lower_ascii ha, lower_ascii hb]
theorem prices_eq {flags : List Str} (hf : ∀ f ∈ flags, ∀ c ∈ f.cps.toList, c < 128) {i : Int} (h0 : 0 ≤ i) (h4 : i < 4) : pricesOf flags i = pricesA flags i := by
  unfold pricesOf pricesA
  rw [List.filter_eq_self.mpr (fun _ _ => rfl)]
  refine List.map_congr_left fun f hm => subst_eq ?_ (hf f hm)
  intro c hc
  have hc' : c = 97 + i.toNat := by simpa [ab] using hc
  omega
theorem outer_eq {flags : List Str} (hf : ∀ f ∈ flags, ∀ c ∈ f.cps.toList, c < 128) : outerH flags 4 = outerA flags (rng 4) [0, 0] := by
  unfold outerH outerA
  have e : (rng 4).take 4 = rng 4 := rfl
  rw [e]
  have : ∀ (l : List Int), (∀ i ∈ l, pricesOf flags i = pricesA flags i) → ∀ h : List Int, l.foldl (fun h i => innerH (pricesOf flags i) i h 2) h = l.foldl (fun h i => innerH (pricesA flags i) i h 2) h := by
    intro l
    induction l with
    | nil => intro _ _; rfl
    | cons a l ih =>
      intro hl h
      rw [List.foldl_cons, List.foldl_cons, hl a List.mem_cons_self]
      exact ih (fun i hi => hl i (List.mem_cons_of_mem _ hi)) _
  exact this _ (fun i hi => prices_eq hf (rng_mem hi).1 (rng_mem hi).2) _

def flA (b : List UInt8) : Str := ⟨#[(b.getD 0 0).toNat]⟩
def joinL : List Nat → List Nat
  | [] => []
  | [a] => [a]
  | a :: b :: l => a :: 32 :: joinL (b :: l)
def lets (k r : Int) : List Nat := ((rng 4).filter (bit r)).map fun i => (k + i).toNat
def okJ (r c : Int) : Bool :=
  let J := joinL (lets 97 r ++ lets 65 c)
  J.all (fun y => decide (y < 128) && decide (y ≠ 10) && decide (y ≠ 41) && decide (y ≠ 70)) && decide (J.length ≤ 100) && (J.map Nat.toUInt8).any Builtin.Bytes.isSpace &&
  (let ws := Builtin.Bytes.words (J.length + 1) (J.length + 1) (J.map Nat.toUInt8)
   ws.all (fun l => decide (0 < l.length) && decide (l.length ≤ 1000) && decide ((l.getD 0 0).toNat < 128)) && decide (ws.length ≤ 100) && outerA (ws.map flA) (rng 4) [0, 0] == [r, c])
theorem join_one : ∀ ns : List Nat, (Str.join (Str.ofString " ") (ns.map fun n => ⟨#[n]⟩)).cps.toList = joinL ns
  | [] => rfl
  | [a] => rfl
  | a :: b :: l => by
    have h := join_one (b :: l)
    show ((⟨#[a]⟩ : Str) ++ Str.ofString " " ++ Str.join (Str.ofString " ") ((b :: l).map fun n => ⟨#[n]⟩)).cps.toList = a :: 32 :: joinL (b :: l)
    rw [← h]
    show (#[a] ++ (Str.ofString " ").cps ++ _).toList = _
    rw [Array.toList_append, Array.toList_append]
    rfl
theorem names_eq (r c : Int) : namesOf r c = (lets 97 r ++ lets 65 c).map fun n => ⟨#[n]⟩ := by
  unfold namesOf lettersOf lets
  rw [List.map_append, List.map_map, List.map_map]
  rfl
theorem txt_join (r c : Int) : (Txt.join (Str.ofString " ") (namesOf r c)).cps.toList = joinL (lets 97 r ++ lets 65 c) := by
  show (Builtin.Str.glued _ _).cps.toList = _
  rw [StrLaws.glued_eq_join, names_eq, join_one]

def pL : List Nat := [42, 32, 80, 69, 82, 77, 65, 78, 69, 78, 84, 70, 76, 65, 71, 83, 32, 40, 100, 32, 68, 41, 32, 70, 76, 65, 71, 83, 32, 40]
theorem pL_eq : (Str.ofString "* PERMANENTFLAGS (d D) FLAGS (").cps.toList = pL := by decide +kernel
theorem len_p : pL.length = 30 := by decide

def sL : List Nat := [41, 32, 85, 73, 68, 32, 40, 68, 41]
theorem sL_eq : (Str.ofString ") UID (D)").cps.toList = sL := by decide +kernel
theorem rep_list (r c : Int) : (repStr r c).cps.toList = pL ++ joinL (lets 97 r ++ lets 65 c) ++ sL := by
  unfold repStr
  show (((Str.ofString "* PERMANENTFLAGS (d D) FLAGS (").cps ++ (Txt.join (Str.ofString " ") (namesOf r c)).cps) ++ (Str.ofString ") UID (D)").cps).toList = _
  rw [Array.toList_append, Array.toList_append, pL_eq, sL_eq, txt_join]
def bB (J : List Nat) : Array UInt8 := ((pL ++ J ++ sL).map Nat.toUInt8).toArray
theorem toB_rep (r c : Int) : toB (repStr r c) = bB (joinL (lets 97 r ++ lets 65 c)) := by
  unfold toB bB
  rw [rep_list]

theorem getD_mem {l : List Nat} {i : Nat} (h : i < l.length) : l.getD i 0 ∈ l := by
  rw [List.getD_eq_getElem?_getD, List.getElem?_eq_getElem h]
  exact List.getElem_mem h

theorem mT_st0 (t : Array Nat) (h8 : 8 ≤ t.size) (hn : t.size ≤ 1000) : Sre.forMatch reCode t 1 (min (0:Int).toNat t.size) (min (2 ^ 63 - 1 : Int).toNat t.size) false false = st0 t := by
  rw [show min (0:Int).toNat t.size = 0 from Nat.zero_min _, show min (2 ^ 63 - 1 : Int).toNat t.size = t.size from Nat.min_eq_right (by show t.size ≤ 9223372036854775807; omega)]
  unfold Sre.forMatch
  show (if ((8 : Nat) != 0 && decide (0 ≤ t.size) && decide (t.size - 0 < 8)) = true then _ else _) = _
  rw [if_neg (by simp; omega)]
  rfl

theorem parse_gen (w : World) {J : List Nat} (hJ : ∀ y ∈ J, y < 128 ∧ y ≠ 10 ∧ y ≠ 41 ∧ y ≠ 70) (hlen : J.length ≤ 100) {ws : List (List UInt8)}
    (hws : Builtin.Bytes.words (J.length + 1) (J.length + 1) (J.map Nat.toUInt8) = ws) (hsp : (J.map Nat.toUInt8).any Builtin.Bytes.isSpace = true) (hwl : ∀ l ∈ ws, l.length ≤ 1000) (hn : ws.length ≤ 100) :
    Fn w 43 1 [⟨_, tBytes, bB J⟩] ⟨_, tTup tBytes, ws.map List.toArray⟩ := by
  have hp : ∀ y ∈ pL, y < 128 ∧ y ≠ 10 := by decide
  have hs : ∀ y ∈ sL, y < 128 ∧ y ≠ 10 ∧ y ≠ 70 := by decide
  have hall : ∀ y ∈ pL ++ J ++ sL, y < 128 ∧ y ≠ 10 := by
    intro y hy
    rcases List.mem_append.mp hy with hy | hy
    · rcases List.mem_append.mp hy with hy | hy
      · exact hp y hy
      · exact ⟨(hJ y hy).1, (hJ y hy).2.1⟩
    · exact ⟨(hs y hy).1, (hs y hy).2.1⟩
  have hll : (pL ++ J ++ sL).length = 39 + J.length := by
    rw [List.length_append, List.length_append]
    show 30 + J.length + 9 = _
    omega
  have hb : (bB J).map (·.toNat) = (pL ++ J ++ sL).toArray := by
    unfold bB
    rw [List.map_toArray, List.map_map]
    congr 1
    conv => rhs; rw [← List.map_id (pL ++ J ++ sL)]
    refine List.map_congr_left fun y hy => ?_
    have := (hall y hy).1
    show (Nat.toUInt8 y).toNat = y
    rw [Nat.toUInt8_eq, UInt8.toNat_ofNat']
    omega
  have hmt : mTgt (bB J) = st0 (pL ++ J ++ sL).toArray := by
    unfold mTgt
    rw [hb]
    exact mT_st0 _ (by rw [List.size_toArray, hll]; omega) (by rw [List.size_toArray, hll]; omega)
  have hg : ∀ i, (pL ++ J ++ sL).toArray.getD i 0 = (pL ++ J ++ sL).getD i 0 := by
    intro i
    simp [Array.getD_eq_getD_getElem?, List.getD_eq_getElem?_getD]
  have hpre : ∀ i, i < 30 → (pL ++ J ++ sL).getD i 0 = pL.getD i 0 := by
    intro i hi
    rw [List.append_assoc, List.getD_eq_getElem?_getD, List.getD_eq_getElem?_getD, List.getElem?_append_left (by exact hi)]
  have hmid : ∀ i, 30 ≤ i → (pL ++ J ++ sL).getD i 0 = (J ++ sL).getD (i - 30) 0 := by
    intro i hi
    rw [List.append_assoc, List.getD_eq_getElem?_getD, List.getD_eq_getElem?_getD, List.getElem?_append_right (by exact hi)]
    rfl
  obtain ⟨m', hd', ho, hl, h1, h2⟩ := whole (pL ++ J ++ sL).toArray (30 + J.length) (by rw [List.size_toArray, hll]; omega)
    (fun i hi => by rw [hg]; rw [List.size_toArray] at hi; exact (hall _ (getD_mem hi)).2)
    (fun i h23 hi => by
      rw [hg]
      rw [List.size_toArray, hll] at hi
      by_cases h30 : i < 30
      · rw [hpre i h30]
        have : ∀ i, 23 < i → i < 30 → pL.getD i 0 ≠ 70 := by
          intro i a b
          have : i = 24 ∨ i = 25 ∨ i = 26 ∨ i = 27 ∨ i = 28 ∨ i = 29 := by omega
          rcases this with rfl | rfl | rfl | rfl | rfl | rfl <;> decide
        exact this i h23 h30
      · rw [hmid i (by omega)]
        have hm := getD_mem (l := J ++ sL) (i := i - 30) (by rw [List.length_append]; show i - 30 < J.length + 9; omega)
        rcases List.mem_append.mp hm with hm | hm
        · exact (hJ _ hm).2.2.2
        · exact (hs _ hm).2.2)
    (by rw [hg, hpre _ (by decide)]; rfl) (by rw [hg, hpre _ (by decide)]; rfl) (by rw [hg, hpre _ (by decide)]; rfl) (by rw [hg, hpre _ (by decide)]; rfl) (by rw [hg, hpre _ (by decide)]; rfl) (by rw [hg, hpre _ (by decide)]; rfl) (by rw [hg, hpre _ (by decide)]; rfl)
    (by omega) (by rw [List.size_toArray, hll]; omega)
    (fun i h30 hi => by
      rw [hg, hmid i h30, List.getD_eq_getElem?_getD, List.getElem?_append_left (by omega), ← List.getD_eq_getElem?_getD]
      exact (hJ _ (getD_mem (by omega))).2.2.1)
    (by
      rw [hg, hmid _ (by omega), show 30 + J.length - 30 = J.length by omega, List.getD_eq_getElem?_getD, List.getElem?_append_right (Nat.le_refl _), Nat.sub_self]
      rfl)
  refine fn_parse w 1000 (Nat.le_refl _) (hmt ▸ hd') ho hl h1 h2 (by omega) (by show ((pL ++ J ++ sL).map Nat.toUInt8).length ≤ 1000; rw [List.length_map, hll]; omega) (c := (J.map Nat.toUInt8).toArray) ?_ ?_ ?_ hwl hn
  · rw [hb, List.extract_toArray, List.append_assoc]
    have e1 : (pL ++ (J ++ sL)).extract 30 (30 + J.length) = J := by
      rw [List.extract_eq_drop_take, show 30 + J.length - 30 = J.length by omega]
      rw [show (pL ++ (J ++ sL)).drop 30 = J ++ sL from List.drop_left' rfl]
      exact List.take_left' rfl
    rw [e1, List.map_toArray]
  · rw [List.size_toArray, List.length_map]; exact hws
  · simpa using hsp
end Mine

/-! part D4 -/
namespace Mine
open PySem PySem.W PySem.Calls PyProof.Rows
set_option maxRecDepth 100000
set_option linter.unusedVariables false

def tNone : Ty Unit := ⟨fun _ v _ => v = .none, fun _ h => h⟩
theorem fn_parse_none (w : World) {b : Array UInt8} (k : Nat) (hk : k ≤ 1000) {m' : Sre.M} (hd' : drv k (mTgt b) = some m') (ho : m'.outcome = some .failed) :
    Fn w 43 1 [⟨_, tBytes, b⟩] ⟨_, tTup tBytes, []⟩ := by
  refine fn_intro (n := 0) [Str.ofString "resp"] rfl rfl rfl rfl rfl (len1 fun _ => rfl) (by decide +kernel) (by decide +kernel) (by decide +kernel) rfl rfl rfl rfl ?_
  intro A X s0 s1 hA B st
  have B1 := B.up (kp_hk st.kp)
  refine st_assign (T := tNone) (d := ()) st (fun s2 k2 => ?_) fun s2 st2 sp2 => ?_
  · refine Call_method1 rfl rfl rfl (((ev_gref (D := 36) (X := X) B1).up k2).wp fun v s3 k3 r3 => ?_)
    cases (show v = .ref 36 from r3)
    have K3 := (B1.up (kp_hk (kp_trans k2 k3))).K
    refine ⟨_, _, plainRe, slot_match, type_match, ⟨_, K3 36 _ rfl, rfl⟩, fun a e => by cases e; exact ⟨_, K3 36 _ rfl, rfl⟩, Calls.callWith_builtin rfl (Calls.evalArgs_plain (Calls.spliced_cons (((ev_name (X := X) st.sc).up (kp_trans k2 k3)).wp fun u s4 k4 r4 => Calls.spliced_nil ?_)))⟩
    obtain ⟨t, rfl⟩ := r4
    refine match_none k hk hd' ho (B1.up (kp_hk (kp_trans k2 (kp_trans k3 k4)))).K ?_
    exact ⟨kp_trans k3 k4, rfl⟩
  refine st_if (b := true) (bv_not (b := false) (bv_val (ev_name st2.sc) fun v s3 k3 r3 => ?_)) (fun _ s3 k3 => ?_) fun e => by cases e
  · cases (show v = .none from r3)
    unfold truthy
    exact wpAny_pure ⟨rfl, kp_refl _⟩
  · refine st_retT (st2.up k3) (fun s4 k4 => ?_)
    refine Tuple_ (wpAny_mono ((eva_nil (M := model PR w) (A := A) (X := X)) ⟨7, 15, 7, 17⟩ s4 (kp_refl _)) (fun vs s5 p => ?_) fun _ _ p => p)
    obtain ⟨p1, p2⟩ := p
    match vs, p2 with
    | [], _ =>
      refine wpAny_newObj_type ?_ (by show 0 ≤ sizeLine; exact Nat.zero_le _)
      exact ⟨kp_trans p1 (kp_push _ _), _, [], rfl, push_lst "tuple" ((st2.up k3).xb.up (HK.trans (kp_hk k4) (kp_hk p1))) [], .nil⟩

theorem no_run : ∃ m', drv 100 (mTgt (toB noStr)) = some m' ∧ m'.outcome = some .failed := by
  have h : (match drv 100 (mTgt (toB noStr)) with | some m => (match m.outcome with | some .failed => true | _ => false) | none => false) = true := by decide +kernel
  split at h
  · rename_i m hm
    refine ⟨m, hm, ?_⟩
    split at h
    · assumption
    · cases h
  · cases h

theorem okJ_a : ((List.range 15).all fun c => okJ (((0 : Nat) : Int) + 1) ((c : Int) + 1)) = true := by decide +kernel
theorem okJ_b : ((List.range 15).all fun c => okJ (((1 : Nat) : Int) + 1) ((c : Int) + 1)) = true := by decide +kernel
theorem okJ_c : ((List.range 15).all fun c => okJ (((2 : Nat) : Int) + 1) ((c : Int) + 1)) = true := by decide +kernel
theorem okJ_d : ((List.range 15).all fun c => okJ (((3 : Nat) : Int) + 1) ((c : Int) + 1)) = true := by decide +kernel
theorem okJ_e : ((List.range 15).all fun c => okJ (((4 : Nat) : Int) + 1) ((c : Int) + 1)) = true := by decide +kernel
theorem okJ_f : ((List.range 15).all fun c => okJ (((5 : Nat) : Int) + 1) ((c : Int) + 1)) = true := by decide +kernel
theorem okJ_g : ((List.range 15).all fun c => okJ (((6 : Nat) : Int) + 1) ((c : Int) + 1)) = true := by decide +kernel
theorem okJ_h : ((List.range 15).all fun c => okJ (((7 : Nat) : Int) + 1) ((c : Int) + 1)) = true := by decide +kernel
theorem okJ_i : ((List.range 15).all fun c => okJ (((8 : Nat) : Int) + 1) ((c : Int) + 1)) = true := by decide +kernel
theorem okJ_j : ((List.range 15).all fun c => okJ (((9 : Nat) : Int) + 1) ((c : Int) + 1)) = true := by decide +kernel
theorem okJ_k : ((List.range 15).all fun c => okJ (((10 : Nat) : Int) + 1) ((c : Int) + 1)) = true := by decide +kernel
theorem okJ_l : ((List.range 15).all fun c => okJ (((11 : Nat) : Int) + 1) ((c : Int) + 1)) = true := by decide +kernel
theorem okJ_m : ((List.range 15).all fun c => okJ (((12 : Nat) : Int) + 1) ((c : Int) + 1)) = true := by decide +kernel
theorem okJ_n : ((List.range 15).all fun c => okJ (((13 : Nat) : Int) + 1) ((c : Int) + 1)) = true := by decide +kernel
theorem okJ_o : ((List.range 15).all fun c => okJ (((14 : Nat) : Int) + 1) ((c : Int) + 1)) = true := by decide +kernel
theorem okJ_all : ∀ r : Fin 15, ∀ c : Fin 15, okJ ((r.val : Int) + 1) ((c.val : Int) + 1) = true := by
  have h : ∀ r : Nat, r < 15 → ((List.range 15).all fun c => okJ ((r : Int) + 1) ((c : Int) + 1)) = true := by
    intro r hr
    have : r = 0 ∨ r = 1 ∨ r = 2 ∨ r = 3 ∨ r = 4 ∨ r = 5 ∨ r = 6 ∨ r = 7 ∨ r = 8 ∨ r = 9 ∨ r = 10 ∨ r = 11 ∨ r = 12 ∨ r = 13 ∨ r = 14 := by omega
    rcases this with rfl | rfl | rfl | rfl | rfl | rfl | rfl | rfl | rfl | rfl | rfl | rfl | rfl | rfl | rfl
    · exact okJ_a
    · exact okJ_b
    · exact okJ_c
    · exact okJ_d
    · exact okJ_e
    · exact okJ_f
    · exact okJ_g
    · exact okJ_h
    · exact okJ_i
    · exact okJ_j
    · exact okJ_k
    · exact okJ_l
    · exact okJ_m
    · exact okJ_n
    · exact okJ_o
  intro r c
  exact List.all_eq_true.mp (h r.val r.isLt) c.val (List.mem_range.mpr c.isLt)

theorem reply_ok (w : World) {r c : Int} (hJ : ∀ y ∈ joinL (lets 97 r ++ lets 65 c), y < 128) (h2 : (joinL (lets 97 r ++ lets 65 c)).length ≤ 100) :
    Fn w 88 1 [⟨_, tInt, r⟩, ⟨_, tInt, c⟩] ⟨_, tBytes, if r == 0 then toB noStr else toB (repStr r c)⟩ := by
  have hrl : (repStr r c).length = 39 + (joinL (lets 97 r ++ lets 65 c)).length := by
    show (repStr r c).cps.size = _
    rw [← Array.length_toList, rep_list, List.length_append, List.length_append]
    show 30 + _ + 9 = _
    omega
  have hjl : (Txt.join (Str.ofString " ") (namesOf r c)).length = (joinL (lets 97 r ++ lets 65 c)).length := by
    show (Txt.join (Str.ofString " ") (namesOf r c)).cps.size = _
    rw [← Array.length_toList, txt_join]
  refine fn_reply w (r := r) (c := c) (by omega) (by omega) ?_ ?_ (by omega)
  · rw [rep_list]
    intro x hx
    rcases List.mem_append.mp hx with hx | hx
    · rcases List.mem_append.mp hx with hx | hx
      · exact (show ∀ y ∈ pL, y < 128 by decide) x hx
      · exact hJ x hx
    · exact (show ∀ y ∈ sL, y < 128 by decide) x hx
  · show ((Str.ofString "* PERMANENTFLAGS (d D) FLAGS (").cps ++ (Txt.join (Str.ofString " ") (namesOf r c)).cps).size ≤ 1000
    rw [Array.size_append]
    have e1 : (Str.ofString "* PERMANENTFLAGS (d D) FLAGS (").cps.size = 30 := by rw [← Array.length_toList, pL_eq]; rfl
    have e2 : (Txt.join (Str.ofString " ") (namesOf r c)).cps.size = _ := hjl
    omega
theorem okJ_none : ∀ c : Fin 15, ((joinL (lets 97 0 ++ lets 65 ((c.val : Int) + 1))).all (fun y => decide (y < 128)) && decide ((joinL (lets 97 0 ++ lets 65 ((c.val : Int) + 1))).length ≤ 100)) = true := by
  have h : (List.range 15).all (fun c => (joinL (lets 97 0 ++ lets 65 ((c : Int) + 1))).all (fun y => decide (y < 128)) && decide ((joinL (lets 97 0 ++ lets 65 ((c : Int) + 1))).length ≤ 100)) = true := by decide +kernel
  intro c
  exact List.all_eq_true.mp h c.val (List.mem_range.mpr c.isLt)

theorem read_reply (w : World) {r c : Int} (hr0 : 0 ≤ r) (hr : r ≤ 15) (hc0 : 1 ≤ c) (hc : c ≤ 15) :
    ∃ rep : Array UInt8, Fn w 88 1 [⟨_, tInt, r⟩, ⟨_, tInt, c⟩] ⟨_, tBytes, rep⟩ ∧ Fn w 93 2 [⟨_, tBytes, rep⟩] ⟨_, tList tInt, if r = 0 then [0, 0] else [r, c]⟩ := by
  by_cases h0 : r = 0
  · subst h0
    obtain ⟨c', rfl⟩ : ∃ c' : Fin 15, c = (c'.val : Int) + 1 := ⟨⟨(c - 1).toNat, by omega⟩, by show c = ((c - 1).toNat : Int) + 1; omega⟩
    have hok := okJ_none c'
    simp only [Bool.and_eq_true, decide_eq_true_eq] at hok
    obtain ⟨m', hd', ho⟩ := no_run
    refine ⟨toB noStr, reply_ok w (fun y hy => by simpa using List.all_eq_true.mp hok.1 y hy) hok.2, ?_⟩
    have := fn_read w (fn_parse_none w 100 (by decide) hd' ho) (fun b hb => by cases hb) (by decide)
    exact this
  · obtain ⟨r', rfl⟩ : ∃ r' : Fin 15, r = (r'.val : Int) + 1 := ⟨⟨(r - 1).toNat, by omega⟩, by show r = ((r - 1).toNat : Int) + 1; omega⟩
    obtain ⟨c', rfl⟩ : ∃ c' : Fin 15, c = (c'.val : Int) + 1 := ⟨⟨(c - 1).toNat, by omega⟩, by show c = ((c - 1).toNat : Int) + 1; omega⟩
    have hok := okJ_all r' c'
    generalize hrr : (r'.val : Int) + 1 = r at *
    generalize hcc : (c'.val : Int) + 1 = c at *
    unfold okJ at hok
    simp only [Bool.and_eq_true, decide_eq_true_eq, beq_iff_eq] at hok
    obtain ⟨⟨⟨h1, h2⟩, h3⟩, ⟨h4, h5⟩, h6⟩ := hok
    have hJ : ∀ y ∈ joinL (lets 97 r ++ lets 65 c), y < 128 ∧ y ≠ 10 ∧ y ≠ 41 ∧ y ≠ 70 := by
      intro y hy
      have := List.all_eq_true.mp h1 y hy
      simp only [Bool.and_eq_true, decide_eq_true_eq] at this
      exact ⟨this.1.1.1, this.1.1.2, this.1.2, this.2⟩
    have hw : ∀ l ∈ Builtin.Bytes.words ((joinL (lets 97 r ++ lets 65 c)).length + 1) ((joinL (lets 97 r ++ lets 65 c)).length + 1) ((joinL (lets 97 r ++ lets 65 c)).map Nat.toUInt8), 0 < l.length ∧ l.length ≤ 1000 ∧ (l.getD 0 0).toNat < 128 := by
      intro l hl
      have := List.all_eq_true.mp h4 l hl
      simp only [Bool.and_eq_true, decide_eq_true_eq] at this
      exact ⟨this.1.1, this.1.2, this.2⟩
    refine ⟨toB (repStr r c), ?_, ?_⟩
    · have := reply_ok w (r := r) (c := c) (fun y hy => (hJ y hy).1) h2
      have e : (r == 0) = false := by simpa using h0
      rw [if_neg (by rw [e]; exact Bool.false_ne_true)] at this
      exact this
    · rw [toB_rep]
      have hp := parse_gen w hJ h2 rfl h3 (fun l hl => (hw l hl).2.1) h5
      have := fn_read w hp (fun b hb => by
        obtain ⟨l, hl, rfl⟩ := List.mem_map.mp hb
        exact ⟨(hw l hl).1, (hw l hl).2.1⟩) (by rw [List.length_map]; exact h5)
      have e : outerH (flagsOf ((Builtin.Bytes.words ((joinL (lets 97 r ++ lets 65 c)).length + 1) ((joinL (lets 97 r ++ lets 65 c)).length + 1) ((joinL (lets 97 r ++ lets 65 c)).map Nat.toUInt8)).map List.toArray)) 4 = if r = 0 then [0, 0] else [r, c] := by
        rw [if_neg h0, ← h6]
        have ef : flagsOf ((Builtin.Bytes.words ((joinL (lets 97 r ++ lets 65 c)).length + 1) ((joinL (lets 97 r ++ lets 65 c)).length + 1) ((joinL (lets 97 r ++ lets 65 c)).map Nat.toUInt8)).map List.toArray) = (Builtin.Bytes.words ((joinL (lets 97 r ++ lets 65 c)).length + 1) ((joinL (lets 97 r ++ lets 65 c)).length + 1) ((joinL (lets 97 r ++ lets 65 c)).map Nat.toUInt8)).map flA := by
          unfold flagsOf
          rw [List.filter_eq_self.mpr (fun _ _ => rfl), List.map_map]
          rfl
        rw [ef]
        refine outer_eq fun f hf x hx => ?_
        obtain ⟨l, hl, rfl⟩ := List.mem_map.mp hf
        have hx' : x = (l.getD 0 0).toNat := by simpa [flA] using hx
        rw [hx']; exact (hw l hl).2.2
      rw [e] at this
      exact this
end Mine

/-! part D5 -/
namespace Mine
open PySem PySem.W PySem.Calls PyProof.Rows
set_option maxRecDepth 100000
set_option linter.unusedVariables false

theorem lk_swap {e1 e2 : VarE} {G : List VarE} (h : e1.n ≠ e2.n) : ∀ x e, lk (e1 :: e2 :: G) x = some e → lk (e2 :: e1 :: G) x = some e := by
  intro x e he
  by_cases h1 : e1.n = x
  · rw [lk_cons_eq h1] at he
    rw [lk_cons_ne (fun h2 => h (h1.trans h2.symm)), lk_cons_eq h1]; exact he
  · rw [lk_cons_ne h1] at he
    by_cases h2 : e2.n = x
    · rw [lk_cons_eq h2] at he ⊢; exact he
    · rw [lk_cons_ne h2] at he
      rw [lk_cons_ne h2, lk_cons_ne h1]; exact he
theorem lk_under {e1 : VarE} {G G' : List VarE} (h : ∀ x e, e1.n ≠ x → lk G x = some e → lk G' x = some e) : ∀ x e, lk (e1 :: G) x = some e → lk (e1 :: G') x = some e := by
  intro x e he
  by_cases h1 : e1.n = x
  · rw [lk_cons_eq h1] at he ⊢; exact he
  · rw [lk_cons_ne h1] at he ⊢
    exact h x e h1 he
theorem lk_off {e1 : VarE} {G : List VarE} {x : Str} {e : VarE} (h1 : e1.n ≠ x) (h : lk G x = some e) : lk (e1 :: G) x = some e := by
  rw [lk_cons_ne h1]; exact h

def constsL : List Int := [30, 47, 78, 5, 116]
def modsOf (l : List Int) : List Int := (l.filter fun _ => true).map fun x => x.fmod 1000
def nAt (ns : List Int) (k : Nat) : Int := constsL.getD k 0 + (modsOf (pickNums ns (some (k : Int)) (some 10) (some 5))).sum
def row0 (ns : List Int) (k : Nat) : Int := (nAt ns k).fmod 15 + 1
def colA (ns : List Int) (k : Nat) : Int := ((nAt ns k).fdiv 15).fmod 15 + 1
def maskB (c rows : Int) (b : Int × Int) : Int := if Builtin.bitAnd b.2 c != 0 then Builtin.bitAnd rows (-b.1 - 1) else rows
def blocksA (ns : List Int) : Nat → List (Int × Int)
  | 0 => []
  | k + 1 => blocksA ns k ++ [((blocksA ns k).foldl (maskB (colA ns k)) (row0 ns k), colA ns k)]
theorem blocksA_len (ns : List Int) : ∀ k, (blocksA ns k).length = k
  | 0 => rfl
  | k + 1 => by
    show (blocksA ns k ++ [_]).length = k + 1
    rw [List.length_append, blocksA_len ns k]; rfl
theorem mods_small {l : List Int} (h : l.length ≤ 100) : Small (modsOf l) := by
  refine ⟨by unfold modsOf; rw [List.length_map]; exact Nat.le_trans (List.length_filter_le _ _) h, ?_⟩
  intro n hn
  obtain ⟨x, _, rfl⟩ := List.mem_map.mp hn
  have h1 := Int.fmod_nonneg_of_pos x (show (0 : Int) < 1000 by decide)
  have h2 := Int.fmod_lt_of_pos x (show (0 : Int) < 1000 by decide)
  constructor
  · exact h1
  · omega

theorem fn_blocks (w : World) {ns : List Int} (hn : ns.length ≤ 63) : Fn w 83 1 [⟨_, tList tInt, ns⟩] ⟨_, tList (tPair tInt tInt), blocksA ns 5⟩ := by
  refine fn_intro (n := 0) [Str.ofString "script"] rfl rfl rfl rfl rfl (len1 fun _ => rfl) (by decide +kernel) (by decide +kernel) (by decide +kernel) rfl rfl rfl rfl ?_
  intro A X s0 s1 hA B st
  have B1 := B.up (kp_hk st.kp)
  refine st_newlist (T := tPair tInt tInt) (xs := []) st eva_nil fun D s2 h0 hDX st2 ll2 vk2 => ?_
  have B2 := B.up (kp_hk st2.kp)
  refine st_for (T := tInt) (xs := rng 5) (fun _ => _) (fun k h => LL (tPair tInt tInt) (D :: X) D (blocksA ns k) h) hA.1 st2 ll2 (fun k s s' h sp => h.stp (s := s) List.mem_cons_self sp)
    (itb_range hA.1 B2 (n := 5) (by decide) (ev_int 5)) (fun k y v href s3 hy st3 ex3 vk3 r3 => ?_) fun s3 st3 ex3 vk3 => ?_
  · refine asg_name st3 r3 fun s4 st4 sp4 => ?_
    obtain ⟨hk5, rfl⟩ := rng_get hy
    have B4 := B.up (kp_hk st4.kp)
    have hpl := pick_len ns (some (k : Int)) (some 10) (some 5)
    refine st_assign (T := tInt) (d := nAt ns k) st4 (ev_add (ev_item (T := tInt) (xs := constsL) (ev_list st4.xb (eva_cons (ev_int 30) (eva_cons (ev_int 47) (eva_cons (ev_int 78) (eva_cons (ev_int 5) (eva_cons (ev_int 116) eva_nil)))))) (ev_name st4.sc) (by omega) (by omega) ?_) (ev_sum (ns := modsOf (pickNums ns (some (k : Int)) (some 10) (some 5))) hA.1 B4 (mods_small (by omega)) ?_)) fun s5 st5 sp5 => ?_
    · have : k = 0 ∨ k = 1 ∨ k = 2 ∨ k = 3 ∨ k = 4 := by omega
      rcases this with rfl | rfl | rfl | rfl | rfl <;> rfl
    · refine ev_comp (T := tInt) (U := tInt) (xs := pickNums ns (some (k : Int)) (some 10) (some 5)) (p := fun _ => true) (f := fun x => x.fmod 1000) (cl := []) (Gf := []) (Gy := fun i => [⟨"x", _, tInt, i⟩]) (fun s6 k6 => ?_) rfl
      have st6 := st4.up k6
      exact {
        itb := itb_list hA.1 (ev_slice3 st6.xb (by omega) (by decide) (ev_name st6.sc) (evp_some (ev_name st6.sc)) (evp_some (X := D :: X) (ev_int 10)) (evp_some (X := D :: X) (ev_int 5)))
        xb := st6.xb
        len := by omega
        clc := fun _ _ h => by cases h
        cd := .nil
        sc := fun _ _ _ _ => sc_nil
        hG := fun _ _ _ h => by cases h
        asg := fun C D y v s0 s hrs Q hy st hr k => asg_name st hr k
        tst := fun C D y s0 s1 hrs hy hk st => tst_nil
        elt := fun C D y s0 s1 hrs hy _ hk st => ev_mod (by decide) (ev_name st.sc) (ev_int 1000) }
    refine st_assign (T := tInt) (d := row0 ns k) st5 (ev_add (ev_mod (by decide) (ev_name st5.sc) (ev_int 15)) (ev_int 1)) fun s6 st6 sp6 => ?_
    refine st_assign (T := tInt) (d := colA ns k) st6 (ev_add (ev_mod (by decide) (ev_fdiv (by decide) (PyProof.noPylong_of_log2 (by decide)) (ev_name st6.sc) (ev_int 15)) (ev_int 15)) (ev_int 1)) fun s7 st7 sp7 => ?_
    have ll7 : LL (tPair tInt tInt) (D :: X) D (blocksA ns k) s7.heap := LL.stp (s := s3) ex3 List.mem_cons_self (sp4.trans (sp5.trans (sp6.trans sp7)))
    have bl := blocksA_len ns k
    refine st_forD (T := tPair tInt tInt) (xs := blocksA ns k) (D := D) (fun j => ⟨"rows", Int, tInt, ((blocksA ns k).take j).foldl (maskB (colA ns k)) (row0 ns k)⟩ :: ⟨"columns", Int, tInt, colA ns k⟩ :: _) hA.1 List.mem_cons_self (st7.sub (lk_swap (show Str.ofString "rows" ≠ Str.ofString "columns" by decide))) ll7.i (ev_name st7.sc) (fun j z v' href' s8 hz st8 sp8 r8 => ?_) fun s8 st8 sp8 => ?_
    · refine asg_name st8 r8 fun s9 st9 sp9 => ?_
      have hstep := fold_take (maskB (colA ns k)) (row0 ns k) (blocksA ns k) j z hz
      refine st_if (bv_val (ev_and (ev_snd (t := 0) (T := tInt) (U := tInt) (ev_name st9.sc) (ev_int 1)) (ev_name st9.sc)) fun v s2 _ r => tr_int s2 r) (fun e s10 k10 => ?_) fun e s10 k10 => ?_
      · have st10 := st9.up k10
        refine st_aug st10 (ev_load st10.sc) (ev_inv (ev_fst (t := 0) (T := tInt) (U := tInt) (ev_name st10.sc) (ev_int 0))) (fun _ _ s2 _ r1 r2 => iop_and r1 r2) fun s11 st11 sp11 => ?_
        refine st_nil (st_nil ⟨st11.sub ?_, sp9.trans ((stp_kp k10).trans sp11)⟩)
        rw [hstep]
        unfold maskB
        rw [if_pos e]
        refine lk_under fun x e' hx h => lk_mono rfl x e' ?_
        exact lk_off (show Str.ofString "rows" ≠ x from hx) h
      · refine st_nil (st_nil ⟨(st9.up k10).sub ?_, sp9.trans (stp_kp k10)⟩)
        have e' : (Builtin.bitAnd z.2 (colA ns k) != 0) = false := e
        rw [hstep]
        unfold maskB
        rw [if_neg (by rw [e']; exact Bool.false_ne_true)]
        exact lk_mono rfl
    · have ll8 : LL (tPair tInt tInt) (D :: X) D (blocksA ns k) s8.heap := LL.stp (s := s7) ll7 List.mem_cons_self sp8
      refine st_append (T := tPair tInt tInt) (y := (_, _)) (xs := blocksA ns k) st8 List.mem_cons_self h0 ll8 (by omega) (ev_name st8.sc) (ev_pair st8.xb (ev_name st8.sc) (ev_name st8.sc)) fun s9 st9 ll9 vk9 => ?_
      rw [List.take_of_length_le (by omega : (blocksA ns k).length ≤ (blocksA ns k).length)] at ll9
      refine st_nil ⟨st9.sub ?_, ll9, ?_⟩
      · exact fun x e h => lk_mono rfl x e (lk_mono rfl x e (lk_mono rfl x e (lk_mono rfl x e h)))
      · exact sp4.2.trans (sp5.2.trans (sp6.2.trans (sp7.2.trans (sp8.2.trans vk9))))
  · have ll : LL (tPair tInt tInt) (D :: X) D (blocksA ns 5) s3.heap := ex3
    have st5 := st3.show
    refine st_ret st5 (fun s6 k6 => ?_)
    have e := (ev_name (M := model PR w) (A := A) (X := X) (x := "blocks") (pos := ⟨42, 11, 42, 17⟩) st5.sc) s6 k6
    refine wpAny_mono e (fun v s7 q => ⟨q.1, ?_⟩) fun _ _ q => q
    cases (show v = .ref D from q.2)
    exact (LLi.stp (s := s3) ll.i List.mem_cons_self (stp_kp (kp_trans k6 q.1))).show hDX
end Mine

/-! part D6 -/
namespace Mine
open PySem PySem.W PySem.Calls PyProof.Rows
set_option maxRecDepth 100000
set_option linter.unusedVariables false

def hAt (held : List (List Int)) (r side : Int) : Int := (held.getD r.toNat []).getD side.toNat 0
def mAt (meets : List (List (List Int))) (side r s : Int) : Int := ((meets.getD side.toNat []).getD r.toNat []).getD s.toNat 0
def metOf (meets : List (List (List Int))) (side : Int) (standing : List Int) (r : Int) : List Int := (standing.filter fun s => mAt meets side r s != 0).map fun s => s
def offStep (side place : Int) (standing : List Int) (held : List (List Int)) (meets : List (List (List Int))) (acc : List (List Int)) (r : Int) : List (List Int) :=
  if bit (hAt held r side) place then (if 254 + 2 * ((metOf meets side standing r).length : Int) - (standing.length : Int) < 256 then acc ++ [metOf meets side standing r] else acc) else acc
def offersA (side place : Int) (standing : List Int) (held : List (List Int)) (meets : List (List (List Int))) : List (List Int) := standing.foldl (offStep side place standing held meets) []

theorem getD_some {α : Type} {l : List α} {k : Nat} (d : α) (h : k < l.length) : l[k]? = some (l.getD k d) := by
  rw [List.getD_eq_getElem?_getD, List.getElem?_eq_getElem h]; rfl
theorem offStep_len (side place : Int) (standing : List Int) (held : List (List Int)) (meets : List (List (List Int))) (acc : List (List Int)) (r : Int) : (offStep side place standing held meets acc r).length ≤ acc.length + 1 := by
  unfold offStep
  split
  · split
    · simp
    · omega
  · omega
theorem offFold_len (side place : Int) (standing : List Int) (held : List (List Int)) (meets : List (List (List Int))) (l : List Int) : ∀ acc : List (List Int), (l.foldl (offStep side place standing held meets) acc).length ≤ acc.length + l.length := by
  induction l with
  | nil => intro acc; exact Nat.le_refl _
  | cons a l ih =>
    intro acc
    rw [List.foldl_cons]
    have h1 := ih (offStep side place standing held meets acc a)
    have h2 := offStep_len side place standing held meets acc a
    rw [List.length_cons]
    omega

/-- the tables' shape: m blocks -/
structure Shp (m : Nat) (held : List (List Int)) (meets : List (List (List Int))) : Prop where
  m5 : m ≤ 5
  hl : held.length = m
  h2 : ∀ x ∈ held, x.length = 2
  ml : meets.length = 2
  m1 : ∀ x ∈ meets, x.length = m
  m2 : ∀ x ∈ meets, ∀ y ∈ x, y.length = m
theorem mem_getD {α : Type} {l : List α} {k : Nat} (d : α) (h : k < l.length) : l.getD k d ∈ l := List.mem_of_getElem? (getD_some d h)

theorem fn_offers (w : World) {m : Nat} {side place : Int} {standing : List Int} {held : List (List Int)} {meets : List (List (List Int))} (sh : Shp m held meets) (hs0 : 0 ≤ side) (hs1 : side < 2) (hp0 : 0 ≤ place) (hst : ∀ r ∈ standing, 0 ≤ r ∧ r < m) (hsl : standing.length ≤ 5) :
    Fn w 98 2 [⟨_, tInt, side⟩, ⟨_, tInt, place⟩, ⟨_, tList tInt, standing⟩, ⟨_, tList (tList tInt), held⟩, ⟨_, tList (tList (tList tInt)), meets⟩] ⟨_, tList (tList tInt), offersA side place standing held meets⟩ := by
  have hm5 := sh.m5
  have hx1 : ∀ r : Int, 0 ≤ r → r < m → r.toNat < held.length := fun r a b => by rw [sh.hl]; omega
  have hx2 : ∀ r : Int, 0 ≤ r → r < m → side.toNat < (held.getD r.toNat []).length := fun r a b => by rw [sh.h2 _ (mem_getD _ (hx1 r a b))]; omega
  have hy1 : side.toNat < meets.length := by rw [sh.ml]; omega
  have hy2 : ∀ r : Int, 0 ≤ r → r < m → r.toNat < (meets.getD side.toNat []).length := fun r a b => by rw [sh.m1 _ (mem_getD _ hy1)]; omega
  have hy3 : ∀ r s : Int, 0 ≤ r → r < m → 0 ≤ s → s < m → s.toNat < ((meets.getD side.toNat []).getD r.toNat []).length := fun r s a b c d => by
    rw [sh.m2 _ (mem_getD _ hy1) _ (mem_getD _ (hy2 r a b))]; omega
  refine fn_introC (n := 1) [Str.ofString "side", Str.ofString "place", Str.ofString "standing", Str.ofString "held", Str.ofString "meets"] rfl rfl rfl rfl rfl (len5 fun _ _ _ _ _ => rfl) (by decide +kernel) (by decide +kernel) (by decide +kernel) rfl rfl rfl rfl ?_
  intro A X s0 s1 hA B st
  refine st_newlist (T := tList tInt) (xs := []) st eva_nil fun D s2 h0 hDX st2 ll2 vk2 => ?_
  refine st_for (T := tInt) (xs := standing) (fun _ => _) (fun k h => LL (tList tInt) (D :: X) D ((standing.take k).foldl (offStep side place standing held meets) []) h) hA.1 st2 ll2 (fun k s s' h sp => h.stp (s := s) List.mem_cons_self sp)
    (itb_list hA.1 (ev_name st2.sc)) (fun k r v href s3 hr st3 ex3 vk3 r3 => ?_) fun s3 st3 ex3 vk3 => ?_
  · refine asg_cell st3 r3 (.tail _ (.head _)) fun s4 st4 sp4 => ?_
    have B4 := B.up (kp_hk st4.kp)
    obtain ⟨hr0, hrm⟩ := hst r (List.mem_of_getElem? hr)
    have hstep := fold_take (offStep side place standing held meets) [] standing k r hr
    have ll4 : LL (tList tInt) (D :: X) D ((standing.take k).foldl (offStep side place standing held meets) []) s4.heap := LL.stp (s := s3) ex3 List.mem_cons_self sp4
    refine st_if (bv_val (ev_and (ev_call (fn_irshift w (hAt held r side) place hp0) B4 st4.xb hA (eva_cons (ev_item (T := tInt) (xs := held.getD r.toNat []) (ev_item (T := tList tInt) (xs := held) (ev_name st4.sc) (ev_name st4.sc) hr0 (by omega) (getD_some _ (hx1 r hr0 hrm))) (ev_name st4.sc) hs0 (by omega) (getD_some _ (hx2 r hr0 hrm))) (eva_cons (ev_name st4.sc) eva_nil))) (ev_int 1)) fun v s2 _ r => tr_int s2 r) (fun e s5 k5 => ?_) fun e s5 k5 => ?_
    · have st5 := st4.up k5
      have B5 := B.up (kp_hk st5.kp)
      refine st_assign_comp st5 (T := tInt) (U := tInt) (xs := standing) (p := fun s => mAt meets side r s != 0) (f := fun s => s) (Gf := [⟨"meets", _, tList (tList (tList tInt)), meets⟩, ⟨"r", Int, tInt, r⟩, ⟨"side", Int, tInt, side⟩]) (Gy := fun s => [⟨"s", _, tInt, s⟩, ⟨"meets", _, tList (tList (tList tInt)), meets⟩, ⟨"r", Int, tInt, r⟩, ⟨"side", Int, tInt, side⟩])
        (cl := [(Str.ofString "side", s0.heap.objs.size + 1), (Str.ofString "r", s0.heap.objs.size + 3), (Str.ofString "meets", s0.heap.objs.size + 2)]) ?_ (fun s6 st6 sp6 => ?_) rfl
      · exact {
          itb := itb_list hA.1 (ev_name st5.sc)
          xb := st5.xb
          len := by omega
          clc := fun n c h => st5.ce n c (by
            rcases List.mem_cons.mp h with h | h
            · rw [h]; exact .tail _ (.tail _ (.head _))
            · rcases List.mem_cons.mp h with h | h
              · rw [h]; exact .head _
              · rw [List.mem_singleton.mp h]; exact .tail _ (.head _))
          cd := by
            refine .cons ?_ (.cons ?_ (.cons ?_ .nil))
            · intro y hy
              rcases List.mem_cons.mp hy with h | h
              · rw [h]; show s0.heap.objs.size + 1 ≠ s0.heap.objs.size + 3; omega
              · rw [List.mem_singleton.mp h]; show s0.heap.objs.size + 1 ≠ s0.heap.objs.size + 2; omega
            · intro y hy
              rw [List.mem_singleton.mp hy]; show s0.heap.objs.size + 3 ≠ s0.heap.objs.size + 2; omega
            · intro y hy; cases hy
          sc := fun C D' h va => sc_cons (sc_cell st5.sc va rfl (.inl rfl) rfl (.inl rfl) rfl) (sc_cons (sc_cell st5.sc va rfl (.inl rfl) rfl (.inl rfl) rfl) (sc_cons (sc_cell st5.sc va rfl (.inl rfl) rfl (.inl rfl) rfl) sc_nil))
          hG := fun f => lk_mono (e0 := ⟨"s", _, tInt, f⟩) rfl
          asg := fun C D y v s0 s hrs Q hy st hr k => asg_name st hr k
          tst := fun C D y s0 s1 hrs hy hk st => tst_one (bv_val (ev_item (T := tInt) (xs := (meets.getD side.toNat []).getD r.toNat []) (ev_item (T := tList tInt) (xs := meets.getD side.toNat []) (ev_item (T := tList (tList tInt)) (xs := meets) (ev_name st.sc) (ev_name st.sc) hs0 (by omega) (getD_some _ hy1)) (ev_name st.sc) hr0 (by omega) (getD_some _ (hy2 r hr0 hrm))) (ev_name st.sc) (hst y hy).1 (by have := (hst y hy).2; omega) (getD_some _ (hy3 r y hr0 hrm (hst y hy).1 (hst y hy).2))) fun v s2 _ r => tr_int s2 r)
          elt := fun C D y s0 s1 hrs hy _ hk st => ev_name st.sc }
      have B6 := B.up (kp_hk st6.kp)
      have ml : (metOf meets side standing r).length ≤ 5 := by
        unfold metOf
        rw [List.length_map]
        exact Nat.le_trans (List.length_filter_le _ _) hsl
      have ll6 := (ll4.stp (s := s4) List.mem_cons_self (stp_kp k5)).stp (s := s5) List.mem_cons_self sp6
      refine st_if (bv_val (ev_call (fn_isterm w (254 + 2 * ((metOf meets side standing r).length : Int) - (standing.length : Int))) B6 st6.xb hA (eva_cons (ev_sub (ev_add (ev_int 254) (ev_mul ?_ (ev_int 2) (ev_len (T := tInt) (xs := metOf meets side standing r) B6 (by omega) (ev_name st6.sc)))) (ev_len (T := tInt) (xs := standing) B6 (by omega) (ev_name st6.sc))) eva_nil)) fun v s9 k9 r9 => tr_bool s9 r9) (fun e2 s7 k7 => ?_) fun e2 s7 k7 => ?_
      · exact .of_left (by decide)
      · have st7 := st6.up k7
        have hfl := offFold_len side place standing held meets (standing.take k) []
        have htk : (standing.take k).length ≤ standing.length := by rw [List.length_take]; omega
        refine st_append (T := tList tInt) (y := metOf meets side standing r) st7 List.mem_cons_self h0 (ll6.stp (s := s6) List.mem_cons_self (stp_kp k7)) (by show _ ≤ 100; rw [List.length_nil] at hfl; omega) (ev_name st7.sc) (ev_name st7.sc) fun s8 st8 ll8 vk8 => ?_
        refine st_nil (st_nil (st_nil ⟨st8.sub ?_, ?_, ?_⟩))
        · exact fun x e h => lk_mono rfl x e (lk_mono rfl x e h)
        · show LL _ _ _ _ _
          rw [hstep]; unfold offStep
          rw [if_pos (show bit (hAt held r side) place = true from e), if_pos (of_decide_eq_true e2)]
          exact ll8
        · exact sp4.2.trans ((stp_kp k5).2.trans (sp6.2.trans ((stp_kp k7).2.trans vk8)))
      · have st7 := st6.up k7
        refine st_nil (st_nil (st_nil ⟨st7.sub ?_, ?_, ?_⟩))
        · exact fun x e h => lk_mono rfl x e (lk_mono rfl x e h)
        · show LL _ _ _ _ _
          rw [hstep]; unfold offStep
          rw [if_pos (show bit (hAt held r side) place = true from e), if_neg (of_decide_eq_false e2)]
          exact ll6.stp (s := s6) List.mem_cons_self (stp_kp k7)
        · exact sp4.2.trans ((stp_kp k5).2.trans (sp6.2.trans (stp_kp k7).2))
    · have st5 := st4.up k5
      refine st_nil (st_nil ⟨st5.sub ?_, ?_, ?_⟩)
      · exact lk_mono rfl
      · show LL _ _ _ _ _
        rw [hstep]; unfold offStep
        rw [if_neg (by rw [show bit (hAt held r side) place = false from e]; exact Bool.false_ne_true)]
        exact ll4.stp (s := s4) List.mem_cons_self (stp_kp k5)
      · exact sp4.2.trans (stp_kp k5).2
  · have st5 := st3.show
    have ll : LL (tList tInt) (D :: X) D (offersA side place standing held meets) s3.heap := by
      have := ex3
      rw [List.take_length] at this
      exact this
    refine st_ret st5 (fun s6 k6 => ?_)
    have e := (ev_name (M := model PR w) (A := A) (X := X) (x := "offers") (pos := ⟨64, 11, 64, 17⟩) st5.sc) s6 k6
    refine wpAny_mono e (fun v s7 q => ⟨q.1, ?_⟩) fun _ _ q => q
    cases (show v = .ref D from q.2)
    exact (LLi.stp (s := s3) ll.i List.mem_cons_self (stp_kp (kp_trans k6 q.1))).show hDX
end Mine

/-! part D7 -/
namespace Mine
open PySem PySem.W PySem.Calls PyProof.Rows
set_option maxRecDepth 100000
set_option linter.unusedVariables false

section
variable {M : Model} {A : Around} {ow X : List Addr} {hrs : List Heap} {s0 s : Shared} {env : Env} {G : List VarE}
theorem lk_dup {e0 : VarE} {G : List VarE} : ∀ x e, lk (e0 :: e0 :: G) x = some e → lk (e0 :: G) x = some e := by
  intro x e h
  by_cases hx : e0.n = x
  · rw [lk_cons_eq hx] at h ⊢; exact h
  · rw [lk_cons_ne hx] at h; exact h
/-- both branches meet again -/
theorem st_ifm (e0 : VarE) {test : Expr} {body orelse rest : List Stmt} {pos : Pos} {b : Bool} {Q : Flow → Shared → Prop} (st : St env ow X G hrs s0 s) (hb : Bv M A (isTrue test env (eval test env)) b s)
    (ht : b = true → ∀ s1, St env ow X G hrs s0 s1 → VK (vw X s.heap) (vw X s1.heap) → wpAny M A (execs body env) (fun f s2 => f = .next ∧ St env ow X (e0 :: G) hrs s0 s2 ∧ VK (vw X s1.heap) (vw X s2.heap)) NoE s1)
    (hf : b = false → ∀ s1, St env ow X G hrs s0 s1 → VK (vw X s.heap) (vw X s1.heap) → wpAny M A (execs orelse env) (fun f s2 => f = .next ∧ St env ow X (e0 :: G) hrs s0 s2 ∧ VK (vw X s1.heap) (vw X s2.heap)) NoE s1)
    (k : ∀ s2, St env ow X (e0 :: G) hrs s0 s2 → VK (vw X s.heap) (vw X s2.heap) → wpAny M A (execs rest env) Q NoE s2) :
    wpAny M A (execs (.If test body orelse pos :: rest) env) Q NoE s := by
  refine st_if hb (fun e s1 k1 => ?_) (fun e s1 k1 => ?_)
  · refine wpAny_mono (ht e s1 (st.up k1) (vw_hk (kp_hk k1)).vk) (fun f s2 q => ?_) fun _ _ q => q
    obtain ⟨rfl, q1, q2⟩ := q
    exact k s2 q1 ((vw_hk (kp_hk k1)).vk.trans q2)
  · refine wpAny_mono (hf e s1 (st.up k1) (vw_hk (kp_hk k1)).vk) (fun f s2 q => ?_) fun _ _ q => q
    obtain ⟨rfl, q1, q2⟩ := q
    exact k s2 q1 ((vw_hk (kp_hk k1)).vk.trans q2)
end

def offs2 (x y : Int) (st : List Int) (held : List (List Int)) (meets : List (List (List Int))) : List (List Int) :=
  if (offersA 0 x st held meets).isEmpty then offersA 1 y st held meets else offersA 0 x st held meets
def bothA (x y : Int) (r : Int) (held : List (List Int)) : List Int := [Builtin.bitAnd ((hAt held r 0).fdiv (2 ^ x.toNat)) 1, Builtin.bitAnd ((hAt held r 1).fdiv (2 ^ y.toNat)) 1]
def talkA (x y : Int) (held : List (List Int)) (meets : List (List (List Int))) (wish : Int) : Nat → List Int → Nat → Option Bool
  | 0, _, _ => none
  | f + 1, st, nm =>
    if 1 < (st.length : Int) then
      if (held.length : Int) ≤ 2 ^ ((nm : Int)).toNat then none
      else if (offs2 x y st held meets).isEmpty then some false
      else talkA x y held meets wish f ((offs2 x y st held meets).getD (wish.fmod ((offs2 x y st held meets).length : Int)).toNat []) (nm + 1)
    else some (decide (bothA x y (st.getD 0 0) held = [1, 1]))

def Good (m : Nat) (st : List Int) : Prop := (∀ r ∈ st, 0 ≤ r ∧ r < m) ∧ st.length ≤ 5 ∧ st ≠ []

theorem offers_mem {side place : Int} {st : List Int} {held : List (List Int)} {meets : List (List (List Int))} {o : List Int} (h : o ∈ offersA side place st held meets) :
    ∃ r ∈ st, bit (hAt held r side) place = true ∧ o = metOf meets side st r ∧ 254 + 2 * ((metOf meets side st r).length : Int) - (st.length : Int) < 256 := by
  unfold offersA at h
  have : ∀ (l : List Int) (acc : List (List Int)), (∀ r ∈ l, r ∈ st) → o ∈ l.foldl (offStep side place st held meets) acc → o ∈ acc ∨ ∃ r ∈ st, bit (hAt held r side) place = true ∧ o = metOf meets side st r ∧ 254 + 2 * ((metOf meets side st r).length : Int) - (st.length : Int) < 256 := by
    intro l
    induction l with
    | nil => intro acc _ h; exact .inl h
    | cons a l ih =>
      intro acc hl h
      rw [List.foldl_cons] at h
      rcases ih _ (fun r hr => hl r (List.mem_cons_of_mem _ hr)) h with h | h
      · unfold offStep at h
        split at h
        · rename_i hb
          split at h
          · rename_i hc
            rcases List.mem_append.mp h with h | h
            · exact .inl h
            · exact .inr ⟨a, hl a List.mem_cons_self, hb, List.mem_singleton.mp h, hc⟩
          · exact .inl h
        · exact .inl h
      · exact .inr h
  rcases this st [] (fun r hr => hr) h with h | h
  · cases h
  · exact h
theorem met_good {m : Nat} {side : Int} {st : List Int} {meets : List (List (List Int))} {r : Int} (g : Good m st) (hr : r ∈ st) (hd : mAt meets side r r ≠ 0) : Good m (metOf meets side st r) := by
  unfold metOf
  rw [List.map_id']
  refine ⟨fun q hq => g.1 q (List.mem_filter.mp hq).1, Nat.le_trans (List.length_filter_le _ _) g.2.1, fun e => ?_⟩
  have : r ∈ st.filter fun s => mAt meets side r s != 0 := List.mem_filter.mpr ⟨hr, by simpa using hd⟩
  rw [e] at this; cases this

theorem fn_talk (w : World) {m : Nat} {x y wish : Int} {held : List (List Int)} {meets : List (List (List Int))} (sh : Shp m held meets) (hm1 : 1 ≤ m) (hx0 : 0 ≤ x) (hy0 : 0 ≤ y)
    (hd : ∀ side r : Int, 0 ≤ side → side < 2 → 0 ≤ r → r < m → mAt meets side r r ≠ 0) :
    Fn w 105 3 [⟨_, tInt, x⟩, ⟨_, tInt, y⟩, ⟨_, tList (tList tInt), held⟩, ⟨_, tList (tList (tList tInt)), meets⟩, ⟨_, tInt, wish⟩] ⟨_, tOB, talkA x y held meets wish 4 (rng m) 0⟩ := by
  have hm5 := sh.m5
  generalize hR0 : talkA x y held meets wish 4 (rng m) 0 = R
  refine fn_intro (n := 2) [Str.ofString "x", Str.ofString "y", Str.ofString "held", Str.ofString "meets", Str.ofString "wish"] rfl rfl rfl rfl rfl (len5 fun _ _ _ _ _ => rfl) (by decide +kernel) (by decide +kernel) (by decide +kernel) rfl rfl rfl rfl ?_
  intro A X s0 s1 hA B st
  have B1 := B.up (kp_hk st.kp)
  have hu : A.units < cLine := by have := hA.2.2; omega
  refine st_assign (T := tList tInt) (d := rng m) st (ev_lrange hA.1 B1 st.xb (by omega) ((ev_len (T := tList tInt) (xs := held) B1 (by rw [sh.hl]; omega) (ev_name st.sc)).map fun _ _ h => by rw [sh.hl] at h; exact h)) fun s2 st2 sp2 => ?_
  refine st_assign (T := tInt) (d := ((0 : Nat) : Int)) st2 (ev_int 0) fun s3 st3 sp3 => ?_
  refine st_while (σ := List Int × Nat) (fun c => ⟨"names", Int, tInt, (c.2 : Int)⟩ :: ⟨"standing", List Int, tList tInt, c.1⟩ :: _) (fun c => 4 - c.2) (fun c => c.2 ≤ 3 ∧ Good m c.1 ∧ talkA x y held meets wish (4 - c.2) c.1 c.2 = R) (fun c => decide (1 < (c.1.length : Int))) (rng m, 0)
    ⟨Nat.zero_le _, ⟨fun r hr => rng_mem hr, by show (rng m).length ≤ 5; rw [rng_len]; exact hm5, fun e => by have h := rng_len m; rw [show rng m = [] from e] at h; have : (0 : Nat) = m := h; omega⟩, hR0⟩ st3 (fun c s4 ok st4 vk4 => ?_) (fun c s4 ok hc st4 vk4 => ?_) (fun c s4 ok hc st4 vk4 => ?_)
  · obtain ⟨st', nm⟩ := c
    have B4 := B.up (kp_hk st4.kp)
    exact bv_cmp (ev_len (T := tInt) (xs := st') B4 (by have h : st'.length ≤ 5 := ok.2.1.2.1; omega) (ev_name st4.sc)) (ev_int 1) fun _ _ s2 _ r1 r2 => cmp_gt s2 r1 r2
  · obtain ⟨sta, nm⟩ := c
    obtain ⟨hnm, hg, hR⟩ := ok
    dsimp only at hnm hg hR hc
    have hc' : 1 < (sta.length : Int) := of_decide_eq_true hc
    have B4 := B.up (kp_hk st4.kp)
    have hfu : 4 - nm = (3 - nm) + 1 := by omega
    rw [hfu] at hR
    unfold talkA at hR
    rw [if_pos hc'] at hR
    refine st_if (bv_cmp (ev_pow (a := 2) (b := (nm : Int)) (by omega) (by omega) (by decide) (ev_int 2) (ev_name st4.sc)) (ev_len (T := tList tInt) (xs := held) B4 (by rw [sh.hl]; omega) (ev_name st4.sc)) fun _ _ s2 _ r1 r2 => cmp_ge' r1 r2) (fun e s5 k5 => ?_) fun e s5 k5 => ?_
    · refine st_ret' (T := tOB) (X := X) (d := none) ev_none fun v s6 k6 r6 => ?_
      rw [if_pos (of_decide_eq_true e)] at hR
      exact ⟨v, rfl, kp_trans (st4.up k5).kp k6, by rw [← hR]; exact r6⟩
    rw [if_neg (of_decide_eq_false e)] at hR
    refine st_nil ?_
    show wpAny (model PR w) A (execs _ _) _ NoE s5
    have st5 := st4.up k5
    have B5 := B.up (kp_hk st5.kp)
    refine st_assign (T := tList (tList tInt)) (d := offersA 0 x sta held meets) st5 (ev_call (fn_offers w (m := m) (side := 0) (place := x) (standing := sta) sh (by decide) (by decide) hx0 hg.1 hg.2.1) B5 st5.xb hA (eva_cons (ev_int 0) (eva_cons (ev_name st5.sc) (eva_cons (ev_name st5.sc) (eva_cons (ev_name st5.sc) (eva_cons (ev_name st5.sc) eva_nil)))))) fun s6 st6 sp6 => ?_
    have B6 := B.up (kp_hk st6.kp)
    have ol : ∀ side place : Int, (offersA side place sta held meets).length ≤ 5 := fun side place => by
      have := offFold_len side place sta held meets sta []
      unfold offersA
      have := hg.2.1
      rw [List.length_nil] at *
      omega
    have o2l : (offs2 x y sta held meets).length ≤ 5 := by unfold offs2; split <;> exact ol _ _
    refine st_ifm ⟨"offers", _, tList (tList tInt), offs2 x y sta held meets⟩ st6 (bv_cmp (ev_name st6.sc) (ev_list (T := tInt) (xs := []) st6.xb eva_nil) fun _ _ s2 _ r1 r2 => cmp_eqn hu r1 r2) (fun e7 s7 st7 vk7 => ?_) (fun e7 s7 st7 vk7 => ?_) fun s7 st7 vk7 => ?_
    · have B7 := B.up (kp_hk st7.kp)
      refine st_assign (T := tList (tList tInt)) (d := offersA 1 y sta held meets) st7 (ev_call (fn_offers w (m := m) (side := 1) (place := y) (standing := sta) sh (by decide) (by decide) hy0 hg.1 hg.2.1) B7 st7.xb hA (eva_cons (ev_int 1) (eva_cons (ev_name st7.sc) (eva_cons (ev_name st7.sc) (eva_cons (ev_name st7.sc) (eva_cons (ev_name st7.sc) eva_nil)))))) fun s8 st8 sp8 => ?_
      refine st_nil ⟨rfl, st8.sub ?_, sp8.2⟩
      unfold offs2
      rw [if_pos e7]
      exact fun _ _ h => h
    · refine st_nil ⟨rfl, st7.sub ?_, VK.rfl'⟩
      unfold offs2
      have e7' : (offersA 0 x sta held meets).isEmpty = false := e7
      rw [if_neg (by rw [e7']; exact Bool.false_ne_true)]
      exact lk_dup
    · have B7 := B.up (kp_hk st7.kp)
      refine st_if (bv_cmp (T := tList (tList tInt)) (x := offs2 x y sta held meets) (ev_name st7.sc) (ev_list (T := tInt) (xs := []) st7.xb eva_nil) fun _ _ s2 _ r1 r2 => cmp_eqn hu r1 r2) (fun e8 s8 k8 => ?_) fun e8 s8 k8 => ?_
      · refine st_ret' (T := tOB) (X := X) (d := some false) ((ev_bool false).map fun _ _ h => h) fun v s9 k9 r9 => ?_
        rw [if_pos e8] at hR
        exact ⟨v, rfl, kp_trans (st7.up k8).kp k9, by rw [← hR]; exact r9⟩
      have e8' : (offs2 x y sta held meets).isEmpty = false := e8
      rw [if_neg (by rw [e8']; exact Bool.false_ne_true)] at hR
      refine st_nil ?_
      show wpAny (model PR w) A (execs _ _) _ NoE s8
      have st8 := st7.up k8
      have B8 := B.up (kp_hk st8.kp)
      have hpos : 0 < ((offs2 x y sta held meets).length : Int) := by
        cases h : offs2 x y sta held meets with
        | nil => rw [h] at e8'; cases e8'
        | cons a l => simp
      have i0 := Int.fmod_nonneg_of_pos wish hpos
      have i1 := Int.fmod_lt_of_pos wish hpos
      have ilt : (wish.fmod ((offs2 x y sta held meets).length : Int)).toNat < (offs2 x y sta held meets).length := by omega
      refine st_assign (T := tList tInt) (d := (offs2 x y sta held meets).getD (wish.fmod ((offs2 x y sta held meets).length : Int)).toNat []) st8 (ev_item (T := tList tInt) (xs := offs2 x y sta held meets) (ev_name st8.sc) (ev_mod (by omega) (ev_name st8.sc) (ev_len (T := tList tInt) (xs := offs2 x y sta held meets) B8 (by omega) (ev_name st8.sc))) i0 (by omega) (getD_some _ ilt)) fun s9 st9 sp9 => ?_
      refine st_aug (V := tInt) (z := ((nm + 1 : Nat) : Int)) st9 (ev_load st9.sc) (ev_int 1) (fun _ _ s2 _ r1 r2 => iop_add r1 r2) fun s10 st10 sp10 => ?_
      refine st_nil ⟨((offs2 x y sta held meets).getD (wish.fmod ((offs2 x y sta held meets).length : Int)).toNat [], nm + 1), ⟨?_, ?_, ?_⟩, ?_, st10.sub ?_, ?_⟩
      · show nm + 1 ≤ 3
        have e3 : ¬ (held.length : Int) ≤ 2 ^ ((nm : Int)).toNat := of_decide_eq_false e
        rw [sh.hl] at e3
        have : nm = 0 ∨ nm = 1 ∨ nm = 2 ∨ nm = 3 := by omega
        rcases this with rfl | rfl | rfl | rfl
        · decide
        · decide
        · decide
        · exfalso
          apply e3
          show (m : Int) ≤ 8
          omega
      · have hm := mem_getD (l := offs2 x y sta held meets) [] ilt
        have hsd : ∃ side place : Int, (0 ≤ side ∧ side < 2) ∧ (offs2 x y sta held meets).getD (wish.fmod ((offs2 x y sta held meets).length : Int)).toNat [] ∈ offersA side place sta held meets := by
          generalize (offs2 x y sta held meets).getD (wish.fmod ((offs2 x y sta held meets).length : Int)).toNat [] = o at *
          unfold offs2 at hm
          split at hm
          · exact ⟨1, y, by decide, hm⟩
          · exact ⟨0, x, by decide, hm⟩
        obtain ⟨side, place, ⟨hs0, hs1⟩, ho⟩ := hsd
        obtain ⟨r, hr, _, heq, _⟩ := offers_mem ho
        show Good m _
        rw [heq]
        exact met_good hg hr (hd side r hs0 hs1 (hg.1 r hr).1 (hg.1 r hr).2)
      · show talkA x y held meets wish (4 - (nm + 1)) _ (nm + 1) = _
        rw [show 4 - (nm + 1) = 3 - nm by omega]
        exact hR
      · show 4 - (nm + 1) < 4 - nm
        omega
      · refine lk_under fun z e1 h1 h => ?_
        have h1' : Str.ofString "names" ≠ z := h1
        by_cases h2 : Str.ofString "standing" = z
        · rw [lk_cons_eq h2] at h ⊢; exact h
        · rw [lk_cons_ne h2] at h ⊢
          have h3 : Str.ofString "offers" ≠ z := by
            rintro rfl
            cases h
          exact lk_off h3 (lk_off h3 (lk_off h1' (lk_off h2 h)))
      · exact (stp_kp k5).2.trans (sp6.2.trans (vk7.trans ((stp_kp k8).2.trans (sp9.2.trans sp10.2))))
  · obtain ⟨sta, nm⟩ := c
    obtain ⟨hnm, hg, hR⟩ := ok
    dsimp only at hnm hg hR hc
    have hfu : 4 - nm = (3 - nm) + 1 := by omega
    rw [hfu] at hR
    unfold talkA at hR
    rw [if_neg (of_decide_eq_false hc)] at hR
    have B4 := B.up (kp_hk st4.kp)
    have hpos : 0 < sta.length := by
      cases h : sta with
      | nil => exact absurd h hg.2.2
      | cons a l => simp
    have hr := hg.1 _ (mem_getD (l := sta) 0 hpos)
    have hx1 : (sta.getD 0 0).toNat < held.length := by rw [sh.hl]; omega
    have hx2 : (held.getD (sta.getD 0 0).toNat []).length = 2 := sh.h2 _ (mem_getD _ hx1)
    have hA' : AOk 1 A := hA.le (by decide)
    refine st_assign (T := tList tInt) (d := bothA x y (sta.getD 0 0) held) st4 (ev_list (xs := bothA x y (sta.getD 0 0) held) st4.xb (eva_cons (ev_and (ev_call (fn_irshift w (hAt held (sta.getD 0 0) 0) x hx0) B4 st4.xb hA' (eva_cons (ev_item (T := tInt) (xs := held.getD (sta.getD 0 0).toNat []) (ev_item (T := tList tInt) (xs := held) (ev_name st4.sc) (ev_item (T := tInt) (xs := sta) (ev_name st4.sc) (ev_int 0) (by decide) (by decide) (getD_some 0 hpos)) hr.1 (by show sta.getD 0 0 < 2 ^ 63; omega) (getD_some _ hx1)) (ev_int 0) (by decide) (by decide) (getD_some 0 (by rw [hx2]; decide))) (eva_cons (ev_name st4.sc) eva_nil))) (ev_int 1))
      (eva_cons (ev_and (ev_call (fn_irshift w (hAt held (sta.getD 0 0) 1) y hy0) B4 st4.xb hA' (eva_cons (ev_item (T := tInt) (xs := held.getD (sta.getD 0 0).toNat []) (ev_item (T := tList tInt) (xs := held) (ev_name st4.sc) (ev_item (T := tInt) (xs := sta) (ev_name st4.sc) (ev_int 0) (by decide) (by decide) (getD_some 0 hpos)) hr.1 (by show sta.getD 0 0 < 2 ^ 63; omega) (getD_some _ hx1)) (ev_int 1) (by decide) (by decide) (getD_some 0 (by rw [hx2]; decide))) (eva_cons (ev_name st4.sc) eva_nil))) (ev_int 1)) eva_nil)) (hsz := by show 2 ≤ 100; decide)) fun s5 st5 sp5 => ?_
    rw [← hR]
    refine st_ret st5 ((ev_cmp (T := tList tInt) (x := bothA x y (sta.getD 0 0) held) (ev_name st5.sc) (ev_list (T := tInt) (xs := [1, 1]) st5.xb (eva_cons (ev_int 1) (eva_cons (ev_int 1) eva_nil))) fun _ _ s2 _ r1 r2 => cmp_eql hu r1 r2).map fun _ _ h => h)
end Mine

/-! part D8 -/
namespace Mine
open PySem PySem.W PySem.Calls PyProof.Rows
set_option maxRecDepth 100000
set_option linter.unusedVariables false

def readV (b : Int × Int) : List Int := if b.1 = 0 then [0, 0] else [b.1, b.2]
def repliesA (blocks : List (Int × Int)) : List (List Int) := (blocks.filter fun _ => true).map readV
def heldA (blocks : List (Int × Int)) : List (List Int) := ((repliesA blocks).filter fun t => !decide (t = [0, 0])).map fun t => t
def mcell (side : Int) (p q : List Int) : Int := Builtin.bitAnd (p.getD side.toNat 0) (q.getD side.toNat 0)
def mrow (held : List (List Int)) (side : Int) (p : List Int) : List Int := (held.filter fun _ => true).map (mcell side p)
def mtab (held : List (List Int)) (side : Int) : List (List Int) := (held.filter fun _ => true).map (mrow held side)
def meetsA (held : List (List Int)) : List (List (List Int)) := ((rng 2).filter fun _ => true).map (mtab held)
def wishA (ns : List Int) : Int := (modsOf (pickNums ns none (some 10) none)).sum
def exP (x y : Int) (b : Int × Int) : Bool := bit b.1 x && (bit b.2 y && true)
def one1 (b : Int × Int) : Int := 1
def exA (blocks : List (Int × Int)) (x y : Int) : Bool := !((blocks.filter (exP x y)).map one1).isEmpty

theorem filter_tt {α : Type} (l : List α) : (l.filter fun _ => true) = l := List.filter_eq_self.mpr fun _ _ => rfl
theorem held_two {blocks : List (Int × Int)} : ∀ x ∈ heldA blocks, x.length = 2 := by
  intro x hx
  unfold heldA repliesA at hx
  rw [List.map_id', filter_tt] at hx
  obtain ⟨b, _, rfl⟩ := List.mem_map.mp (List.mem_filter.mp hx).1
  unfold readV
  split <;> rfl
theorem held_len (blocks : List (Int × Int)) : (heldA blocks).length ≤ blocks.length := by
  unfold heldA repliesA
  rw [List.map_id', filter_tt]
  exact Nat.le_trans (List.length_filter_le _ _) (by rw [List.length_map]; exact Nat.le_refl _)
theorem shp_of {blocks : List (Int × Int)} (h5 : blocks.length ≤ 5) : Shp (heldA blocks).length (heldA blocks) (meetsA (heldA blocks)) := by
  refine ⟨Nat.le_trans (held_len blocks) h5, rfl, held_two, ?_, ?_, ?_⟩
  · unfold meetsA; rw [List.length_map, filter_tt, rng_len]
  · intro x hx
    unfold meetsA at hx
    obtain ⟨s, _, rfl⟩ := List.mem_map.mp hx
    unfold mtab
    rw [List.length_map, filter_tt]
  · intro x hx y hy
    unfold meetsA at hx
    obtain ⟨s, _, rfl⟩ := List.mem_map.mp hx
    unfold mtab at hy
    obtain ⟨p, _, rfl⟩ := List.mem_map.mp hy
    unfold mrow
    rw [List.length_map, filter_tt]

theorem fn_law (w : World) {ns : List Int} (hn : ns.length ≤ 63) (hB : ∀ b ∈ blocksA ns 5, (0 ≤ b.1 ∧ b.1 ≤ 15) ∧ 1 ≤ b.2 ∧ b.2 ≤ 15) (hm : 1 ≤ (heldA (blocksA ns 5)).length)
    (hd : ∀ side r : Int, 0 ≤ side → side < 2 → 0 ≤ r → r < (heldA (blocksA ns 5)).length → mAt (meetsA (heldA (blocksA ns 5))) side r r ≠ 0)
    (hT : ∀ x y : Int, 0 ≤ x → x < 4 → 0 ≤ y → y < 4 → talkA x y (heldA (blocksA ns 5)) (meetsA (heldA (blocksA ns 5))) (wishA ns) 4 (rng (heldA (blocksA ns 5)).length) 0 = some (exA (blocksA ns 5) x y)) :
    Fn w 110 4 [⟨_, tList tInt, ns⟩] ⟨_, tBool, true⟩ := by
  have hl5 := blocksA_len ns 5
  have sh := shp_of (blocks := blocksA ns 5) (by omega)
  have hfb := fn_blocks w hn
  generalize hBl : blocksA ns 5 = blocks at *
  have hr5 : (repliesA blocks).length ≤ 5 := by unfold repliesA; rw [List.length_map, filter_tt]; omega
  have hm5 := sh.m5
  refine fn_introC (n := 3) [Str.ofString "script"] rfl rfl rfl rfl rfl (len1 fun _ => rfl) (by decide +kernel) (by decide +kernel) (by decide +kernel) rfl rfl rfl rfl ?_
  intro A X s0 s1 hA B st
  have B1 := B.up (kp_hk st.kp)
  have hu : A.units < cLine := by have := hA.2.2; omega
  have hA1 : AOk 1 A := hA.le (by decide)
  have hA2 : AOk 2 A := hA.le (by decide)
  refine st_assign (T := tList (tPair tInt tInt)) (d := blocks) st (ev_call hfb B1 st.xb hA1 (eva_cons (ev_name st.sc) eva_nil)) fun s2 st2 sp2 => ?_
  have B2 := B.up (kp_hk st2.kp)
  refine st_assign_comp st2 (T := tPair tInt tInt) (U := tList tInt) (xs := blocks) (p := fun _ => true) (f := readV) (Gf := []) (Gy := fun y => [⟨"columns", _, tInt, y.2⟩, ⟨"rows", _, tInt, y.1⟩]) (cl := []) ?_ (fun s3 st3 sp3 => ?_) rfl
  · exact {
      itb := itb_list hA.1 (ev_name st2.sc)
      xb := st2.xb
      len := by omega
      clc := fun _ _ h => by cases h
      cd := .nil
      sc := fun _ _ _ _ => sc_nil
      hG := fun _ _ _ h => by cases h
      asg := fun C D y v s0 s hrs Q hy st hr k => asg_pair hA.1 st hr k
      tst := fun C D y s0 s1 hrs hy hk st => tst_nil
      elt := fun C D y s0 s1 hrs hy _ hk st => by
        obtain ⟨rep, f1, f2⟩ := read_reply w (hB y hy).1.1 (hB y hy).1.2 (hB y hy).2.1 (hB y hy).2.2
        exact ev_call f2 (B2.up hk) st.xb hA2 (eva_cons (ev_call f1 (B2.up hk) st.xb hA1 (eva_cons (ev_name st.sc) (eva_cons (ev_name st.sc) eva_nil))) eva_nil) }
  refine st_assignC (T := tList (tList tInt)) (d := heldA blocks) st3 ?_ (.tail _ (.tail _ (.tail _ (.head _)))) fun s4 st4 sp4 => ?_
  · refine ev_comp (T := tList tInt) (U := tList tInt) (xs := repliesA blocks) (p := fun t => !decide (t = [0, 0])) (f := fun t => t) (cl := []) (Gf := []) (Gy := fun i => [⟨"two", _, tList tInt, i⟩]) (fun s6 k6 => ?_) rfl
    have st6 := st3.up k6
    exact {
      itb := itb_list hA.1 (ev_name st6.sc)
      xb := st6.xb
      len := by omega
      clc := fun _ _ h => by cases h
      cd := .nil
      sc := fun _ _ _ _ => sc_nil
      hG := fun _ _ _ h => by cases h
      asg := fun C D y v s0 s hrs Q hy st hr k => asg_name st hr k
      tst := fun C D y s0 s1 hrs hy hk st => tst_one (bv_cmp (ev_name st.sc) (ev_list (T := tInt) (xs := [0, 0]) st.xb (eva_cons (ev_int 0) (eva_cons (ev_int 0) eva_nil))) fun _ _ s2 _ r1 r2 => cmp_nel hu r1 r2)
      elt := fun C D y s0 s1 hrs hy _ hk st => ev_name st.sc }
  have B4 := B.up (kp_hk st4.kp)
  refine st_assign_comp st4 (T := tInt) (U := tList (tList tInt)) (xs := rng 2) (p := fun _ => true) (f := mtab (heldA blocks))
    (Gf := [⟨"held", _, tList (tList tInt), heldA blocks⟩]) (Gy := fun side => [⟨"side", _, tInt, side⟩, ⟨"held", _, tList (tList tInt), heldA blocks⟩]) (cl := [(Str.ofString "held", s0.heap.objs.size + 1)]) ?_ (fun s5 st5 sp5 => ?_) rfl
  · refine {
      itb := itb_range hA.1 B4 (by decide) (ev_int 2)
      xb := st4.xb
      len := by rw [rng_len]; decide
      clc := fun n c h => st4.ce n c (by rw [List.mem_singleton.mp h]; exact .tail _ (.tail _ (.head _)))
      cd := List.pairwise_singleton _ _
      sc := fun C D h va => sc_cons (sc_cell st4.sc va rfl (.inl rfl) rfl (.inl rfl) rfl) sc_nil
      hG := fun side => lk_mono (e0 := ⟨"side", _, tInt, side⟩) rfl
      asg := fun C D y v s0 s hrs Q hy st hr k => asg_cell st hr (.tail _ (.head _)) k
      tst := fun C D y s0 s1 hrs hy hk st => tst_nil
      elt := fun C D side s6 s7 hrs hside _ hk7 st7 => ?_ }
    have hs := rng_mem hside
    refine ev_comp (T := tList tInt) (U := tList tInt) (xs := heldA blocks) (p := fun _ => true) (f := mrow (heldA blocks) side)
      (cl := [(Str.ofString "side", C + 1), (Str.ofString "held", s0.heap.objs.size + 1)]) (Gf := [⟨"held", _, tList (tList tInt), heldA blocks⟩, ⟨"side", _, tInt, side⟩]) (Gy := fun p => [⟨"p", _, tList tInt, p⟩, ⟨"held", _, tList (tList tInt), heldA blocks⟩, ⟨"side", _, tInt, side⟩]) (fun s8 k8 => ?_) rfl
    have st8 := st7.up k8
    refine {
      itb := itb_list hA.1 (ev_name st8.sc)
      xb := st8.xb
      len := by omega
      clc := fun n c h => st8.ce n c h
      cd := st8.cd
      sc := fun C D h va => sc_cons (sc_cell st8.sc va rfl (.inl rfl) rfl (.inl rfl) rfl) (sc_cons (sc_cell st8.sc va rfl (.inl rfl) rfl (.inl rfl) rfl) sc_nil)
      hG := fun p => lk_mono (e0 := ⟨"p", _, tList tInt, p⟩) rfl
      asg := fun C D y v s0 s hrs Q hy st hr k => asg_cell st hr (.tail _ (.head _)) k
      tst := fun C D y s0 s1 hrs hy hk st => tst_nil
      elt := fun C2 D2 p s9 s10 hrs2 hp _ hk10 st10 => ?_ }
    refine ev_comp (T := tList tInt) (U := tInt) (xs := heldA blocks) (p := fun _ => true) (f := mcell side p)
      (cl := [(Str.ofString "side", C + 1), (Str.ofString "p", C2 + 1)]) (Gf := [⟨"p", _, tList tInt, p⟩, ⟨"side", _, tInt, side⟩]) (Gy := fun q => [⟨"q", _, tList tInt, q⟩, ⟨"p", _, tList tInt, p⟩, ⟨"side", _, tInt, side⟩]) (fun s11 k11 => ?_) rfl
    have st11 := st10.up k11
    exact {
      itb := itb_list hA.1 (ev_name st11.sc)
      xb := st11.xb
      len := by omega
      clc := fun n c h => st11.ce n c (by
        rcases List.mem_cons.mp h with h | h
        · rw [h]; exact .tail _ (.head _)
        · rw [List.mem_singleton.mp h]; exact .head _)
      cd := by
        have hcd := st11.cd
        refine .cons (fun y hy => ?_) (List.pairwise_singleton _ _)
        rw [List.mem_singleton.mp hy]
        cases hcd with
        | cons h1 _ => exact (h1 _ (.head _)).symm
      sc := fun C D h va => sc_cons (sc_cell st11.sc va rfl (.inl rfl) rfl (.inl rfl) rfl) (sc_cons (sc_cell st11.sc va rfl (.inl rfl) rfl (.inl rfl) rfl) sc_nil)
      hG := fun q => lk_mono (e0 := ⟨"q", _, tList tInt, q⟩) rfl
      asg := fun C D y v s0 s hrs Q hy st hr k => asg_name st hr k
      tst := fun C D y s0 s1 hrs hy hk st => tst_nil
      elt := fun C3 D3 q s12 s13 hrs3 hq _ hk13 st13 => by
        have lp : side.toNat < p.length := by rw [held_two p hp]; omega
        have lq : side.toNat < q.length := by rw [held_two q hq]; omega
        exact ev_call (fn_iand w (p.getD side.toNat 0) (q.getD side.toNat 0)) (B4.up (HK.trans hk7 (HK.trans (kp_hk k8) (HK.trans hk10 (HK.trans (kp_hk k11) hk13))))) st13.xb hA1
          (eva_cons (ev_item (T := tInt) (xs := p) (ev_name st13.sc) (ev_name st13.sc) hs.1 (by omega) (getD_some 0 lp)) (eva_cons (ev_item (T := tInt) (xs := q) (ev_name st13.sc) (ev_name st13.sc) hs.1 (by omega) (getD_some 0 lq)) eva_nil)) }
  have B5 := B.up (kp_hk st5.kp)
  have hpl := pick_len ns none (some 10) none
  refine st_assign (T := tInt) (d := wishA ns) st5 (ev_sum (ns := modsOf (pickNums ns none (some 10) none)) hA.1 B5 (mods_small (by omega)) ?_) fun s6 st6 sp6 => ?_
  · refine ev_comp (T := tInt) (U := tInt) (xs := pickNums ns none (some 10) none) (p := fun _ => true) (f := fun x => x.fmod 1000) (cl := []) (Gf := []) (Gy := fun i => [⟨"x", _, tInt, i⟩]) (fun s6 k6 => ?_) rfl
    have st6 := st5.up k6
    exact {
      itb := itb_list hA.1 (ev_slice2 st6.xb (by omega) (ev_name st6.sc) (evp_none) (evp_some (X := X) (ev_int 10)))
      xb := st6.xb
      len := by omega
      clc := fun _ _ h => by cases h
      cd := .nil
      sc := fun _ _ _ _ => sc_nil
      hG := fun _ _ _ h => by cases h
      asg := fun C D y v s0 s hrs Q hy st hr k => asg_name st hr k
      tst := fun C D y s0 s1 hrs hy hk st => tst_nil
      elt := fun C D y s0 s1 hrs hy _ hk st => ev_mod (by decide) (ev_name st.sc) (ev_int 1000) }
  have B6 := B.up (kp_hk st6.kp)
  refine st_for (T := tInt) (xs := rng 4) (fun _ => _) (fun _ _ => True) hA.1 st6 trivial (fun _ _ _ _ _ => trivial) (itb_range hA.1 B6 (n := 4) (by decide) (ev_int 4)) (fun i x v href s7 hx st7 _ vk7 r7 => ?_) fun s7 st7 _ vk7 => ?_
  · refine asg_cell st7 r7 (.tail _ (.tail _ (.head _))) fun s8 st8 sp8 => ?_
    have hx4 := rng_mem (List.mem_of_getElem? hx)
    have B8 := B.up (kp_hk st8.kp)
    refine st_for (T := tInt) (xs := rng 4) (fun _ => _) (fun _ _ => True) hA.1 st8 trivial (fun _ _ _ _ _ => trivial) (itb_range hA.1 B8 (n := 4) (by decide) (ev_int 4)) (fun j y v' href' s9 hy st9 _ vk9 r9 => ?_) fun s9 st9 _ vk9 => ?_
    · refine asg_cell st9 r9 (.tail _ (.head _)) fun s10 st10 sp10 => ?_
      have hy4 := rng_mem (List.mem_of_getElem? hy)
      have B10 := B.up (kp_hk st10.kp)
      have ft := fn_talk w (m := (heldA blocks).length) (x := x) (y := y) (wish := wishA ns) sh hm hx4.1 hy4.1 hd
      rw [hT x y hx4.1 hx4.2 hy4.1 hy4.2] at ft
      refine st_assign (T := tOB) (d := some (exA blocks x y)) st10 (ev_call ft B10 st10.xb hA (eva_cons (ev_name st10.sc) (eva_cons (ev_name st10.sc) (eva_cons (ev_name st10.sc) (eva_cons (ev_name st10.sc) (eva_cons (ev_name st10.sc) eva_nil)))))) fun s11 st11 sp11 => ?_
      have B11 := B.up (kp_hk st11.kp)
      refine st_if (b := !(exA blocks x y == exA blocks x y)) (bv_cmp (T := tOB) (x := some (exA blocks x y)) (U := tBool) (y := exA blocks x y) (ev_name st11.sc) (ev_cmp (T := tList tInt) (x := (blocks.filter (exP x y)).map one1) ?_ (ev_list (T := tInt) (xs := []) st11.xb eva_nil) fun _ _ s2 _ r1 r2 => cmp_nen hu r1 r2) fun v1 v2 s2 _ r1 r2 => ?_) (fun e s12 k12 => ?_) fun e s12 k12 => ?_
      · refine ev_comp (T := tPair tInt tInt) (U := tInt) (xs := blocks) (p := exP x y) (f := one1) (cl := [(Str.ofString "y", s0.heap.objs.size + 3), (Str.ofString "x", s0.heap.objs.size + 2)]) (Gf := [⟨"x", Int, tInt, x⟩, ⟨"y", Int, tInt, y⟩]) (Gy := fun b => [⟨"columns", _, tInt, b.2⟩, ⟨"rows", _, tInt, b.1⟩, ⟨"x", Int, tInt, x⟩, ⟨"y", Int, tInt, y⟩]) (fun s12 k12 => ?_) rfl
        have st12 := st11.up k12
        exact {
          itb := itb_list hA.1 (ev_name st12.sc)
          xb := st12.xb
          len := by omega
          clc := fun n c h => st12.ce n c (by
            rcases List.mem_cons.mp h with h | h
            · rw [h]; exact .head _
            · rw [List.mem_singleton.mp h]; exact .tail _ (.head _))
          cd := by
            refine .cons (fun y hy => ?_) (List.pairwise_singleton _ _)
            rw [List.mem_singleton.mp hy]
            show s0.heap.objs.size + 3 ≠ s0.heap.objs.size + 2
            omega
          sc := fun C D h va => sc_cons (sc_cell st12.sc va rfl (.inl rfl) rfl (.inl rfl) rfl) (sc_cons (sc_cell st12.sc va rfl (.inl rfl) rfl (.inl rfl) rfl) sc_nil)
          hG := fun b x e h => lk_mono (e0 := ⟨"columns", _, tInt, b.2⟩) rfl x e (lk_mono (e0 := ⟨"rows", _, tInt, b.1⟩) rfl x e h)
          asg := fun C D y v s0 s hrs Q hy st hr k => asg_pair hA.1 st hr k
          tst := fun C D b s0 s1 hrs hb hk st => tst_one (bv_and (bv_val (ev_and (ev_rsh hx4.1 (ev_name st.sc) (ev_name st.sc)) (ev_int 1)) fun v s2 _ r => tr_int s2 r) fun _ => bv_and (bv_val (ev_and (ev_rsh hy4.1 (ev_name st.sc) (ev_name st.sc)) (ev_int 1)) fun v s2 _ r => tr_int s2 r) fun _ => bv_and_nil)
          elt := fun C D b s0 s1 hrs hb _ hk st => ev_int 1 }
      · cases (show v1 = .bool (exA blocks x y) from r1)
        cases (show v2 = .bool (exA blocks x y) from r2)
        exact cmp_neb
      · rw [beq_self_eq_true] at e; cases e
      · refine st_nil (st_nil ⟨(st11.up k12).sub ?_, trivial, sp10.2.trans (sp11.2.trans (stp_kp k12).2)⟩)
        exact fun z e h => lk_mono rfl z e (lk_mono rfl z e h)
    · refine st_nil ⟨st9.sub ?_, trivial, sp8.2.trans vk9⟩
      exact lk_mono rfl
  · exact st_ret st7 (ev_bool true)
end Mine

/-! part P1 -/
namespace Mine
open PySem PySem.W PySem.Calls PyProof.Rows
set_option maxRecDepth 100000
set_option linter.unusedVariables false

abbrev Nib (a : Int) : Prop := 0 ≤ a ∧ a ≤ 15
theorem nib_of {a : Int} (h : Nib a) : ∃ n : Fin 16, a = (n.val : Int) := ⟨⟨a.toNat, by omega⟩, by show a = (a.toNat : Int); omega⟩
def allN (f : Nat → Bool) : Bool := (List.range 16).all f
theorem allN_at {f : Nat → Bool} (h : allN f = true) (n : Fin 16) : f n.val = true := List.all_eq_true.mp h n.val (List.mem_range.mpr n.isLt)

theorem mask_fin : allN (fun a => allN fun b => decide (Nib (Builtin.bitAnd (a : Int) (-(b : Int) - 1))) && decide (Builtin.bitAnd (b : Int) (Builtin.bitAnd (a : Int) (-(b : Int) - 1)) = 0)) = true := by decide +kernel
theorem mask3_fin : allN (fun a => allN fun b => allN fun c => !decide (Builtin.bitAnd (c : Int) (a : Int) = 0) || decide (Builtin.bitAnd (c : Int) (Builtin.bitAnd (a : Int) (-(b : Int) - 1)) = 0)) = true := by decide +kernel
theorem comm_fin : allN (fun a => allN fun b => decide (Builtin.bitAnd (a : Int) (b : Int) = Builtin.bitAnd (b : Int) (a : Int))) = true := by decide +kernel
theorem self_fin : allN (fun a => decide (Builtin.bitAnd (a : Int) (a : Int) = (a : Int))) = true := by decide +kernel
theorem bits_fin : allN (fun a => allN fun b => (List.range 4).all fun x => !(bit (a : Int) (x : Int) && bit (b : Int) (x : Int)) || !decide (Builtin.bitAnd (a : Int) (b : Int) = 0)) = true := by decide +kernel
theorem one_fin : allN (fun a => (List.range 4).all fun x => decide (Builtin.bitAnd ((a : Int).fdiv (2 ^ (x : Int).toNat)) 1 = (if bit (a : Int) (x : Int) then 1 else 0))) = true := by decide +kernel

theorem mask_ok {a b : Int} (ha : Nib a) (hb : Nib b) : Nib (Builtin.bitAnd a (-b - 1)) ∧ Builtin.bitAnd b (Builtin.bitAnd a (-b - 1)) = 0 := by
  obtain ⟨n, rfl⟩ := nib_of ha
  obtain ⟨k, rfl⟩ := nib_of hb
  have := allN_at (allN_at mask_fin n) k
  simpa only [Bool.and_eq_true, decide_eq_true_eq] using this
theorem mask3_ok {a b c : Int} (ha : Nib a) (hb : Nib b) (hc : Nib c) (h : Builtin.bitAnd c a = 0) : Builtin.bitAnd c (Builtin.bitAnd a (-b - 1)) = 0 := by
  obtain ⟨n, rfl⟩ := nib_of ha
  obtain ⟨k, rfl⟩ := nib_of hb
  obtain ⟨l, rfl⟩ := nib_of hc
  have := allN_at (allN_at (allN_at mask3_fin n) k) l
  rw [h] at this
  simpa using this
theorem comm_ok {a b : Int} (ha : Nib a) (hb : Nib b) : Builtin.bitAnd a b = Builtin.bitAnd b a := by
  obtain ⟨n, rfl⟩ := nib_of ha
  obtain ⟨k, rfl⟩ := nib_of hb
  simpa using allN_at (allN_at comm_fin n) k
theorem self_ok {a : Int} (ha : Nib a) : Builtin.bitAnd a a = a := by
  obtain ⟨n, rfl⟩ := nib_of ha
  simpa using allN_at self_fin n
theorem four_of {x : Int} (h0 : 0 ≤ x) (h4 : x < 4) : ∃ k : Nat, k < 4 ∧ x = (k : Int) := ⟨x.toNat, by omega, by omega⟩
theorem bits_ok {a b x : Int} (ha : Nib a) (hb : Nib b) (h0 : 0 ≤ x) (h4 : x < 4) (h1 : bit a x = true) (h2 : bit b x = true) : Builtin.bitAnd a b ≠ 0 := by
  obtain ⟨n, rfl⟩ := nib_of ha
  obtain ⟨k, rfl⟩ := nib_of hb
  obtain ⟨i, hi, rfl⟩ := four_of h0 h4
  have := List.all_eq_true.mp (allN_at (allN_at bits_fin n) k) i (List.mem_range.mpr hi)
  rw [h1, h2] at this
  simpa using this
theorem one_ok {a x : Int} (ha : Nib a) (h0 : 0 ≤ x) (h4 : x < 4) : Builtin.bitAnd (a.fdiv (2 ^ x.toNat)) 1 = (if bit a x then 1 else 0) := by
  obtain ⟨n, rfl⟩ := nib_of ha
  obtain ⟨i, hi, rfl⟩ := four_of h0 h4
  exact of_decide_eq_true (List.all_eq_true.mp (allN_at one_fin n) i (List.mem_range.mpr hi))

/-- two blocks that share no cell -/
def Dj (a b : Int × Int) : Prop := Builtin.bitAnd a.2 b.2 = 0 ∨ Builtin.bitAnd a.1 b.1 = 0
def Bk (b : Int × Int) : Prop := Nib b.1 ∧ Nib b.2 ∧ 1 ≤ b.2

theorem row0_ok (ns : List Int) (k : Nat) : Nib (row0 ns k) ∧ 1 ≤ row0 ns k := by
  have h1 := Int.fmod_nonneg_of_pos (nAt ns k) (show (0 : Int) < 15 by decide)
  have h2 := Int.fmod_lt_of_pos (nAt ns k) (show (0 : Int) < 15 by decide)
  unfold row0
  exact ⟨⟨by omega, by omega⟩, by omega⟩
theorem colA_ok (ns : List Int) (k : Nat) : Nib (colA ns k) ∧ 1 ≤ colA ns k := by
  have h1 := Int.fmod_nonneg_of_pos ((nAt ns k).fdiv 15) (show (0 : Int) < 15 by decide)
  have h2 := Int.fmod_lt_of_pos ((nAt ns k).fdiv 15) (show (0 : Int) < 15 by decide)
  unfold colA
  exact ⟨⟨by omega, by omega⟩, by omega⟩
theorem maskB_nib {c rows : Int} {b : Int × Int} (hb : Bk b) (hr : Nib rows) : Nib (maskB c rows b) := by
  unfold maskB
  split
  · exact (mask_ok hr hb.1).1
  · exact hr
theorem fold_nib {c : Int} : ∀ (l : List (Int × Int)) (rows : Int), (∀ b ∈ l, Bk b) → Nib rows → Nib (l.foldl (maskB c) rows)
  | [], _, _, hr => hr
  | b :: l, rows, hl, hr => fold_nib l _ (fun b' h => hl b' (List.mem_cons_of_mem _ h)) (maskB_nib (hl b List.mem_cons_self) hr)
theorem fold_keep {c a : Int} (ha : Nib a) : ∀ (l : List (Int × Int)) (rows : Int), (∀ b ∈ l, Bk b) → Nib rows → Builtin.bitAnd a rows = 0 → Builtin.bitAnd a (l.foldl (maskB c) rows) = 0
  | [], _, _, _, h => h
  | b :: l, rows, hl, hr, h => by
    refine fold_keep ha l _ (fun b' h => hl b' (List.mem_cons_of_mem _ h)) (maskB_nib (hl b List.mem_cons_self) hr) ?_
    unfold maskB
    split
    · exact mask3_ok hr (hl b List.mem_cons_self).1 ha h
    · exact h
theorem fold_apart {c : Int} : ∀ (l : List (Int × Int)) (rows : Int), (∀ b ∈ l, Bk b) → Nib rows → ∀ b ∈ l, Builtin.bitAnd b.2 c = 0 ∨ Builtin.bitAnd b.1 (l.foldl (maskB c) rows) = 0
  | [], _, _, _, b, hb => by cases hb
  | a :: l, rows, hl, hr, b, hb => by
    have hl' : ∀ b ∈ l, Bk b := fun b' h => hl b' (List.mem_cons_of_mem _ h)
    have hn := maskB_nib (c := c) (hl a List.mem_cons_self) hr
    rcases List.mem_cons.mp hb with rfl | hb
    · by_cases h : Builtin.bitAnd b.2 c = 0
      · exact .inl h
      · refine .inr (fold_keep (hl b List.mem_cons_self).1 l _ hl' hn ?_)
        unfold maskB
        rw [if_pos (by simpa using h)]
        exact (mask_ok hr (hl b List.mem_cons_self).1).2
    · exact fold_apart l _ hl' hn b hb
theorem blocks_ok (ns : List Int) : ∀ k, (∀ b ∈ blocksA ns k, Bk b) ∧ (blocksA ns k).Pairwise Dj
  | 0 => ⟨(fun b h => by cases h), .nil⟩
  | k + 1 => by
    obtain ⟨h1, h2⟩ := blocks_ok ns k
    refine ⟨fun b hb => ?_, List.pairwise_append.mpr ⟨h2, List.pairwise_singleton _ _, fun a ha b hb => ?_⟩⟩
    · rcases List.mem_append.mp hb with hb | hb
      · exact h1 b hb
      · rw [List.mem_singleton.mp hb]
        exact ⟨fold_nib _ _ h1 (row0_ok ns k).1, (colA_ok ns k).1, (colA_ok ns k).2⟩
    · rw [List.mem_singleton.mp hb]
      exact fold_apart _ _ h1 (row0_ok ns k).1 a ha

def Hb (blocks : List (Int × Int)) : List (Int × Int) := blocks.filter fun b => decide (b.1 ≠ 0)
theorem held_eq : ∀ blocks : List (Int × Int), heldA blocks = (Hb blocks).map fun b => [b.1, b.2] := by
  intro blocks
  unfold heldA repliesA Hb
  rw [List.map_id', filter_tt]
  induction blocks with
  | nil => rfl
  | cons b l ih =>
    by_cases h : b.1 = 0
    · rw [List.map_cons, List.filter_cons_of_neg (by unfold readV; rw [if_pos h]; simp), List.filter_cons_of_neg (by simp [h]), ih]
    · rw [List.map_cons, List.filter_cons_of_pos (by unfold readV; rw [if_neg h]; simp [h]), List.filter_cons_of_pos (by simp [h]), List.map_cons, ih]
      unfold readV
      rw [if_neg h]
end Mine

/-! part P2 -/
namespace Mine
open PySem PySem.W PySem.Calls PyProof.Rows
set_option maxRecDepth 100000
set_option linter.unusedVariables false

/-- what the tables say -/
structure Tab (m : Nat) (held : List (List Int)) (meets : List (List (List Int))) : Prop where
  m5 : m ≤ 5
  hl : held.length = m
  nib : ∀ side i : Int, 0 ≤ side → side < 2 → 0 ≤ i → i < m → Nib (hAt held i side) ∧ hAt held i side ≠ 0
  mt : ∀ side i j : Int, 0 ≤ side → side < 2 → 0 ≤ i → i < m → 0 ≤ j → j < m → mAt meets side i j = Builtin.bitAnd (hAt held i side) (hAt held j side)
  dj : ∀ i j : Int, 0 ≤ i → i < m → 0 ≤ j → j < m → i ≠ j → Builtin.bitAnd (hAt held i 1) (hAt held j 1) = 0 ∨ Builtin.bitAnd (hAt held i 0) (hAt held j 0) = 0

theorem count_two (p q : Int → Bool) (b : Int) : ∀ l : List Int, l.Nodup → (∀ s ∈ l, s ≠ b → (p s && q s) = false) → (l.filter p).length + (l.filter q).length ≤ l.length + (if b ∈ l then 1 else 0) := by
  intro l
  induction l with
  | nil => intro _ _; simp
  | cons a l ih =>
    intro hn h
    rw [List.nodup_cons] at hn
    have h2 := ih hn.2 fun s hs => h s (List.mem_cons_of_mem _ hs)
    by_cases hab : a = b
    · subst hab
      rw [if_neg hn.1] at h2
      rw [if_pos List.mem_cons_self, List.filter_cons, List.filter_cons]
      split <;> split <;> simp only [List.length_cons] <;> omega
    · have h3 := h a List.mem_cons_self hab
      have e : (if b ∈ a :: l then 1 else 0) = (if b ∈ l then 1 else 0) := by
        by_cases hb : b ∈ l
        · rw [if_pos hb, if_pos (List.mem_cons_of_mem _ hb)]
        · rw [if_neg hb, if_neg]
          intro hm
          rcases List.mem_cons.mp hm with e | e
          · exact hab e.symm
          · exact hb e
      rw [e, List.filter_cons, List.filter_cons]
      split
      · rename_i hp
        split
        · rename_i hq
          rw [hp, hq] at h3; cases h3
        · simp only [List.length_cons]; omega
      · split
        · simp only [List.length_cons]; omega
        · simp only [List.length_cons]; omega

theorem offers_nil {side place : Int} {st : List Int} {held : List (List Int)} {meets : List (List (List Int))} (h : offersA side place st held meets = []) : ∀ r ∈ st, bit (hAt held r side) place = true → ¬ 254 + 2 * ((metOf meets side st r).length : Int) - (st.length : Int) < 256 := by
  unfold offersA at h
  have grow : ∀ (l : List Int) (acc : List (List Int)), acc ≠ [] → l.foldl (offStep side place st held meets) acc ≠ [] := by
    intro l
    induction l with
    | nil => intro acc h; exact h
    | cons a l ih =>
      intro acc hacc
      rw [List.foldl_cons]
      refine ih _ ?_
      unfold offStep
      split
      · split
        · simp
        · exact hacc
      · exact hacc
  have : ∀ (l : List Int) (acc : List (List Int)), l.foldl (offStep side place st held meets) acc = [] → ∀ r ∈ l, bit (hAt held r side) place = true → ¬ 254 + 2 * ((metOf meets side st r).length : Int) - (st.length : Int) < 256 := by
    intro l
    induction l with
    | nil => intro _ _ r hr; cases hr
    | cons a l ih =>
      intro acc he r hr hb hc
      rw [List.foldl_cons] at he
      rcases List.mem_cons.mp hr with rfl | hr
      · refine grow l _ ?_ he
        unfold offStep
        rw [if_pos hb, if_pos hc]
        simp
      · exact ih _ he r hr hb hc
  exact this st [] h

theorem met_len (meets : List (List (List Int))) (side : Int) (st : List Int) (r : Int) : metOf meets side st r = st.filter fun s => mAt meets side r s != 0 := by
  unfold metOf; rw [List.map_id']

def exI (m : Nat) (held : List (List Int)) (x y : Int) : Bool := (rng m).any fun i => bit (hAt held i 0) x && bit (hAt held i 1) y
theorem exI_iff {m : Nat} {held : List (List Int)} {x y : Int} : exI m held x y = true ↔ ∃ i : Int, (0 ≤ i ∧ i < m) ∧ bit (hAt held i 0) x = true ∧ bit (hAt held i 1) y = true := by
  unfold exI
  rw [List.any_eq_true]
  constructor
  · rintro ⟨i, hi, h⟩
    rw [Bool.and_eq_true] at h
    exact ⟨i, rng_mem hi, h⟩
  · rintro ⟨i, ⟨h0, h1⟩, h⟩
    refine ⟨i, ?_, by rw [h.1, h.2]; rfl⟩
    obtain ⟨k, rfl⟩ : ∃ k : Nat, i = (k : Int) := ⟨i.toNat, by omega⟩
    unfold rng
    exact List.mem_map.mpr ⟨k, List.mem_range.mpr (by omega), rfl⟩

theorem talk_ok {m : Nat} {held : List (List Int)} {meets : List (List (List Int))} (tb : Tab m held meets) {x y wish : Int} (hx0 : 0 ≤ x) (hx4 : x < 4) (hy0 : 0 ≤ y) (hy4 : y < 4) :
    ∀ (f nm : Nat) (st : List Int), f + nm = 4 → nm ≤ 3 → Good m st → st.Nodup → (st.length - 1) * 2 ^ nm ≤ m - 1 → (∀ i : Int, 0 ≤ i → i < m → bit (hAt held i 0) x = true → bit (hAt held i 1) y = true → i ∈ st) →
      talkA x y held meets wish f st nm = some (exI m held x y) := by
  have hm5 := tb.m5
  intro f
  induction f with
  | zero => intro nm st hf hnm; omega
  | succ f ih =>
    intro nm st hf hnm hg hnd hsz hin
    unfold talkA
    have hlen : 0 < st.length := List.length_pos_iff.mpr hg.2.2
    by_cases h1 : 1 < (st.length : Int)
    · rw [if_pos h1]
      have hpw : 0 < 2 ^ nm := Nat.pow_pos (by decide)
      have hle : 2 ^ nm ≤ m - 1 := by
        have : 1 * 2 ^ nm ≤ (st.length - 1) * 2 ^ nm := Nat.mul_le_mul_right _ (by omega)
        omega
      have hnm2 : nm ≤ 2 := by
        rcases Nat.lt_or_ge nm 3 with h | h
        · omega
        · have : 2 ^ 3 ≤ 2 ^ nm := Nat.pow_le_pow_right (by decide) h
          omega
      have hnp : ¬ (held.length : Int) ≤ 2 ^ ((nm : Int)).toNat := by
        rw [tb.hl]
        intro hc
        have e : (2 : Int) ^ ((nm : Int)).toNat = ((2 ^ nm : Nat) : Int) := by rw [Int.toNat_natCast]; exact (Int.natCast_pow 2 nm).symm
        rw [e] at hc
        omega
      rw [if_neg hnp]
      by_cases he : (offs2 x y st held meets).isEmpty = true
      · rw [if_pos he]
        have h0 : offersA 0 x st held meets = [] ∧ offersA 1 y st held meets = [] := by
          unfold offs2 at he
          split at he
          · rename_i h
            exact ⟨List.isEmpty_iff.mp h, List.isEmpty_iff.mp he⟩
          · rename_i h
            exact absurd he h
        cases hex : exI m held x y with
        | false => rfl
        | true =>
          exfalso
          obtain ⟨i, ⟨hi0, him⟩, hbx, hby⟩ := exI_iff.mp hex
          have him' := hin i hi0 him hbx hby
          have n0 := offers_nil h0.1 i him' hbx
          have n1 := offers_nil h0.2 i him' hby
          rw [met_len] at n0 n1
          have := count_two (fun s => mAt meets 0 i s != 0) (fun s => mAt meets 1 i s != 0) i st hnd (fun s hs hne => by
            obtain ⟨hs0, hsm⟩ := hg.1 s hs
            rcases tb.dj i s hi0 him hs0 hsm (Ne.symm hne) with h | h
            · rw [tb.mt 1 i s (by decide) (by decide) hi0 him hs0 hsm, h]; simp
            · rw [tb.mt 0 i s (by decide) (by decide) hi0 him hs0 hsm, h]; simp)
          rw [if_pos him'] at this
          omega
      · rw [if_neg he]
        have hpos : 0 < (offs2 x y st held meets).length := by
          cases h : offs2 x y st held meets with
          | nil => rw [h] at he; exact absurd rfl he
          | cons a l => simp
        have i0 := Int.fmod_nonneg_of_pos wish (show (0 : Int) < ((offs2 x y st held meets).length : Int) by omega)
        have i1 := Int.fmod_lt_of_pos wish (show (0 : Int) < ((offs2 x y st held meets).length : Int) by omega)
        have hmem := mem_getD (l := offs2 x y st held meets) [] (show (wish.fmod ((offs2 x y st held meets).length : Int)).toNat < _ by omega)
        generalize (offs2 x y st held meets).getD (wish.fmod ((offs2 x y st held meets).length : Int)).toNat [] = o at *
        have key : ∀ side place : Int, 0 ≤ side → side < 2 → 0 ≤ place → place < 4 → o ∈ offersA side place st held meets → (∀ i : Int, 0 ≤ i → i < m → bit (hAt held i 0) x = true → bit (hAt held i 1) y = true → bit (hAt held i side) place = true) →
            talkA x y held meets wish f o (nm + 1) = some (exI m held x y) := by
          intro side place hs0 hs2 hp0 hp4 ho hbit
          obtain ⟨r, hr, hrb, rfl, hlt⟩ := offers_mem ho
          obtain ⟨hr0, hrm⟩ := hg.1 r hr
          have hne : mAt meets side r r ≠ 0 := by
            rw [tb.mt side r r hs0 hs2 hr0 hrm hr0 hrm, self_ok (tb.nib side r hs0 hs2 hr0 hrm).1]
            exact (tb.nib side r hs0 hs2 hr0 hrm).2
          have hg' := met_good (side := side) (meets := meets) hg hr hne
          refine ih (nm + 1) _ (by omega) (by omega) hg' ?_ ?_ ?_
          · rw [met_len]; exact hnd.filter _
          · have hl' : 2 * (metOf meets side st r).length < st.length + 2 := by omega
            have : ((metOf meets side st r).length - 1) * 2 ^ (nm + 1) ≤ (st.length - 1) * 2 ^ nm := by
              rw [Nat.pow_succ, Nat.mul_comm (2 ^ nm) 2, ← Nat.mul_assoc]
              exact Nat.mul_le_mul_right _ (by omega)
            omega
          · intro i hi0 him hbx hby
            rw [met_len]
            refine List.mem_filter.mpr ⟨hin i hi0 him hbx hby, ?_⟩
            rw [tb.mt side r i hs0 hs2 hr0 hrm hi0 him]
            simpa using bits_ok (tb.nib side r hs0 hs2 hr0 hrm).1 (tb.nib side i hs0 hs2 hi0 him).1 hp0 hp4 hrb (hbit i hi0 him hbx hby)
        have hmem' := hmem
        unfold offs2 at hmem'
        split at hmem'
        · exact key 1 y (by decide) (by decide) hy0 hy4 hmem' fun i _ _ _ h => h
        · exact key 0 x (by decide) (by decide) hx0 hx4 hmem' fun i _ _ h _ => h
    · rw [if_neg h1]
      have hr := hg.1 _ (mem_getD (l := st) 0 hlen)
      have hst : ∀ i ∈ st, i = st.getD 0 0 := by
        intro i hi
        match st, hi, hlen, h1 with
        | [a], hi, _, _ => exact List.mem_singleton.mp hi
        | a :: b :: l, _, _, h1 => exact absurd (by simp; omega) h1
      generalize st.getD 0 0 = r at *
      congr 1
      have ex : bothA x y r held = [if bit (hAt held r 0) x then 1 else 0, if bit (hAt held r 1) y then 1 else 0] := by
        unfold bothA
        rw [one_ok (tb.nib 0 r (by decide) (by decide) hr.1 hr.2).1 hx0 hx4, one_ok (tb.nib 1 r (by decide) (by decide) hr.1 hr.2).1 hy0 hy4]
      rw [ex]
      cases hbx : bit (hAt held r 0) x with
      | true =>
        cases hby : bit (hAt held r 1) y with
        | true =>
          have : exI m held x y = true := exI_iff.mpr ⟨r, hr, hbx, hby⟩
          rw [this]; rfl
        | false =>
          cases hex : exI m held x y with
          | false => rfl
          | true =>
            obtain ⟨i, ⟨hi0, him⟩, h2, h3⟩ := exI_iff.mp hex
            rw [hst i (hin i hi0 him h2 h3), hby] at h3
            cases h3
      | false =>
        cases hex : exI m held x y with
        | false => cases bit (hAt held r 1) y <;> rfl
        | true =>
          obtain ⟨i, ⟨hi0, him⟩, h2, h3⟩ := exI_iff.mp hex
          rw [hst i (hin i hi0 him h2 h3), hbx] at h2
          cases h2
end Mine

/-! part P3 -/
namespace Mine
open PySem PySem.W PySem.Calls PyProof.Rows
set_option maxRecDepth 100000
set_option linter.unusedVariables false

theorem getD_map {α β : Type} (f : α → β) (l : List α) (k : Nat) (d : α) (d' : β) (h : k < l.length) : (l.map f).getD k d' = f (l.getD k d) := by
  rw [List.getD_eq_getElem?_getD, List.getD_eq_getElem?_getD, List.getElem?_map, List.getElem?_eq_getElem h]
  rfl

theorem hb_ok (ns : List Int) : (∀ b ∈ Hb (blocksA ns 5), Bk b ∧ b.1 ≠ 0) ∧ (Hb (blocksA ns 5)).Pairwise Dj := by
  obtain ⟨h1, h2⟩ := blocks_ok ns 5
  refine ⟨fun b hb => ?_, h2.filter _⟩
  have := List.mem_filter.mp hb
  exact ⟨h1 b this.1, of_decide_eq_true this.2⟩

theorem tab_of (ns : List Int) : Tab (heldA (blocksA ns 5)).length (heldA (blocksA ns 5)) (meetsA (heldA (blocksA ns 5))) := by
  obtain ⟨hb, hp⟩ := hb_ok ns
  have hlen5 := blocksA_len ns 5
  have hle := held_len (blocksA ns 5)
  have he := held_eq (blocksA ns 5)
  generalize Hb (blocksA ns 5) = H at *
  generalize heldA (blocksA ns 5) = held at *
  subst he
  have hml : (H.map fun b => [b.1, b.2]).length = H.length := List.length_map ..
  rw [hml]
  have hat : ∀ i : Int, 0 ≤ i → i < H.length → (H.map fun b => [b.1, b.2]).getD i.toNat [] = [(H.getD i.toNat (0, 0)).1, (H.getD i.toNat (0, 0)).2] := fun i h0 h1 =>
    getD_map (fun b : Int × Int => [b.1, b.2]) H i.toNat (0, 0) [] (by omega)
  have h0 : ∀ i : Int, 0 ≤ i → i < H.length → hAt (H.map fun b => [b.1, b.2]) i 0 = (H.getD i.toNat (0, 0)).1 := fun i a b => by unfold hAt; rw [hat i a b]; rfl
  have h1 : ∀ i : Int, 0 ≤ i → i < H.length → hAt (H.map fun b => [b.1, b.2]) i 1 = (H.getD i.toNat (0, 0)).2 := fun i a b => by unfold hAt; rw [hat i a b]; rfl
  have hmem : ∀ i : Int, 0 ≤ i → i < H.length → H.getD i.toNat (0, 0) ∈ H := fun i a b => mem_getD _ (by omega)
  have two : ∀ side : Int, 0 ≤ side → side < 2 → side = 0 ∨ side = 1 := fun side a b => by omega
  refine ⟨by rw [← hml]; omega, hml, ?_, ?_, ?_⟩
  · intro side i hs0 hs2 hi0 him
    obtain ⟨⟨b1, b2, b3⟩, b4⟩ := hb _ (hmem i hi0 him)
    rcases two side hs0 hs2 with rfl | rfl
    · rw [h0 i hi0 him]; exact ⟨b1, b4⟩
    · rw [h1 i hi0 him]; exact ⟨b2, by omega⟩
  · intro side i j hs0 hs2 hi0 him hj0 hjm
    have e1 : (meetsA (H.map fun b => [b.1, b.2])).getD side.toNat [] = mtab (H.map fun b => [b.1, b.2]) side := by
      unfold meetsA
      rw [filter_tt]
      rcases two side hs0 hs2 with rfl | rfl <;> rfl
    unfold mAt
    rw [e1]
    unfold mtab
    rw [filter_tt, getD_map (mrow (H.map fun b => [b.1, b.2]) side) _ i.toNat [] [] (by rw [hml]; omega)]
    unfold mrow
    rw [filter_tt, getD_map (mcell side _) _ j.toNat [] 0 (by rw [hml]; omega)]
    rfl
  · intro i j hi0 him hj0 hjm hij
    rw [h0 i hi0 him, h0 j hj0 hjm, h1 i hi0 him, h1 j hj0 hjm]
    have gi := List.getElem?_eq_getElem (l := H) (i := i.toNat) (by omega)
    have gj := List.getElem?_eq_getElem (l := H) (i := j.toNat) (by omega)
    have ei : H.getD i.toNat (0, 0) = H[i.toNat]'(by omega) := by rw [List.getD_eq_getElem?_getD, gi]; rfl
    have ej : H.getD j.toNat (0, 0) = H[j.toNat]'(by omega) := by rw [List.getD_eq_getElem?_getD, gj]; rfl
    have pw := List.pairwise_iff_getElem.mp hp
    rw [ei, ej]
    rcases Nat.lt_or_ge i.toNat j.toNat with h | h
    · exact pw i.toNat j.toNat (by omega) (by omega) h
    · have hbi := hb _ (hmem i hi0 him)
      have hbj := hb _ (hmem j hj0 hjm)
      rw [ei] at hbi
      rw [ej] at hbj
      have := pw j.toNat i.toNat (by omega) (by omega) (by omega)
      unfold Dj at this
      rw [comm_ok hbj.1.2.1 hbi.1.2.1, comm_ok hbj.1.1 hbi.1.1] at this
      exact this

theorem bit_zero {x : Int} (h0 : 0 ≤ x) (h4 : x < 4) : bit 0 x = false := by
  obtain ⟨k, hk, rfl⟩ := four_of h0 h4
  have : k = 0 ∨ k = 1 ∨ k = 2 ∨ k = 3 := by omega
  rcases this with rfl | rfl | rfl | rfl <;> decide +kernel

theorem ex_eq (ns : List Int) {x y : Int} (hx0 : 0 ≤ x) (hx4 : x < 4) : exI (heldA (blocksA ns 5)).length (heldA (blocksA ns 5)) x y = exA (blocksA ns 5) x y := by
  have he := held_eq (blocksA ns 5)
  have hHb : ∀ b, b ∈ Hb (blocksA ns 5) ↔ b ∈ blocksA ns 5 ∧ b.1 ≠ 0 := fun b => by
    unfold Hb
    rw [List.mem_filter, decide_eq_true_eq]
  generalize Hb (blocksA ns 5) = H at *
  generalize heldA (blocksA ns 5) = held at *
  subst he
  have hml : (H.map fun b => [b.1, b.2]).length = H.length := List.length_map ..
  rw [hml]
  have hat : ∀ i : Int, 0 ≤ i → i < H.length → (H.map fun b => [b.1, b.2]).getD i.toNat [] = [(H.getD i.toNat (0, 0)).1, (H.getD i.toNat (0, 0)).2] := fun i h0 h1 =>
    getD_map (fun b : Int × Int => [b.1, b.2]) H i.toNat (0, 0) [] (by omega)
  have h0 : ∀ i : Int, 0 ≤ i → i < H.length → hAt (H.map fun b => [b.1, b.2]) i 0 = (H.getD i.toNat (0, 0)).1 := fun i a b => by unfold hAt; rw [hat i a b]; rfl
  have h1 : ∀ i : Int, 0 ≤ i → i < H.length → hAt (H.map fun b => [b.1, b.2]) i 1 = (H.getD i.toNat (0, 0)).2 := fun i a b => by unfold hAt; rw [hat i a b]; rfl
  rw [Bool.eq_iff_iff, exI_iff]
  unfold exA
  have hne : ((!(((blocksA ns 5).filter (exP x y)).map one1).isEmpty) = true) ↔ ∃ b ∈ blocksA ns 5, bit b.1 x = true ∧ bit b.2 y = true := by
    rw [Bool.not_eq_true', List.isEmpty_eq_false_iff, Ne, List.map_eq_nil_iff, List.filter_eq_nil_iff]
    unfold exP
    constructor
    · intro h
      apply Classical.byContradiction
      intro hc
      apply h
      intro b hb hbits
      simp only [Bool.and_eq_true, and_true] at hbits
      exact hc ⟨b, hb, hbits.1, hbits.2⟩
    · rintro ⟨b, hb, hb1, hb2⟩ h
      exact h b hb (by rw [hb1, hb2]; rfl)
  rw [hne]
  constructor
  · rintro ⟨i, ⟨hi0, him⟩, hbx, hby⟩
    rw [h0 i hi0 him] at hbx
    rw [h1 i hi0 him] at hby
    exact ⟨_, ((hHb _).mp (mem_getD (l := H) (0, 0) (show i.toNat < H.length by omega))).1, hbx, hby⟩
  · rintro ⟨b, hb, hbx, hby⟩
    have hb0 : b.1 ≠ 0 := by
      intro e
      rw [e, bit_zero hx0 hx4] at hbx
      cases hbx
    have hbH := (hHb b).mpr ⟨hb, hb0⟩
    obtain ⟨k, hk, hke⟩ := List.mem_iff_getElem.mp hbH
    refine ⟨(k : Int), ⟨by omega, by omega⟩, ?_, ?_⟩
    · rw [h0 _ (by omega) (by omega)]
      have : H.getD ((k : Int)).toNat (0, 0) = b := by rw [List.getD_eq_getElem?_getD, Int.toNat_natCast, List.getElem?_eq_getElem hk, hke]; rfl
      rw [this]; exact hbx
    · rw [h1 _ (by omega) (by omega)]
      have : H.getD ((k : Int)).toNat (0, 0) = b := by rw [List.getD_eq_getElem?_getD, Int.toNat_natCast, List.getElem?_eq_getElem hk, hke]; rfl
      rw [this]; exact hby

theorem held_pos (ns : List Int) : 1 ≤ (heldA (blocksA ns 5)).length := by
  rw [held_eq, List.length_map]
  have h : (row0 ns 0, colA ns 0) ∈ Hb (blocksA ns 5) := by
    unfold Hb
    refine List.mem_filter.mpr ⟨?_, ?_⟩
    · show _ ∈ ((((([] : List (Int × Int)) ++ [_]) ++ [_]) ++ [_]) ++ [_]) ++ [_]
      simp [blocksA]
    · have := (row0_ok ns 0).2
      simp; omega
  exact List.length_pos_of_mem h

theorem law_true (w : World) {ns : List Int} (hn : ns.length ≤ 63) : Fn w 110 4 [⟨_, tList tInt, ns⟩] ⟨_, tBool, true⟩ := by
  have tb := tab_of ns
  refine fn_law w hn (fun b hb => ?_) (held_pos ns) (fun side r hs0 hs2 hr0 hrm => ?_) fun x y hx0 hx4 hy0 hy4 => ?_
  · obtain ⟨h1, h2, h3⟩ := (blocks_ok ns 5).1 b hb
    exact ⟨h1, h3, h2.2⟩
  · rw [tb.mt side r r hs0 hs2 hr0 hrm hr0 hrm, self_ok (tb.nib side r hs0 hs2 hr0 hrm).1]
    exact (tb.nib side r hs0 hs2 hr0 hrm).2
  · rw [← ex_eq ns hx0 hx4]
    refine talk_ok tb hx0 hx4 hy0 hy4 4 0 _ rfl (by decide) ⟨fun r hr => rng_mem hr, by rw [rng_len]; exact tb.m5, fun e => ?_⟩ ?_ ?_ ?_
    · have h := rng_len (heldA (blocksA ns 5)).length
      rw [e] at h
      have := held_pos ns
      rw [← h] at this
      exact absurd this (by decide)
    · unfold rng
      exact List.Pairwise.map _ (fun a b h e => h (Int.ofNat.inj e)) List.nodup_range
    · rw [rng_len]; simp
    · intro i hi0 him _ _
      obtain ⟨k, rfl⟩ : ∃ k : Nat, i = (k : Int) := ⟨i.toNat, by omega⟩
      unfold rng
      exact List.mem_map.mpr ⟨k, List.mem_range.mpr (by omega), rfl⟩
end Mine

open PySem PySem.W PyProof.Rows
namespace Mine
theorem good_true {c : ClaimW} {cl : Str → Option Addr} {mean : ExcName → Option Value} {args : List WData} {s₁ s' : Shared} (k : Keeps s₁ s') (hg : s₁.gens = #[]) (hn : ∀ cls, c.raises args cls = false) (hp : c.post args (.bool true) args = true) :
    GoodWG c cl mean args s₁ (.ok (.ret (.bool true))) s' := by
  have F := kp_hk k
  obtain ⟨h', t, rfl, _⟩ := k
  refine GoodW.toG ⟨.inl ⟨.bool true, .bool true, [], rfl, hn, ?_, hp, fun _ => ⟨.nil, fun _ h => by cases h⟩⟩, F, rfl, hg⟩
  exact .bool _
theorem law_call {w : World} {s : Shared} {mg mb : Str → Option Value} {mean : ExcName → Option Value} {fa l : Addr} {vs : List Value} {ns : List Int} (KX : (hd.heap_39 w.params).In s.heap)
    (T : Top hd.view_39 (looseW hd.view_39 [Str.ofString "Flags"]) mean mg mb s.heap) (hmg : mg (Str.ofString "law") = some (.ref fa)) (hL : s.heap.IsList l vs.toArray) (hI : IntsAre vs ns) (hn : ns.length ≤ 63) :
    wpAny (model PR w) callerA (call (.ref fa) [.ref l]) (fun v s' => Keeps s s' ∧ v = .bool true) NoE s := by
  have e : mg (Str.ofString "law") = some (.ref 110) := mg_of KX T.g rfl rfl rfl
  rw [hmg] at e
  cases e
  exact law_true w hn callerA [] s [.ref l] ⟨rfl, by decide, by decide⟩ ⟨KX, _, _, _, T⟩ (fun _ h => by cases h) ⟨⟨l, vs, rfl, lstV_of hL (by simp), of_ints hI⟩, trivial⟩
end Mine
set_option maxRecDepth 100000 in
set_option maxHeartbeats 8000000 in
theorem PySem.Challenge.cw_wj0003_01_holds : PySem.Challenge.rw_wj0003_01.Holds := by
  refine Mine.hd ?_
  k_fill
  intro w s₀ s₁ mg mb G Y fa o pm cd doc dV kV ho hd hcd hD hmg hg args vals as hpre hlay hrd hwl hlo
  have KX := kIn_of Y
  refine Ground.open G ?_
  intro T B D TE TW
  wrow_args hpre hlay hrd hwl hlo
  have hc := Mine.law_call KX T hmg (by assumption) (by assumption) (by omega)
  refine wpAny_mono hc (fun v s' q => ?_) fun _ _ q => q.elim
  obtain ⟨q, rfl⟩ := q
  refine Mine.good_true q hg ?_ ?_
  · exact fun _ => rfl
  · wrow_post
